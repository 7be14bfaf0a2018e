import JvmDerived
import JvmDerived.Pilot.@@N@@Statement
import JvmDerived.Pilot.@@N@@Code
set_option linter.unusedVariables false
set_option linter.unusedSimpArgs false
namespace Jvm.Pilot.@@N@@
open Jvm Jvm.ClassFile Sem Op Lib Jvm.Free Jvm.Stand Jvm.LawKit Jvm.RoadKit Bundle Jvm.Pilot.@@N@@.Jvm.D
/-- from the point (T, g) the body comes to its end, with what P says of value, heap and places -/
def own_E (p : Program) (e : Env) (below : List Frame) (s : State) (k n : Nat) (P : Option Value → Heap → List Loc → Prop) (T : State) (g : JFrame) : Prop :=
  ∃ s₂ o, Steps p.tables e below (T.setTop g) s₂ ∧ s₂.status = .running ∧ Ended s₂ below o ∧ ∃ v L, o = .returned v ∧ P v s₂.heap L ∧ FrameEnd s o s₂ L k n
/-- what a law leaves: true, and nothing old written -/
def own_L (n0 : Nat) (v : Option Value) (h : Heap) (L : List Loc) : Prop := v = some (.int (1 : Int32)) ∧ Fr n0 L
section Own
variable {p : Program} {l : Launch} {e : Env} {R : Room} {s : State} {m : MethodId} {args : Array Value} {below : List Frame} {meth : Method} {c : Code} {T T' : State} {locs : List Loc} {cells slots : Nat} {k n : Nat} {P : Option Value → Heap → List Loc → Prop} {g g' : JFrame}
theorem own_st (h : ∀ t, Steps p.tables e below (T'.setTop g') t → Steps p.tables e below (T.setTop g) t) (E : own_E p e below s k n P T' g') : own_E p e below s k n P T g := by
  obtain ⟨s₂, o, h1, r⟩ := E; exact ⟨s₂, o, h _ h1, r⟩
theorem own_end (X : Stand p l e R s m args below meth c T locs cells slots) {v : Option Value} (hv : meth.sig.returnType = none → v = none) (hlk : meth.locks = false) (hk : cells ≤ k) (hn : slots ≤ n) (hP : P v T.heap locs)
    (h : ∀ fs : List Frame, (∀ (f : JFrame) (acts : List Action), f.method = m → f.locked = none → f.entered = [] → (doReturn e (T.setTop f) acts v).1 = T.setFrames fs) → Steps p.tables e below (T.setTop g) (T.setFrames fs)) : own_E p e below s k n P T g := by
  obtain ⟨fs, hr, hrun, hended, hW, hsame⟩ := X.leave (v := v) hv hlk
  exact ⟨_, _, h fs hr, hrun, hended, _, _, rfl, hP, ⟨_, rfl⟩, hW, hsame.mono hk hn⟩
theorem own_retV (X : Stand p l e R s m args below meth c T locs cells slots) (hx : p.tables.exec = Jvm.exec) (hret : meth.sig.returnType = none) (hlk : meth.locks = false) {pc : Nat} {Ls : Array Slot} (hd : decode c.code pc = .ok (.return_, 1)) (hk : cells ≤ k) (hn : slots ≤ n) (hP : P none T.heap locs) : own_E p e below s k n P T (mkF m pc Ls []) :=
  own_end X (fun _ => rfl) hlk hk hn hP fun _ hr => X.returnOut hx hret hd hr
theorem own_retN (X : Stand p l e R s m args below meth c T locs cells slots) (hx : p.tables.exec = Jvm.exec) {t : FieldType} (hret : meth.sig.returnType = some t) (ht : t = .boolean ∨ t = .byte ∨ t = .char ∨ t = .short) (hlk : meth.locks = false) {pc : Nat} {Ls : Array Slot} {z : Int32} {rest : List Value} (hd : decode c.code pc = .ok (.ireturn, 1)) (hk : cells ≤ k) (hn : slots ≤ n) (hP : P (some (.int (nar t z))) T.heap locs) : own_E p e below s k n P T (mkF m pc Ls (.int z :: rest)) :=
  own_end X (fun h => by rw [hret] at h; cases h) hlk hk hn hP fun _ hr => retN X hx hret ht hd hr
theorem own_retI (X : Stand p l e R s m args below meth c T locs cells slots) (hx : p.tables.exec = Jvm.exec) (hret : meth.sig.returnType = some .int) (hlk : meth.locks = false) {pc : Nat} {Ls : Array Slot} {z : Int32} {rest : List Value} (hd : decode c.code pc = .ok (.ireturn, 1)) (hk : cells ≤ k) (hn : slots ≤ n) (hP : P (some (.int z)) T.heap locs) : own_E p e below s k n P T (mkF m pc Ls (.int z :: rest)) :=
  own_end X (fun h => by rw [hret] at h; cases h) hlk hk hn hP fun _ hr => retOut X hx hret rfl (Or.inl ⟨rfl, Or.inl rfl, z, rfl⟩) hd hr
theorem own_retL (X : Stand p l e R s m args below meth c T locs cells slots) (hx : p.tables.exec = Jvm.exec) (hret : meth.sig.returnType = some .long) (hlk : meth.locks = false) {pc : Nat} {Ls : Array Slot} {z : Int64} {rest : List Value} (hd : decode c.code pc = .ok (.lreturn, 1)) (hk : cells ≤ k) (hn : slots ≤ n) (hP : P (some (.long z)) T.heap locs) : own_E p e below s k n P T (mkF m pc Ls (.long z :: rest)) :=
  own_end X (fun h => by rw [hret] at h; cases h) hlk hk hn hP fun _ hr => retOut X hx hret rfl (Or.inr (Or.inl ⟨rfl, rfl, z, rfl⟩)) hd hr
theorem own_narR {t : FieldType} {v : Value} (ht : t.isReference = true) : narrow t v = v := by cases t <;> first | (cases ht; done) | (cases v <;> rfl)
theorem own_fitR {t : FieldType} {v : Value} (h : v.isRef = true) (ht : t.isReference = true) : fits t v = true := by cases t <;> first | (cases ht; done) | (cases v <;> first | (cases h; done) | rfl)
theorem own_retA (X : Stand p l e R s m args below meth c T locs cells slots) (hx : p.tables.exec = Jvm.exec) {t : FieldType} (hret : meth.sig.returnType = some t) (ht : t.isReference = true) {w : Value} (hw : w.isRef = true) (hlk : meth.locks = false) {pc : Nat} {Ls : Array Slot} {rest : List Value} (hd : decode c.code pc = .ok (.areturn, 1)) (hk : cells ≤ k) (hn : slots ≤ n) (hP : P (some w) T.heap locs) : own_E p e below s k n P T (mkF m pc Ls (w :: rest)) :=
  own_end X (fun h => by rw [hret] at h; cases h) hlk hk hn hP fun _ hr => retOut X hx hret (own_narR ht) (Or.inr (Or.inr (Or.inr (Or.inr ⟨rfl, ht, hw⟩)))) hd hr
end Own
/-! the calls, their figures said plainly -/
section OwnCalls
variable {p : Program} {l : Launch} {e : Env} {R : Room} {s : State} {m : MethodId} {args : Array Value} {below : List Frame} {meth : Method} {c : Code} {T : State} {locs : List Loc} {cells slots : Nat} {W : Nat} {rm : Room} {as' : Array Value} {Q : Option Value → Heap → List Loc → Prop} {h : Heap} {c' s' : Nat}
theorem own_callS (X : Stand p l e R s m args below meth c T locs cells slots) (hx : p.tables.exec = Jvm.exec) {own : String} {index : Nat} {y : MethodName} {bytes : ByteArray} {maxL : Nat} {ret : Option FieldType} (hown : s.vm.findClass own = some m.cls) (hlink : (Cond.methodLink own index y).before args s = true) (hstat : (Cond.static y).before args s = true) (hinit : (Cond.initialized y.cls).before args s = true) (hcode : (Cond.code y bytes maxL ret).before args s = true) (hy : y.cls ≠ "java/lang/invoke/MethodHandle" ∧ y.cls ≠ "java/lang/invoke/VarHandle") (hK : Back l R p e below s args y 3 W (fun A a => a = as' ∧ A.U.heap = h ∧ A.cells + rm.cells ≤ R.cells ∧ A.slots + rm.slots ≤ R.slots) (fun A _ v B => ∃ L, Q v B.U.heap L ∧ B.locs = A.locs ++ L ∧ B.cells = A.cells + rm.cells ∧ B.slots = A.slots + rm.slots)) {g : JFrame} (hg : g.method = m) (hsize : g.locals.size = c.maxLocals) {argsL rest : List Value} (hlen : ∀ sig, parseMethodDescriptor y.desc = some sig → argsL.length = sig.parameters.length) (hstack : g.stack = argsL.reverse ++ rest) (hW : 2 * g.monitorRoom + (rest.map fun v => v.category).sum ≤ W) (hdg : decode c.code g.pc = .ok (.invokestatic index, 3)) (ha : argsL.toArray = as') (eT : T.heap = h) (hc : cells + rm.cells ≤ R.cells) (hs : slots + rm.slots ≤ R.slots) (h1 : cells + rm.cells = c') (h2 : slots + rm.slots = s') :
    ∃ (v : Option Value) (T' : State) (L : List Loc), Stand p l e R s m args below meth c T' (locs ++ L) c' s' ∧ Q v T'.heap L ∧ ∀ t, Steps p.tables e below (T'.setTop { g with pc := g.pc + 3, stack := v.toList ++ rest }) t → Steps p.tables e below (T.setTop g) t := by
  subst h1 h2
  obtain ⟨v, vm₁, ⟨T', L', k', n'⟩, -, X', ⟨L, hQ, h3, h4, h5⟩, st⟩ := Jvm.LawKit.callS X hx hown hlink hstat hinit hcode hy hK hg hsize hlen hstack hW hdg (fun _ _ => ⟨ha, eT, hc, hs⟩)
  dsimp only [Pt.U, Pt.locs, Pt.cells, Pt.slots] at X' h3 h4 h5 st hQ
  subst h3 h4 h5
  exact ⟨v, T', L, X', hQ, st⟩
theorem own_callI (X : Stand p l e R s m args below meth c T locs cells slots) (hx : p.tables.exec = Jvm.exec) {own : String} {index : Nat} {y : MethodName} {bytes : ByteArray} {maxL : Nat} (hy1 : y.name = "<init>") (hown : s.vm.findClass own = some m.cls) (hlink : (Cond.methodLink own index y).before args s = true) (hinst : (Cond.instanceMethod y).before args s = true) (hcode : (Cond.code y bytes maxL none).before args s = true) (hy : y.cls ≠ "java/lang/invoke/MethodHandle" ∧ y.cls ≠ "java/lang/invoke/VarHandle") (hK : Back l R p e below s args y 3 W (fun A a => a = as' ∧ A.U.heap = h ∧ A.cells + rm.cells ≤ R.cells ∧ A.slots + rm.slots ≤ R.slots) (fun A _ v B => ∃ L, Q v B.U.heap L ∧ B.locs = A.locs ++ L ∧ B.cells = A.cells + rm.cells ∧ B.slots = A.slots + rm.slots)) {g : JFrame} (hg : g.method = m) (hsize : g.locals.size = c.maxLocals) {a : Addr} {argsL rest : List Value} (hlen : ∀ sig, parseMethodDescriptor y.desc = some sig → argsL.length = sig.parameters.length) (hstack : g.stack = argsL.reverse ++ .ref a :: rest) (hW : 2 * g.monitorRoom + (rest.map fun v => v.category).sum ≤ W) (hdg : decode c.code g.pc = .ok (.invokespecial index, 3)) (ha : (.ref a :: argsL).toArray = as') (eT : T.heap = h) (hc : cells + rm.cells ≤ R.cells) (hs : slots + rm.slots ≤ R.slots) (h1 : cells + rm.cells = c') (h2 : slots + rm.slots = s') :
    ∃ (v : Option Value) (T' : State) (L : List Loc), Stand p l e R s m args below meth c T' (locs ++ L) c' s' ∧ Q v T'.heap L ∧ ∀ t, Steps p.tables e below (T'.setTop { g with pc := g.pc + 3, stack := v.toList ++ rest }) t → Steps p.tables e below (T.setTop g) t := by
  subst h1 h2
  obtain ⟨v, vm₁, ⟨T', L', k', n'⟩, -, X', ⟨L, hQ, h3, h4, h5⟩, st⟩ := X.specialBack hx hy1 hown hlink hinst hcode hy hK hg hsize (Steps.refl _) hlen hstack hW hdg (fun _ _ => ⟨ha, eT, hc, hs⟩)
  dsimp only [Pt.U, Pt.locs, Pt.cells, Pt.slots] at X' h3 h4 h5 st hQ
  subst h3 h4 h5
  exact ⟨v, T', L, X', hQ, fun t k => st.trans k⟩
theorem own_callP (X : Stand p l e R s m args below meth c T locs cells slots) (hx : p.tables.exec = Jvm.exec) {own : String} {index : Nat} {y : MethodName} {bytes : ByteArray} {maxL : Nat} {ret : Option FieldType} (hown : s.vm.findClass own = some m.cls) (hlink : (Cond.methodLink own index y).before args s = true) (hinst : (Cond.instanceMethod y).before args s = true) (hsel : (Cond.selects y.cls y y).before args s = true) (hpriv : s.PrivateAt y) (hcode : (Cond.code y bytes maxL ret).before args s = true) (hy : y.cls ≠ "java/lang/invoke/MethodHandle" ∧ y.cls ≠ "java/lang/invoke/VarHandle") (hK : Back l R p e below s args y 3 W (fun A a => a = as' ∧ A.U.heap = h ∧ A.cells + rm.cells ≤ R.cells ∧ A.slots + rm.slots ≤ R.slots) (fun A _ v B => ∃ L, Q v B.U.heap L ∧ B.locs = A.locs ++ L ∧ B.cells = A.cells + rm.cells ∧ B.slots = A.slots + rm.slots)) {g : JFrame} (hg : g.method = m) (hsize : g.locals.size = c.maxLocals) {a : Addr} {cell : Cell} (hcell : T.heap[a]? = some cell) (hobj : ∀ q, cell.vm ≠ .statics q) {argsL rest : List Value} (hlen : ∀ sig, parseMethodDescriptor y.desc = some sig → argsL.length = sig.parameters.length) (hstack : g.stack = argsL.reverse ++ .ref a :: rest) (hW : 2 * g.monitorRoom + (rest.map fun v => v.category).sum ≤ W) (hdg : decode c.code g.pc = .ok (.invokevirtual index, 3)) (ha : (.ref a :: argsL).toArray = as') (eT : T.heap = h) (hc : cells + rm.cells ≤ R.cells) (hs : slots + rm.slots ≤ R.slots) (h1 : cells + rm.cells = c') (h2 : slots + rm.slots = s') :
    ∃ (v : Option Value) (T' : State) (L : List Loc), Stand p l e R s m args below meth c T' (locs ++ L) c' s' ∧ Q v T'.heap L ∧ ∀ t, Steps p.tables e below (T'.setTop { g with pc := g.pc + 3, stack := v.toList ++ rest }) t → Steps p.tables e below (T.setTop g) t := by
  subst h1 h2
  obtain ⟨v, vm₁, ⟨T', L', k', n'⟩, -, X', ⟨L, hQ, h3, h4, h5⟩, st⟩ := X.privateBack hx hown hlink hinst hsel hpriv hcode hy hK hg hsize (Steps.refl _) hcell hobj hlen hstack hW hdg (fun _ _ => ⟨ha, eT, hc, hs⟩)
  dsimp only [Pt.U, Pt.locs, Pt.cells, Pt.slots] at X' h3 h4 h5 st hQ
  subst h3 h4 h5
  exact ⟨v, T', L, X', hQ, fun t k => st.trans k⟩
theorem own_callV (X : Stand p l e R s m args below meth c T locs cells slots) (hx : p.tables.exec = Jvm.exec) {own : String} {index : Nat} {C : String} {y z : MethodName} (hown : s.vm.findClass own = some m.cls) (hlink : (Cond.methodLink own index y).before args s = true) (hdecl : (Cond.declares y).before args s = true) (hnf : NotFace s y) (hsel : (Cond.selects C y z).before args s = true) (hinst : (Cond.instanceMethod z).before args s = true) (hy : y.cls ≠ "java/lang/invoke/MethodHandle" ∧ y.cls ≠ "java/lang/invoke/VarHandle") (hK : Back l R p e below s args z 3 W (fun A a => a = as' ∧ A.U.heap = h ∧ A.cells + rm.cells ≤ R.cells ∧ A.slots + rm.slots ≤ R.slots) (fun A _ v B => ∃ L, Q v B.U.heap L ∧ B.locs = A.locs ++ L ∧ B.cells = A.cells + rm.cells ∧ B.slots = A.slots + rm.slots)) {b : Addr} {cB : ClassId} (hcB : s.vm.findClass C = some cB) (hrecv : IsOf cB T b) {g : JFrame} (hg : g.method = m) (hsize : g.locals.size = c.maxLocals) {argsL rest : List Value} (hlen : ∀ sig, parseMethodDescriptor y.desc = some sig → argsL.length = sig.parameters.length) (hstack : g.stack = argsL.reverse ++ .ref b :: rest) (hW : 2 * g.monitorRoom + (rest.map fun v => v.category).sum ≤ W) (hdg : decode c.code g.pc = .ok (.invokevirtual index, 3)) (ha : (.ref b :: argsL).toArray = as') (eT : T.heap = h) (hc : cells + rm.cells ≤ R.cells) (hs : slots + rm.slots ≤ R.slots) (h1 : cells + rm.cells = c') (h2 : slots + rm.slots = s') :
    ∃ (v : Option Value) (T' : State) (L : List Loc), Stand p l e R s m args below meth c T' (locs ++ L) c' s' ∧ Q v T'.heap L ∧ ∀ t, Steps p.tables e below (T'.setTop { g with pc := g.pc + 3, stack := v.toList ++ rest }) t → Steps p.tables e below (T.setTop g) t := by
  subst h1 h2
  obtain ⟨v, vm₁, ⟨T', L', k', n'⟩, -, X', ⟨L, hQ, h3, h4, h5⟩, st⟩ := X.virtualBack hx hown hlink hdecl hnf hsel hinst hy hK hcB hrecv hg hsize (Steps.refl _) hlen hstack hW hdg (fun _ _ => ⟨ha, eT, hc, hs⟩)
  dsimp only [Pt.U, Pt.locs, Pt.cells, Pt.slots] at X' h3 h4 h5 st hQ
  subst h3 h4 h5
  exact ⟨v, T', L, X', hQ, fun t k => st.trans k⟩
theorem own_callF (X : Stand p l e R s m args below meth c T locs cells slots) (hx : p.tables.exec = Jvm.exec) {own : String} {index count : Nat} {C : String} {xi y : MethodName} (hown : s.vm.findClass own = some m.cls) (hlink : (Cond.methodLink own index xi).before args s = true) (hdecl : (Cond.declares xi).before args s = true) (hface : (Cond.interfaceMethod xi.cls xi.cls xi.name xi.desc).before args s = true) (hsel : (Cond.selects C xi y).before args s = true) (hinst : (Cond.instanceMethod y).before args s = true) (hpub : (Cond.publicMethod y).before args s = true) (hunh : (Cond.unhidden C xi.name xi.desc).before args s = true) (hcast : (Cond.castable C xi.cls).before args s = true) (hy : xi.cls ≠ "java/lang/invoke/MethodHandle" ∧ xi.cls ≠ "java/lang/invoke/VarHandle") (hK : Back l R p e below s args y 5 W (fun A a => a = as' ∧ A.U.heap = h ∧ A.cells + rm.cells ≤ R.cells ∧ A.slots + rm.slots ≤ R.slots) (fun A _ v B => ∃ L, Q v B.U.heap L ∧ B.locs = A.locs ++ L ∧ B.cells = A.cells + rm.cells ∧ B.slots = A.slots + rm.slots)) {b : Addr} {cB : ClassId} {kB : Class} (hcB : s.vm.findClass C = some cB) (hkB : s.vm.classes[cB]? = some kB) (hrecv : IsOf cB T b) {g : JFrame} (hg : g.method = m) (hsize : g.locals.size = c.maxLocals) {argsL rest : List Value} (hlen : ∀ sig, parseMethodDescriptor xi.desc = some sig → argsL.length = sig.parameters.length) (hstack : g.stack = argsL.reverse ++ .ref b :: rest) (hW : 2 * g.monitorRoom + (rest.map fun v => v.category).sum ≤ W) (hdg : decode c.code g.pc = .ok (.invokeinterface index count, 5)) (ha : (.ref b :: argsL).toArray = as') (eT : T.heap = h) (hc : cells + rm.cells ≤ R.cells) (hs : slots + rm.slots ≤ R.slots) (h1 : cells + rm.cells = c') (h2 : slots + rm.slots = s') :
    ∃ (v : Option Value) (T' : State) (L : List Loc), Stand p l e R s m args below meth c T' (locs ++ L) c' s' ∧ Q v T'.heap L ∧ ∀ t, Steps p.tables e below (T'.setTop { g with pc := g.pc + 5, stack := v.toList ++ rest }) t → Steps p.tables e below (T.setTop g) t := by
  subst h1 h2
  obtain ⟨v, vm₁, ⟨T', L', k', n'⟩, -, X', ⟨L, hQ, h3, h4, h5⟩, st⟩ := X.interfaceBack hx hown hlink hdecl hface hsel hinst hpub hunh hcast hy hK hcB hkB hrecv hg hsize (Steps.refl _) hlen hstack hW hdg (fun _ _ => ⟨ha, eT, hc, hs⟩)
  dsimp only [Pt.U, Pt.locs, Pt.cells, Pt.slots] at X' h3 h4 h5 st hQ
  subst h3 h4 h5
  exact ⟨v, T', L, X', hQ, fun t k => st.trans k⟩
end OwnCalls
theorem own_z {Z : State} {n0 : Nat} {h : Heap} (O : Old Z n0 h) : n0 ≤ h.size := O.1 ▸ O.2.1
theorem own_oldlt {Z : State} {n0 : Nat} {h : Heap} {a : Addr} (O : Old Z n0 h) (q : a < Z.heap.size) : a < h.size := Nat.lt_of_lt_of_le q O.2.1
theorem own_ext {h h' : Heap} (K : Keep h h' []) : Ext h h' := ⟨K.1, fun x c q => K.2.1 x c q nin0⟩
theorem own_fld0 {args : Array Value} {Z : State} {t : Term} {a : Addr} {C n d : String} {k : Int32} (ev : t.eval args Z none [] Z = some (.ref a)) (h : (Jvm.Cond.eq (Term.field t C n d) (Term.int k)).value args Z none Z [] = some true) : Fld Z Z.heap a C n d (.int k) := by
  cases hv : Z.fieldOf? a C n d with
  | none => simp [Cond.value, Term.eval, ev, hv] at h
  | some x => cases x <;> simp [Cond.value, Term.eval, ev, hv] at h; subst h; exact Fld.start hv
theorem own_nz {args : Array Value} {Z : State} {t : Term} {cz : Int32} (ev : t.eval args Z none [] Z = some (.int cz)) (h : (Jvm.Cond.not (Jvm.Cond.eq t (Term.int (0 : Int32)))).value args Z none Z [] = some true) : ¬ cz = (0 : Int32) := by
  simpa [Cond.value, ev, Term.eval] using h
theorem own_neF {Z : State} {h : Heap} {a b : Addr} {C n d : String} {x y : Value} (F : Fld Z h a C n d x) (G : Fld Z h b C n d y) (q : x ≠ y) : a ≠ b := fun e => by
  subst e
  obtain ⟨c1, cf1, k1, i1, f1, h1, h2, -, -, -, -, h7⟩ := F
  obtain ⟨c2, cf2, k2, i2, f2, g1, g2, -, -, -, -, g7⟩ := G
  cases h1.symm.trans g1
  cases h2.symm.trans g2
  exact q (Option.some.inj (h7.symm.trans g7))
theorem own_rem (x y : Int32) (d : Int) (hd : 0 < d) (hy : y.toInt = d) : 0 ≤ ((x &&& 2147483647) % y).toInt ∧ ((x &&& 2147483647) % y).toInt < d := by
  have h1 := (c_andS x 2147483647).2.2 (by decide)
  have h2 := (c_irem (x &&& 2147483647) y d hy).1 h1
  rw [h2]; exact ⟨Int.emod_nonneg _ (by omega), Int.emod_lt_of_pos _ hd⟩
theorem own_nc (x : Int32) : nar .char ((x &&& 255).toUInt32.toUInt16.toUInt32.toInt32) = x &&& 255 := by
  show ((x &&& 255).toUInt32.toUInt16.toUInt32.toInt32).toUInt32.toUInt16.toUInt32.toInt32 = _
  rw [i2c_mask, i2c_mask]
theorem own_ncm (x : Int32) : nar .char (x &&& 255) = x &&& 255 := i2c_mask x
theorem own_bb (b : Int32) : nar .byte (b.toInt8.toInt32) = b.toInt8.toInt32 := by
  show b.toInt8.toInt32.toInt8.toInt32 = _
  have h1 := c_i2b b
  have h2 := c_i2b b.toInt8.toInt32
  exact Int32.toInt_inj.mp (by omega)
theorem own_neA {Z : State} {h : Heap} {a b : Addr} {C : String} {k : Nat} {a0 : Array Value} {kb : ClassId} {ty : FieldType} {n : Int32} {vs : List Value} {dv : Value} (E : Exa Z h a C) (wi : (Jvm.Cond.instantiable C k).before a0 Z = true) (F : Arv Z h b kb ty n vs dv) : a ≠ b := by
  obtain ⟨c, A, -⟩ := F; exact ne_arr E wi A
theorem own_r255 (x : Int32) : ¬ (x &&& 255) < (0 : Int32) ∧ ¬ (255 : Int32) < (x &&& 255) := by
  have e := c_mask x 255 8 (by decide) (by decide)
  have z0 : (0 : Int32).toInt = 0 := rfl
  have z1 : (255 : Int32).toInt = 255 := rfl
  have z2 : ((2 ^ 8 : Nat) : Int) = 256 := rfl
  constructor <;> rw [Int32.lt_iff_toInt_lt] <;> omega
theorem own_c255 (x : Int32) : ¬ (255 : Int32) < nar .char ((x &&& 255).toUInt32.toUInt16.toUInt32.toInt32) := by rw [own_nc]; exact (own_r255 x).2
theorem own_eqI {x y : Int32} (h : x.toInt = y.toInt) : x = y := Int32.toInt_inj.mp h
/-- own_E where String constants may be met: the tables may have been warmed widely; EL: the constants whose texts are held -/
def own_W (p : Program) (e : Env) (below : List Frame) (s : State) (k n : Nat) (Z : State) (EL : List (String × Nat)) (hs : Heap) (P : Option Value → Heap → List Loc → Prop) (T : State) (g : JFrame) : Prop :=
  ∃ s₂ o, Steps p.tables e below (T.setTop g) s₂ ∧ s₂.status = .running ∧ Ended s₂ below o ∧ ∃ v L, o = .returned v ∧ P v s₂.heap L ∧ CHr Z EL s.vm hs s₂.vm s₂.heap ∧ ReturnedEndW s o s₂ L k n
section OwnW
variable {p : Program} {l : Launch} {e : Env} {R : Room} {s : State} {m : MethodId} {args : Array Value} {below : List Frame} {meth : Method} {c : Code} {T T' : State} {locs : List Loc} {cells slots : Nat} {k n : Nat} {P : Option Value → Heap → List Loc → Prop} {g g' : JFrame} {Z : State} {EL : List (String × Nat)} {vm0 : Vm} {k0 : Nat} {a0 : Array Value} {hs : Heap}
theorem own_W0 (hh : s.heap = hs) (E : own_W p e below s k n Z EL hs P T g) : ∃ s₂ o, Steps p.tables e below (T.setTop g) s₂ ∧ s₂.status = .running ∧ Ended s₂ below o ∧ ∃ v L, o = .returned v ∧ P v s₂.heap L ∧ CHr Z EL s.vm s.heap s₂.vm s₂.heap ∧ ReturnedEndW s o s₂ L k n := by
  subst hh; exact E
theorem own_hZ (hZ : Z.Warmed39 s.vm) (hS : s.Since vm0 k0) : Z.Warmed39 (s.setVm vm0).vm := State.Warmed39.trans (t := s) hZ hS.1
theorem own_hown {own : String} {cc : ClassId} (h : s.vm.findClass own = some cc) (hS : s.Since vm0 k0) : (s.setVm vm0).vm.findClass own = some cc := by
  rw [show (s.setVm vm0).vm = vm0 from rfl, hS.1.alike.findClass]; exact h
theorem own_stW (h : ∀ t, Steps p.tables e below (T'.setTop g') t → Steps p.tables e below (T.setTop g) t) (E : own_W p e below s k n Z EL hs P T' g') : own_W p e below s k n Z EL hs P T g := by
  obtain ⟨s₂, o, h1, r⟩ := E; exact ⟨s₂, o, h _ h1, r⟩
theorem own_endW (X : Stand p l e R (s.setVm vm0) m args below meth c T locs cells slots) (hZ : Z.Warmed39 vm0) (hS : s.Since vm0 k0) (hk0 : k0 ≤ T.heap.size) (hEL : EW Z a0 EL) (A : CHr Z EL s.vm hs vm0 T.heap) {v : Option Value} (hv : meth.sig.returnType = none → v = none) (hlk : meth.locks = false) (hk : cells ≤ k) (hn : slots ≤ n) (hP : P v T.heap locs)
    (h : ∀ fs : List Frame, (∀ (f : JFrame) (acts : List Action), f.method = m → f.locked = none → f.entered = [] → (doReturn e (T.setTop f) acts v).1 = T.setFrames fs) → Steps p.tables e below (T.setTop g) (T.setFrames fs)) : own_W p e below s k n Z EL hs P T g := by
  obtain ⟨fs, hr, hrun, hended, r1, r2, r3, r4⟩ := X.leaveW hS hk0 (v := v) hv hlk
  exact ⟨_, _, h fs hr, hrun, hended, _, _, rfl, hP, A.trans (show CHr Z EL vm0 T.heap T.vm T.heap from CHv.at X hZ hEL A.1), r1, r2, r3, r4.mono hk hn⟩
theorem own_retVW (X : Stand p l e R (s.setVm vm0) m args below meth c T locs cells slots) (hZ : Z.Warmed39 vm0) (hS : s.Since vm0 k0) (hk0 : k0 ≤ T.heap.size) (hEL : EW Z a0 EL) (A : CHr Z EL s.vm hs vm0 T.heap) (hx : p.tables.exec = Jvm.exec) (hret : meth.sig.returnType = none) (hlk : meth.locks = false) {pc : Nat} {Ls : Array Slot} (hd : decode c.code pc = .ok (.return_, 1)) (hk : cells ≤ k) (hn : slots ≤ n) (hP : P none T.heap locs) : own_W p e below s k n Z EL hs P T (mkF m pc Ls []) :=
  own_endW X hZ hS hk0 hEL A (fun _ => rfl) hlk hk hn hP fun _ hr => X.returnOut hx hret hd hr
theorem own_retNW (X : Stand p l e R (s.setVm vm0) m args below meth c T locs cells slots) (hZ : Z.Warmed39 vm0) (hS : s.Since vm0 k0) (hk0 : k0 ≤ T.heap.size) (hEL : EW Z a0 EL) (A : CHr Z EL s.vm hs vm0 T.heap) (hx : p.tables.exec = Jvm.exec) {t : FieldType} (hret : meth.sig.returnType = some t) (ht : t = .boolean ∨ t = .byte ∨ t = .char ∨ t = .short) (hlk : meth.locks = false) {pc : Nat} {Ls : Array Slot} {z : Int32} {rest : List Value} (hd : decode c.code pc = .ok (.ireturn, 1)) (hk : cells ≤ k) (hn : slots ≤ n) (hP : P (some (.int (nar t z))) T.heap locs) : own_W p e below s k n Z EL hs P T (mkF m pc Ls (.int z :: rest)) :=
  own_endW X hZ hS hk0 hEL A (fun h => by rw [hret] at h; cases h) hlk hk hn hP fun _ hr => retN X hx hret ht hd hr
theorem own_retIW (X : Stand p l e R (s.setVm vm0) m args below meth c T locs cells slots) (hZ : Z.Warmed39 vm0) (hS : s.Since vm0 k0) (hk0 : k0 ≤ T.heap.size) (hEL : EW Z a0 EL) (A : CHr Z EL s.vm hs vm0 T.heap) (hx : p.tables.exec = Jvm.exec) (hret : meth.sig.returnType = some .int) (hlk : meth.locks = false) {pc : Nat} {Ls : Array Slot} {z : Int32} {rest : List Value} (hd : decode c.code pc = .ok (.ireturn, 1)) (hk : cells ≤ k) (hn : slots ≤ n) (hP : P (some (.int z)) T.heap locs) : own_W p e below s k n Z EL hs P T (mkF m pc Ls (.int z :: rest)) :=
  own_endW X hZ hS hk0 hEL A (fun h => by rw [hret] at h; cases h) hlk hk hn hP fun _ hr => retOut X hx hret rfl (Or.inl ⟨rfl, Or.inl rfl, z, rfl⟩) hd hr
theorem own_retAW (X : Stand p l e R (s.setVm vm0) m args below meth c T locs cells slots) (hZ : Z.Warmed39 vm0) (hS : s.Since vm0 k0) (hk0 : k0 ≤ T.heap.size) (hEL : EW Z a0 EL) (A : CHr Z EL s.vm hs vm0 T.heap) (hx : p.tables.exec = Jvm.exec) {t : FieldType} (hret : meth.sig.returnType = some t) (ht : t.isReference = true) {w : Value} (hw : w.isRef = true) (hlk : meth.locks = false) {pc : Nat} {Ls : Array Slot} {rest : List Value} (hd : decode c.code pc = .ok (.areturn, 1)) (hk : cells ≤ k) (hn : slots ≤ n) (hP : P (some w) T.heap locs) : own_W p e below s k n Z EL hs P T (mkF m pc Ls (w :: rest)) :=
  own_endW X hZ hS hk0 hEL A (fun h => by rw [hret] at h; cases h) hlk hk hn hP fun _ hr => retOut X hx hret (own_narR ht) (Or.inr (Or.inr (Or.inr (Or.inr ⟨rfl, ht, hw⟩)))) hd hr
/-- who pays a callee of ours that may meet String constants: 'sf', the objects that are none of them -/
theorem own_backW {y : MethodName} {bytes : ByteArray} {maxL : Nat} {ret : Option FieldType} {rm : Room} {len W : Nat} {as' : Array Value} {Q : Option Value → Heap → List Loc → Prop} {h : Heap} {sf : List Addr}
    (hM : MetFree l y (head1 [Jvm.Cond.code y bytes maxL ret] rm) (fun a U => a = as' ∧ Z.Warmed39 U.vm ∧ U.heap = h ∧ CHv Z EL U.vm h ∧ ∀ x ∈ sf, Safe Z EL U.vm h x) (fun _ _ _ _ _ => True) (fun _ U o U' => ∃ v L, o = .returned v ∧ Q v U'.heap L ∧ CHr Z EL U.vm U.heap U'.vm U'.heap ∧ ReturnedEndW U o U' L rm.cells rm.slots))
    (hZ : Z.Warmed39 (s.setVm vm0).vm) (wc : (Jvm.Cond.code y bytes maxL ret).before a0 Z = true) (wz : (Jvm.Cond.initialized y.cls).before a0 Z = true) (hf : rm.frames + 1 ≤ R.frames) (hl : W + (maxL + 11) + rm.locals ≤ R.locals) (hEL : EW Z a0 EL) (H : CHv Z EL vm0 h) (S : ∀ x ∈ sf, Safe Z EL vm0 h x) (St : ∀ x ∈ sf, x < h.size) :
    BackS l R p e below (s.setVm vm0) args y len W (fun A a => a = as' ∧ A.U.heap = h ∧ A.cells + rm.cells ≤ R.cells ∧ A.slots + rm.slots ≤ R.slots)
      (fun A _ v B => ∃ L, Q v B.U.heap L ∧ B.locs = A.locs ++ L ∧ B.cells = A.cells + rm.cells ∧ B.slots = A.slots + rm.slots ∧ CHr Z EL vm0 h B.U.vm B.U.heap) := by
  have hZ' : Z.Warmed39 vm0 := hZ
  refine BackS.of_freeW (bytes := bytes) (maxL := maxL) (ret := ret) (E := fun _ first o t L k n => k = rm.cells ∧ n = rm.slots ∧ (∃ v, o = .returned v ∧ Q v t.heap L) ∧ CHr Z EL first.vm first.heap t.vm t.heap) hM hf hl ?_ ?_ (fun _ _ _ _ _ _ _ _ _ => trivial) ?_ ?_
  · intro m meth c A a Y hp
    have hU : Z.Warmed39 A.U.vm := wtrans (s := s.setVm vm0) hZ Y.warmed
    refine ⟨?_, mv hU wc, mv hU wz, hp.2.2.1, hp.2.2.2⟩
    show (Jvm.Cond.and _ .tt).before a A.U = true
    rw [Cond.before_and, mv hU wc]; rfl
  · intro m meth c A a g mk Y hp
    have K := CHv.at Y hZ' hEL H
    exact ⟨hp.1, wtrans (s := s.setVm vm0) hZ Y.warmed, hp.2.1, K.1, fun x hx => K.safe (St x hx) (S x hx)⟩
  · rintro _ _ _ _ ⟨v, L, h1, h2, h3, h4⟩
    exact ⟨L, _, _, h4, rfl, rfl, ⟨v, h1, h2⟩, h3⟩
  · rintro m meth c A a g mk v t L k n Y hp _ _ ⟨e1, e2, ⟨v', e3, e4⟩, e5⟩
    cases e3; subst e1 e2
    refine ⟨L, e4, rfl, rfl, rfl, (CHv.at Y hZ' hEL H).trans ?_⟩
    rw [← hp.2.1]; exact e5
theorem own_callSW {W : Nat} {rm : Room} {as' : Array Value} {Q : Option Value → Heap → List Loc → Prop} {h : Heap} {c' s' : Nat} (X : Stand p l e R (s.setVm vm0) m args below meth c T locs cells slots) (hx : p.tables.exec = Jvm.exec) {own : String} {index : Nat} {y : MethodName} {bytes : ByteArray} {maxL : Nat} {ret : Option FieldType} (hown : (s.setVm vm0).vm.findClass own = some m.cls) (hlink : (Jvm.Cond.methodLink own index y).before args (s.setVm vm0) = true) (hstat : (Jvm.Cond.static y).before args (s.setVm vm0) = true) (hinit : (Jvm.Cond.initialized y.cls).before args (s.setVm vm0) = true) (hcode : (Jvm.Cond.code y bytes maxL ret).before args (s.setVm vm0) = true) (hy : y.cls ≠ "java/lang/invoke/MethodHandle" ∧ y.cls ≠ "java/lang/invoke/VarHandle") (hK : BackS l R p e below (s.setVm vm0) args y 3 W (fun A a => a = as' ∧ A.U.heap = h ∧ A.cells + rm.cells ≤ R.cells ∧ A.slots + rm.slots ≤ R.slots) (fun A _ v B => ∃ L, Q v B.U.heap L ∧ B.locs = A.locs ++ L ∧ B.cells = A.cells + rm.cells ∧ B.slots = A.slots + rm.slots ∧ CHr Z EL vm0 h B.U.vm B.U.heap)) {g : JFrame} (hg : g.method = m) (hsize : g.locals.size = c.maxLocals) {argsL rest : List Value} (hlen : ∀ sig, parseMethodDescriptor y.desc = some sig → argsL.length = sig.parameters.length) (hstack : g.stack = argsL.reverse ++ rest) (hW : 2 * g.monitorRoom + (rest.map fun v => v.category).sum ≤ W) (hdg : decode c.code g.pc = .ok (.invokestatic index, 3)) (ha : argsL.toArray = as') (eT : T.heap = h) (hc : cells + rm.cells ≤ R.cells) (hs' : slots + rm.slots ≤ R.slots) (h1 : cells + rm.cells = c') (h2 : slots + rm.slots = s') (hS : s.Since vm0 k0) (hk : k0 ≤ h.size) :
    ∃ (v : Option Value) (T' : State) (L : List Loc), Stand p l e R (s.setVm T'.vm) m args below meth c T' (locs ++ L) c' s' ∧ s.Since T'.vm T'.heap.size ∧ Q v T'.heap L ∧ CHr Z EL vm0 h T'.vm T'.heap ∧ ∀ t, Steps p.tables e below (T'.setTop { g with pc := g.pc + 3, stack := v.toList ++ rest }) t → Steps p.tables e below (T.setTop g) t := by
  subst h1 h2
  obtain ⟨v, vm₁, ⟨T', L', k', n'⟩, -, X', hS2, hgr, ⟨L, hQ, h3, h4, h5, ch⟩, st⟩ := callSS X hx hown hlink hstat hinit hcode hy hK hg hsize hlen hstack hW hdg (fun _ _ => ⟨ha, eT, hc, hs'⟩)
  dsimp only [Pt.U, Pt.locs, Pt.cells, Pt.slots] at X' hS2 hgr h3 h4 h5 st hQ ch
  subst h3 h4 h5
  exact ⟨v, T', L, X', hS.trans hS2 (Nat.le_trans (eT ▸ hk) hgr), hQ, ch, fun t k => st.trans k⟩
theorem own_callIW {W : Nat} {rm : Room} {as' : Array Value} {Q : Option Value → Heap → List Loc → Prop} {h : Heap} {c' s' : Nat} (X : Stand p l e R (s.setVm vm0) m args below meth c T locs cells slots) (hx : p.tables.exec = Jvm.exec) {own : String} {index : Nat} {y : MethodName} {bytes : ByteArray} {maxL : Nat} (hy1 : y.name = "<init>") (hown : (s.setVm vm0).vm.findClass own = some m.cls) (hlink : (Jvm.Cond.methodLink own index y).before args (s.setVm vm0) = true) (hinst : (Jvm.Cond.instanceMethod y).before args (s.setVm vm0) = true) (hcode : (Jvm.Cond.code y bytes maxL none).before args (s.setVm vm0) = true) (hy : y.cls ≠ "java/lang/invoke/MethodHandle" ∧ y.cls ≠ "java/lang/invoke/VarHandle") (hK : BackS l R p e below (s.setVm vm0) args y 3 W (fun A a => a = as' ∧ A.U.heap = h ∧ A.cells + rm.cells ≤ R.cells ∧ A.slots + rm.slots ≤ R.slots) (fun A _ v B => ∃ L, Q v B.U.heap L ∧ B.locs = A.locs ++ L ∧ B.cells = A.cells + rm.cells ∧ B.slots = A.slots + rm.slots ∧ CHr Z EL vm0 h B.U.vm B.U.heap)) {g : JFrame} (hg : g.method = m) (hsize : g.locals.size = c.maxLocals) {a : Addr} {argsL rest : List Value} (hlen : ∀ sig, parseMethodDescriptor y.desc = some sig → argsL.length = sig.parameters.length) (hstack : g.stack = argsL.reverse ++ .ref a :: rest) (hW : 2 * g.monitorRoom + (rest.map fun v => v.category).sum ≤ W) (hdg : decode c.code g.pc = .ok (.invokespecial index, 3)) (ha : (.ref a :: argsL).toArray = as') (eT : T.heap = h) (hc : cells + rm.cells ≤ R.cells) (hs' : slots + rm.slots ≤ R.slots) (h1 : cells + rm.cells = c') (h2 : slots + rm.slots = s') (hS : s.Since vm0 k0) (hk : k0 ≤ h.size) :
    ∃ (v : Option Value) (T' : State) (L : List Loc), Stand p l e R (s.setVm T'.vm) m args below meth c T' (locs ++ L) c' s' ∧ s.Since T'.vm T'.heap.size ∧ Q v T'.heap L ∧ CHr Z EL vm0 h T'.vm T'.heap ∧ ∀ t, Steps p.tables e below (T'.setTop { g with pc := g.pc + 3, stack := v.toList ++ rest }) t → Steps p.tables e below (T.setTop g) t := by
  subst h1 h2
  obtain ⟨v, vm₁, ⟨T', L', k', n'⟩, -, X', hS2, hgr, ⟨L, hQ, h3, h4, h5, ch⟩, st⟩ := X.specialBackS hx hy1 hown hlink hinst hcode hy hK hg hsize (Steps.refl _) hlen hstack hW hdg (fun _ _ => ⟨ha, eT, hc, hs'⟩)
  dsimp only [Pt.U, Pt.locs, Pt.cells, Pt.slots] at X' hS2 hgr h3 h4 h5 st hQ ch
  subst h3 h4 h5
  exact ⟨v, T', L, X', hS.trans hS2 (Nat.le_trans (eT ▸ hk) hgr), hQ, ch, fun t k => st.trans k⟩
theorem own_callVW {W : Nat} {rm : Room} {as' : Array Value} {Q : Option Value → Heap → List Loc → Prop} {h : Heap} {c' s' : Nat} (X : Stand p l e R (s.setVm vm0) m args below meth c T locs cells slots) (hx : p.tables.exec = Jvm.exec) {own : String} {index : Nat} {C : String} {y z : MethodName} (hown : (s.setVm vm0).vm.findClass own = some m.cls) (hlink : (Jvm.Cond.methodLink own index y).before args (s.setVm vm0) = true) (hdecl : (Jvm.Cond.declares y).before args (s.setVm vm0) = true) (hnf : NotFace (s.setVm vm0) y) (hsel : (Jvm.Cond.selects C y z).before args (s.setVm vm0) = true) (hinst : (Jvm.Cond.instanceMethod z).before args (s.setVm vm0) = true) (hy : y.cls ≠ "java/lang/invoke/MethodHandle" ∧ y.cls ≠ "java/lang/invoke/VarHandle") (hK : BackS l R p e below (s.setVm vm0) args z 3 W (fun A a => a = as' ∧ A.U.heap = h ∧ A.cells + rm.cells ≤ R.cells ∧ A.slots + rm.slots ≤ R.slots) (fun A _ v B => ∃ L, Q v B.U.heap L ∧ B.locs = A.locs ++ L ∧ B.cells = A.cells + rm.cells ∧ B.slots = A.slots + rm.slots ∧ CHr Z EL vm0 h B.U.vm B.U.heap)) {b : Addr} {cB : ClassId} (hcB : (s.setVm vm0).vm.findClass C = some cB) (hrecv : IsOf cB T b) {g : JFrame} (hg : g.method = m) (hsize : g.locals.size = c.maxLocals) {argsL rest : List Value} (hlen : ∀ sig, parseMethodDescriptor y.desc = some sig → argsL.length = sig.parameters.length) (hstack : g.stack = argsL.reverse ++ .ref b :: rest) (hW : 2 * g.monitorRoom + (rest.map fun v => v.category).sum ≤ W) (hdg : decode c.code g.pc = .ok (.invokevirtual index, 3)) (ha : (.ref b :: argsL).toArray = as') (eT : T.heap = h) (hc : cells + rm.cells ≤ R.cells) (hs' : slots + rm.slots ≤ R.slots) (h1 : cells + rm.cells = c') (h2 : slots + rm.slots = s') (hS : s.Since vm0 k0) (hk : k0 ≤ h.size) :
    ∃ (v : Option Value) (T' : State) (L : List Loc), Stand p l e R (s.setVm T'.vm) m args below meth c T' (locs ++ L) c' s' ∧ s.Since T'.vm T'.heap.size ∧ Q v T'.heap L ∧ CHr Z EL vm0 h T'.vm T'.heap ∧ ∀ t, Steps p.tables e below (T'.setTop { g with pc := g.pc + 3, stack := v.toList ++ rest }) t → Steps p.tables e below (T.setTop g) t := by
  subst h1 h2
  obtain ⟨v, vm₁, ⟨T', L', k', n'⟩, -, X', hS2, hgr, ⟨L, hQ, h3, h4, h5, ch⟩, st⟩ := X.virtualBackS hx hown hlink hdecl hnf hsel hinst hy hK hcB hrecv hg hsize (Steps.refl _) hlen hstack hW hdg (fun _ _ => ⟨ha, eT, hc, hs'⟩)
  dsimp only [Pt.U, Pt.locs, Pt.cells, Pt.slots] at X' hS2 hgr h3 h4 h5 st hQ ch
  subst h3 h4 h5
  exact ⟨v, T', L, X', hS.trans hS2 (Nat.le_trans (eT ▸ hk) hgr), hQ, ch, fun t k => st.trans k⟩
end OwnW
theorem wd {Z : State} {a0 : Array Value} (hw : ∀ d ∈ tables_1, d.before a0 Z = true) (i : Nat) {d : Jvm.Cond} (h : tables_1[i]? = some d) : d.before a0 Z = true := hw d (List.mem_of_getElem? h)
abbrev own_m0 : MethodName := ⟨"java/lang/String", "coder", "()B"⟩
abbrev own_m1 : MethodName := ⟨"java/lang/String", "length", "()I"⟩
abbrev own_m2 : MethodName := ⟨"java/lang/String", "isLatin1", "()Z"⟩
abbrev own_m3 : MethodName := ⟨"java/lang/Math", "min", "(II)I"⟩
abbrev own_m4 : MethodName := ⟨"jdk/internal/util/Preconditions", "checkFromToIndex", "(IIILjava/util/function/BiFunction;)I"⟩
abbrev own_m5 : MethodName := ⟨"java/lang/String", "checkBoundsBeginEnd", "(III)V"⟩
abbrev own_m6 : MethodName := ⟨"java/util/Arrays", "checkLength", "(II)V"⟩
abbrev own_m7 : MethodName := ⟨"java/lang/String", "<init>", "([BB)V"⟩
abbrev own_m8 : MethodName := ⟨"java/util/Arrays", "copyOfRangeByte", "([BII)[B"⟩
abbrev own_m9 : MethodName := ⟨"java/util/Arrays", "copyOfRange", "([BII)[B"⟩
abbrev own_m10 : MethodName := ⟨"java/lang/StringLatin1", "newString", "([BII)Ljava/lang/String;"⟩
abbrev own_m11 : MethodName := ⟨"java/lang/String", "substring", "(II)Ljava/lang/String;"⟩
abbrev own_m12 : MethodName := ⟨"jdk/internal/util/Preconditions", "checkIndex", "(IILjava/util/function/BiFunction;)I"⟩
abbrev own_m13 : MethodName := ⟨"java/lang/String", "checkIndex", "(II)V"⟩
abbrev own_m14 : MethodName := ⟨"java/lang/StringLatin1", "charAt", "([BI)C"⟩
abbrev own_m15 : MethodName := ⟨"java/lang/String", "charAt", "(I)C"⟩
abbrev own_m16 : MethodName := ⟨"com/example/sheafgate/sheafgate/http/RequestFields", "strip", "(Ljava/lang/String;)Ljava/lang/String;"⟩
abbrev own_m17 : MethodName := ⟨"java/lang/String", "<init>", "([CIILjava/lang/Void;)V"⟩
abbrev own_m18 : MethodName := ⟨"java/lang/String", "<init>", "([C)V"⟩
abbrev own_m19 : MethodName := ⟨"java/lang/StringUTF16", "compress", "([CI[BII)I"⟩
abbrev own_m20 : MethodName := ⟨"java/lang/StringUTF16", "compress", "([CII)[B"⟩
abbrev own_m21 : MethodName := ⟨"java/lang/StringUTF16", "coderFromArrayLen", "([BI)B"⟩
abbrev own_m22 : MethodName := ⟨"com/example/sheafgate/sheafgate/http/RequestFieldsStripPinLaw", "pick", "(I)C"⟩
abbrev own_m23 : MethodName := ⟨"com/example/sheafgate/sheafgate/http/RequestFieldsStripPinLaw", "ws", "(C)Z"⟩
abbrev own_m24 : MethodName := ⟨"com/example/sheafgate/sheafgate/http/RequestFieldsStripPinLaw", "make", "(I)[C"⟩
abbrev own_m25 : MethodName := ⟨"com/example/sheafgate/sheafgate/http/RequestFieldsStripPinLaw", "same", "(Ljava/lang/String;[CIII)Z"⟩
theorem own_wS {Z : State} {a0 : Array Value} (hw : ∀ d ∈ tables_1, d.before a0 Z = true) : ∀ a ∈ Bundle.stringAtoms, a.before a0 Z = true := by
  intro d hd
  simp only [Bundle.stringAtoms, Bundle.sN, List.mem_cons, List.not_mem_nil, or_false] at hd
  rcases hd with rfl | rfl | rfl | rfl | rfl | rfl | rfl
  · exact (wd hw 11 rfl)
  · exact (wd hw 10 rfl)
  · exact (wd hw 23 rfl)
  · exact (wd hw 24 rfl)
  · exact (wd hw 25 rfl)
  · exact (wd hw 26 rfl)
  · exact (wd hw 27 rfl)
theorem own_EW {Z : State} {a0 : Array Value} (hw : ∀ d ∈ tables_1, d.before a0 Z = true) : EW Z a0 consts_1 := (EW.cons (wd hw 22 rfl) (by decide) (EW.cons (wd hw 122 rfl) (by decide) EW.nil))
namespace StrChars
def lo8 (x : Int32) : Int32 := x.toInt8.toInt32
end StrChars
theorem own_sh0 (x : Int32) : x >>> ((0 : Int32) &&& 31) = x := by
  show x >>> (0 : Int32) = x
  simp
theorem d8_0 : decode jdk_42_method_152_code 0 = .ok (.getstatic 38, 3) := by decide +kernel
theorem d8_3 : decode jdk_42_method_152_code 3 = .ok (.ifCond .eq 10, 3) := by decide +kernel
theorem d8_6 : decode jdk_42_method_152_code 6 = .ok (.aload_n 0, 1) := by decide +kernel
theorem d8_7 : decode jdk_42_method_152_code 7 = .ok (.getfield 15, 3) := by decide +kernel
theorem d8_10 : decode jdk_42_method_152_code 10 = .ok (.goto 4, 3) := by decide +kernel
theorem d8_14 : decode jdk_42_method_152_code 14 = .ok (.ireturn, 1) := by decide +kernel
theorem pn_0 : plainName "java/lang/String" = true := by first | (simp [plainName, overriddenIn]; done) | decide +kernel
theorem ef_coder (m : MethodId) (x0 : Addr) : entryFrame m #[(.ref x0)] 1 = mkF m 0 #[rv x0] [] := by first | (simp [entryFrame, mkF, argsToLocals, Value.category]; done) | rfl
def Q_coder (Z : State) (x : Addr) (cz : Int32) (h0 : Heap) (n0 : Nat) (v : Option Value) (h : Heap) (L : List Loc) : Prop := (v = some (.int (0 : Int32))) ∧ (Fr n0 L) ∧ (h = h0)
set_option maxRecDepth 65536 in
set_option maxHeartbeats 40000000 in
theorem rm_coder (l : Launch) (Z : State) (a0 : Array Value) (hw : ∀ d ∈ tables_1, d.before a0 Z = true) (ws : List Jvm.Cond) (x : Addr) (cz : Int32) (h0 : Heap) (n0 : Nat) (O0 : Old Z n0 h0) (E_x : Exa Z h0 x "java/lang/String") (C_x : Fld Z h0 x "java/lang/String" "coder" "B" (.int (0 : Int32))) (SC : Sta Z Z.heap "java/lang/String" "COMPACT_STRINGS" "Z" (.int cz)) (hcz : ¬ cz = (0 : Int32)) :
    MetFree l own_m0 (head1 (Jvm.Cond.code own_m0 jdk_42_method_152_code 1 (some .byte) :: ws) ({ frames := 0, cells := 0, slots := 0, locals := 0 } : Room)) (fun ar_ U => ar_ = #[(.ref x)] ∧ Z.Warmed39 U.vm ∧ U.heap = h0) (fun _ _ _ _ _ => True) (fun _ U o U' => ∃ v L, o = .returned v ∧ Q_coder Z x cz h0 n0 v U'.heap L ∧ FrameEnd U o U' L ({ frames := 0, cells := 0, slots := 0, locals := 0 } : Room).cells ({ frames := 0, cells := 0, slots := 0, locals := 0 } : Room).slots) := by
  refine MetFree.of_bodySF (plainFor_of_name pn_0) hisR ?_
  intro p e s m args below meth c s₁ Bd hml0 hP hK
  obtain ⟨rfl, hZ, hh⟩ := hP
  have hx := Bd.exec
  have hby := Bd.bytes
  have hml : c.maxLocals = 1 := hml0
  have hown : s.vm.findClass "java/lang/String" = some m.cls := findClass_of_methodNamed Bd.named
  have hnm := (name_of_methodNamed Bd.named Bd.method).1
  have X0 : Stand p l e ({ frames := 0, cells := 0, slots := 0, locals := 0 } : Room) s m #[(.ref x)] below meth c s₁ [] 0 0 := Stand.of_body Bd
  have e0 : s₁.heap = h0 := by rw [← hh, Bd.state]; rfl
  have N0 := Fr.nil n0
  have hret := Bd.returns
  have hlk : meth.locks = false := Bd.notSynchronized
  show own_E p e below s ({ frames := 0, cells := 0, slots := 0, locals := 0 } : Room).cells ({ frames := 0, cells := 0, slots := 0, locals := 0 } : Room).slots (Q_coder Z x cz h0 n0) s₁ (entryFrame m #[(.ref x)] 1)
  rw [ef_coder m x]
  obtain ⟨T1, X1, e1, st1⟩ := getS2 X0 hx hZ hown (host := "") (Or.inl (wd hw 44 rfl)) Via.refl e0 (SC.ext O0.2) (g := (mkF m 0 #[rv x] [])) rfl (hb hby d8_0)
  refine own_st (T' := T1) (g' := (mkF m 3 #[rv x] [(.int cz)])) st1 ?_
  clear st1
  refine own_st (T' := T1) (g' := (mkF m 6 #[rv x] [])) (fun _ k_ => XS.ifNo X1.here hx rfl (hb hby d8_3) rfl ((if0 _ _).trans (feq (hcz : ¬ (cz = (0 : Int32)))).1) k_) ?_
  refine own_st (T' := T1) (g' := (mkF m 7 #[rv x] [(.ref x)])) (fun _ k_ => XS.aloadN X1.here hx rfl (hb hby d8_6) rfl rfl  k_) ?_
  obtain ⟨T2, X2, e2, st2⟩ := getF X1 hx hZ hown (host := "") (Or.inl (wd hw 29 rfl)) Via.refl e1 C_x (g := (mkF m 7 #[rv x] [(.ref x)])) rfl rfl (hb hby d8_7)
  refine own_st (T' := T2) (g' := (mkF m 10 #[rv x] [(.int (0 : Int32))])) st2 ?_
  clear st2
  refine own_st (T' := T2) (g' := (mkF m 14 #[rv x] [(.int (0 : Int32))])) (fun _ k_ => XS.goto X2.here hx rfl (pc0 := 10) (pc' := 14) rfl (hb hby d8_10) (by decide) (by decide) k_) ?_
  exact own_retN X2 hx (t := .byte) hret (by simp) hlk (hb hby d8_14) (by decide) (by decide) ⟨rfl, N0, e2⟩
theorem d7_0 : decode jdk_42_method_54_code 0 = .ok (.aload_n 0, 1) := by decide +kernel
theorem d7_1 : decode jdk_42_method_54_code 1 = .ok (.getfield 9, 3) := by decide +kernel
theorem d7_4 : decode jdk_42_method_54_code 4 = .ok (.arraylength, 1) := by decide +kernel
theorem d7_5 : decode jdk_42_method_54_code 5 = .ok (.aload_n 0, 1) := by decide +kernel
theorem d7_6 : decode jdk_42_method_54_code 6 = .ok (.invokevirtual 335, 3) := by decide +kernel
theorem d7_9 : decode jdk_42_method_54_code 9 = .ok (.ishr, 1) := by decide +kernel
theorem d7_10 : decode jdk_42_method_54_code 10 = .ok (.ireturn, 1) := by decide +kernel
theorem pd___B : parseMethodDescriptor "()B" = some ⟨[], some .byte⟩ := by decide +kernel
theorem ef_len (m : MethodId) (x0 : Addr) : entryFrame m #[(.ref x0)] 1 = mkF m 0 #[rv x0] [] := by first | (simp [entryFrame, mkF, argsToLocals, Value.category]; done) | rfl
def Q_len (Z : State) (x : Addr) (t : Addr) (kt : ClassId) (nn : Int32) (vs : List Value) (cz : Int32) (h0 : Heap) (n0 : Nat) (v : Option Value) (h : Heap) (L : List Loc) : Prop := (v = some (.int nn)) ∧ (Fr n0 L) ∧ (h = h0)
set_option maxRecDepth 65536 in
set_option maxHeartbeats 40000000 in
theorem rm_len (l : Launch) (Z : State) (a0 : Array Value) (hw : ∀ d ∈ tables_1, d.before a0 Z = true) (ws : List Jvm.Cond) (x : Addr) (t : Addr) (kt : ClassId) (nn : Int32) (vs : List Value) (cz : Int32) (h0 : Heap) (n0 : Nat) (O0 : Old Z n0 h0) (E_x : Exa Z h0 x "java/lang/String") (V_x : Fld Z h0 x "java/lang/String" "value" "[B" (.ref t)) (C_x : Fld Z h0 x "java/lang/String" "coder" "B" (.int (0 : Int32))) (A_x : Arv Z h0 t kt .byte nn vs (.int (0 : Int32))) (SC : Sta Z Z.heap "java/lang/String" "COMPACT_STRINGS" "Z" (.int cz)) (hcz : ¬ cz = (0 : Int32)) :
    MetFree l own_m1 (head1 (Jvm.Cond.code own_m1 jdk_42_method_54_code 1 (some .int) :: ws) ({ frames := 1, cells := 0, slots := 0, locals := 13 } : Room)) (fun ar_ U => ar_ = #[(.ref x)] ∧ Z.Warmed39 U.vm ∧ U.heap = h0) (fun _ _ _ _ _ => True) (fun _ U o U' => ∃ v L, o = .returned v ∧ Q_len Z x t kt nn vs cz h0 n0 v U'.heap L ∧ FrameEnd U o U' L ({ frames := 1, cells := 0, slots := 0, locals := 13 } : Room).cells ({ frames := 1, cells := 0, slots := 0, locals := 13 } : Room).slots) := by
  refine MetFree.of_bodySF (plainFor_of_name pn_0) hisR ?_
  intro p e s m args below meth c s₁ Bd hml0 hP hK
  obtain ⟨rfl, hZ, hh⟩ := hP
  have hx := Bd.exec
  have hby := Bd.bytes
  have hml : c.maxLocals = 1 := hml0
  have hown : s.vm.findClass "java/lang/String" = some m.cls := findClass_of_methodNamed Bd.named
  have hnm := (name_of_methodNamed Bd.named Bd.method).1
  have X0 : Stand p l e ({ frames := 1, cells := 0, slots := 0, locals := 13 } : Room) s m #[(.ref x)] below meth c s₁ [] 0 0 := Stand.of_body Bd
  have e0 : s₁.heap = h0 := by rw [← hh, Bd.state]; rfl
  have N0 := Fr.nil n0
  have hret := Bd.returns
  have hlk : meth.locks = false := Bd.notSynchronized
  show own_E p e below s ({ frames := 1, cells := 0, slots := 0, locals := 13 } : Room).cells ({ frames := 1, cells := 0, slots := 0, locals := 13 } : Room).slots (Q_len Z x t kt nn vs cz h0 n0) s₁ (entryFrame m #[(.ref x)] 1)
  rw [ef_len m x]
  refine own_st (T' := s₁) (g' := (mkF m 1 #[rv x] [(.ref x)])) (fun _ k_ => XS.aloadN X0.here hx rfl (hb hby d7_0) rfl rfl  k_) ?_
  obtain ⟨T1, X1, e1, st1⟩ := getF X0 hx hZ hown (host := "") (Or.inl (wd hw 28 rfl)) Via.refl e0 V_x (g := (mkF m 1 #[rv x] [(.ref x)])) rfl rfl (hb hby d7_1)
  refine own_st (T' := T1) (g' := (mkF m 4 #[rv x] [(.ref t)])) st1 ?_
  clear st1
  obtain ⟨cl2, Ar2, -, S2, N2, -, -⟩ := id A_x
  refine own_st (T' := T1) (g' := (mkF m 5 #[rv x] [(.int nn)])) (fun t_ k_ => X1.arraylength hx (by rw [e1]; exact Ar2.1) (State.isArrayOf_alike hZ.alike Ar2.2.1) (g := (mkF m 4 #[rv x] [(.ref t)])) rfl rfl (hb hby d7_4) _ (by rw [len_of S2 N2]; exact k_)) ?_
  refine own_st (T' := T1) (g' := (mkF m 6 #[rv x] [(.ref x), (.int nn)])) (fun _ k_ => XS.aloadN X1.here hx rfl (hb hby d7_5) rfl rfl  k_) ?_
  obtain ⟨cq3, kq3, q3a, q3b, q3c⟩ := isOf hZ e1 E_x
  obtain ⟨_, T3, L3, X3, hQ3, st3⟩ := own_callV X1 hx (y := own_m0) (z := own_m0) hown (mvT hZ (wd hw 39 rfl)) (mvT hZ (wd hw 40 rfl)) (notFace_of_selects (args := #[]) (mvT hZ (wd hw 42 rfl))) (mvT hZ (wd hw 42 rfl)) (mvT hZ (wd hw 41 rfl)) (by decide) (backOf (W := 1) (rm_coder l Z a0 hw [] x cz h0 n0 O0 E_x C_x SC hcz) hZ (wd hw 43 rfl) (wd hw 11 rfl) (by decide) (by decide)) q3a q3c (g := (mkF m 6 #[rv x] [(.ref x), (.int nn)])) rfl (by rw [hml]; rfl) (argsL := []) (rest := [(.int nn)]) (lenOf pd___B rfl) rfl (by show 2 * 0 + _ ≤ _; exact Nat.le_of_eq rfl) (hb hby d7_6) rfl e1 (by decide) (by decide) (c' := 0) (s' := 0) rfl rfl
  clear q3a q3b q3c kq3 cq3
  obtain ⟨rfl, Nq3, eq3⟩ := hQ3
  have N3 := Fr.app N0 Nq3
  refine own_st (T' := T3) (g' := (mkF m 9 #[rv x] [(.int (0 : Int32)), (.int nn)])) st3 ?_
  clear st3
  refine own_st (T' := T3) (g' := (mkF m 10 #[rv x] [(.int (nn >>> ((0 : Int32) &&& 31)))])) (fun _ k_ => XS.ishr X3.here hx rfl (hb hby d7_9) rfl k_) ?_
  exact own_retI X3 hx hret hlk (hb hby d7_10) (by decide) (by decide) ⟨congrArg (fun z => some (Value.int z)) (own_sh0 nn), N3, eq3⟩
theorem d18_0 : decode jdk_42_method_154_code 0 = .ok (.getstatic 38, 3) := by decide +kernel
theorem d18_3 : decode jdk_42_method_154_code 3 = .ok (.ifCond .eq 14, 3) := by decide +kernel
theorem d18_6 : decode jdk_42_method_154_code 6 = .ok (.aload_n 0, 1) := by decide +kernel
theorem d18_7 : decode jdk_42_method_154_code 7 = .ok (.getfield 15, 3) := by decide +kernel
theorem d18_10 : decode jdk_42_method_154_code 10 = .ok (.ifCond .ne 7, 3) := by decide +kernel
theorem d18_13 : decode jdk_42_method_154_code 13 = .ok (.iconst 1, 1) := by decide +kernel
theorem d18_14 : decode jdk_42_method_154_code 14 = .ok (.goto 4, 3) := by decide +kernel
theorem d18_18 : decode jdk_42_method_154_code 18 = .ok (.ireturn, 1) := by decide +kernel
theorem ef_isl1 (m : MethodId) (x0 : Addr) : entryFrame m #[(.ref x0)] 1 = mkF m 0 #[rv x0] [] := by first | (simp [entryFrame, mkF, argsToLocals, Value.category]; done) | rfl
def Q_isl1 (Z : State) (x : Addr) (cz : Int32) (h0 : Heap) (n0 : Nat) (v : Option Value) (h : Heap) (L : List Loc) : Prop := (v = some (.int (1 : Int32))) ∧ (Fr n0 L) ∧ (h = h0)
set_option maxRecDepth 65536 in
set_option maxHeartbeats 40000000 in
theorem rm_isl1 (l : Launch) (Z : State) (a0 : Array Value) (hw : ∀ d ∈ tables_1, d.before a0 Z = true) (ws : List Jvm.Cond) (x : Addr) (cz : Int32) (h0 : Heap) (n0 : Nat) (O0 : Old Z n0 h0) (E_x : Exa Z h0 x "java/lang/String") (C_x : Fld Z h0 x "java/lang/String" "coder" "B" (.int (0 : Int32))) (SC : Sta Z Z.heap "java/lang/String" "COMPACT_STRINGS" "Z" (.int cz)) (hcz : ¬ cz = (0 : Int32)) :
    MetFree l own_m2 (head1 (Jvm.Cond.code own_m2 jdk_42_method_154_code 1 (some .boolean) :: ws) ({ frames := 0, cells := 0, slots := 0, locals := 0 } : Room)) (fun ar_ U => ar_ = #[(.ref x)] ∧ Z.Warmed39 U.vm ∧ U.heap = h0) (fun _ _ _ _ _ => True) (fun _ U o U' => ∃ v L, o = .returned v ∧ Q_isl1 Z x cz h0 n0 v U'.heap L ∧ FrameEnd U o U' L ({ frames := 0, cells := 0, slots := 0, locals := 0 } : Room).cells ({ frames := 0, cells := 0, slots := 0, locals := 0 } : Room).slots) := by
  refine MetFree.of_bodySF (plainFor_of_name pn_0) hisR ?_
  intro p e s m args below meth c s₁ Bd hml0 hP hK
  obtain ⟨rfl, hZ, hh⟩ := hP
  have hx := Bd.exec
  have hby := Bd.bytes
  have hml : c.maxLocals = 1 := hml0
  have hown : s.vm.findClass "java/lang/String" = some m.cls := findClass_of_methodNamed Bd.named
  have hnm := (name_of_methodNamed Bd.named Bd.method).1
  have X0 : Stand p l e ({ frames := 0, cells := 0, slots := 0, locals := 0 } : Room) s m #[(.ref x)] below meth c s₁ [] 0 0 := Stand.of_body Bd
  have e0 : s₁.heap = h0 := by rw [← hh, Bd.state]; rfl
  have N0 := Fr.nil n0
  have hret := Bd.returns
  have hlk : meth.locks = false := Bd.notSynchronized
  show own_E p e below s ({ frames := 0, cells := 0, slots := 0, locals := 0 } : Room).cells ({ frames := 0, cells := 0, slots := 0, locals := 0 } : Room).slots (Q_isl1 Z x cz h0 n0) s₁ (entryFrame m #[(.ref x)] 1)
  rw [ef_isl1 m x]
  obtain ⟨T1, X1, e1, st1⟩ := getS2 X0 hx hZ hown (host := "") (Or.inl (wd hw 44 rfl)) Via.refl e0 (SC.ext O0.2) (g := (mkF m 0 #[rv x] [])) rfl (hb hby d18_0)
  refine own_st (T' := T1) (g' := (mkF m 3 #[rv x] [(.int cz)])) st1 ?_
  clear st1
  refine own_st (T' := T1) (g' := (mkF m 6 #[rv x] [])) (fun _ k_ => XS.ifNo X1.here hx rfl (hb hby d18_3) rfl ((if0 _ _).trans (feq (hcz : ¬ (cz = (0 : Int32)))).1) k_) ?_
  refine own_st (T' := T1) (g' := (mkF m 7 #[rv x] [(.ref x)])) (fun _ k_ => XS.aloadN X1.here hx rfl (hb hby d18_6) rfl rfl  k_) ?_
  obtain ⟨T2, X2, e2, st2⟩ := getF X1 hx hZ hown (host := "") (Or.inl (wd hw 29 rfl)) Via.refl e1 C_x (g := (mkF m 7 #[rv x] [(.ref x)])) rfl rfl (hb hby d18_7)
  refine own_st (T' := T2) (g' := (mkF m 10 #[rv x] [(.int (0 : Int32))])) st2 ?_
  clear st2
  refine own_st (T' := T2) (g' := (mkF m 13 #[rv x] [])) (fun _ k_ => XS.ifNo X2.here hx rfl (hb hby d18_10) rfl ((if0 _ _).trans (teq (rfl : (0 : Int32) = (0 : Int32))).2) k_) ?_
  refine own_st (T' := T2) (g' := (mkF m 14 #[rv x] [(.int (1 : Int32))])) (fun _ k_ => XS.iconst X2.here hx rfl (hb hby d18_13) k_) ?_
  refine own_st (T' := T2) (g' := (mkF m 18 #[rv x] [(.int (1 : Int32))])) (fun _ k_ => XS.goto X2.here hx rfl (pc0 := 14) (pc' := 18) rfl (hb hby d18_14) (by decide) (by decide) k_) ?_
  exact own_retN X2 hx (t := .boolean) hret (by simp) hlk (hb hby d18_18) (by decide) (by decide) ⟨rfl, N0, e2⟩
theorem d26_0 : decode jdk_29_method_69_code 0 = .ok (.iload_n 0, 1) := by decide +kernel
theorem d26_1 : decode jdk_29_method_69_code 1 = .ok (.iload_n 1, 1) := by decide +kernel
theorem d26_2 : decode jdk_29_method_69_code 2 = .ok (.if_icmp .gt 7, 3) := by decide +kernel
theorem d26_5 : decode jdk_29_method_69_code 5 = .ok (.iload_n 0, 1) := by decide +kernel
theorem d26_6 : decode jdk_29_method_69_code 6 = .ok (.goto 4, 3) := by decide +kernel
theorem d26_10 : decode jdk_29_method_69_code 10 = .ok (.ireturn, 1) := by decide +kernel
theorem ef_min (m : MethodId) (x0 : Int32) (x1 : Int32) : entryFrame m #[(.int x0), (.int x1)] 2 = mkF m 0 #[iv x0, iv x1] [] := by first | (simp [entryFrame, mkF, argsToLocals, Value.category]; done) | rfl
def Q_min (Z : State) (xx : Int32) (yy : Int32) (h0 : Heap) (n0 : Nat) (v : Option Value) (h : Heap) (L : List Loc) : Prop := (v = some (.int xx)) ∧ (Fr n0 L) ∧ (h = h0)
set_option maxRecDepth 65536 in
set_option maxHeartbeats 40000000 in
theorem rm_min (l : Launch) (Z : State) (a0 : Array Value) (hw : ∀ d ∈ tables_1, d.before a0 Z = true) (ws : List Jvm.Cond) (xx : Int32) (yy : Int32) (h0 : Heap) (n0 : Nat) (O0 : Old Z n0 h0) (hmin : ¬ yy < xx) :
    MetFree l own_m3 (head1 (Jvm.Cond.code own_m3 jdk_29_method_69_code 2 (some .int) :: ws) ({ frames := 0, cells := 0, slots := 0, locals := 0 } : Room)) (fun ar_ U => ar_ = #[(.int xx), (.int yy)] ∧ Z.Warmed39 U.vm ∧ U.heap = h0) (fun _ _ _ _ _ => True) (fun _ U o U' => ∃ v L, o = .returned v ∧ Q_min Z xx yy h0 n0 v U'.heap L ∧ FrameEnd U o U' L ({ frames := 0, cells := 0, slots := 0, locals := 0 } : Room).cells ({ frames := 0, cells := 0, slots := 0, locals := 0 } : Room).slots) := by
  refine MetFree.of_bodySF (Jvm.Free.JP.mathPlain rfl (by decide +kernel)) hisR ?_
  intro p e s m args below meth c s₁ Bd hml0 hP hK
  obtain ⟨rfl, hZ, hh⟩ := hP
  have hx := Bd.exec
  have hby := Bd.bytes
  have hml : c.maxLocals = 2 := hml0
  have hown : s.vm.findClass "java/lang/Math" = some m.cls := findClass_of_methodNamed Bd.named
  have hnm := (name_of_methodNamed Bd.named Bd.method).1
  have X0 : Stand p l e ({ frames := 0, cells := 0, slots := 0, locals := 0 } : Room) s m #[(.int xx), (.int yy)] below meth c s₁ [] 0 0 := Stand.of_body Bd
  have e0 : s₁.heap = h0 := by rw [← hh, Bd.state]; rfl
  have N0 := Fr.nil n0
  have hret := Bd.returns
  have hlk : meth.locks = false := Bd.notSynchronized
  show own_E p e below s ({ frames := 0, cells := 0, slots := 0, locals := 0 } : Room).cells ({ frames := 0, cells := 0, slots := 0, locals := 0 } : Room).slots (Q_min Z xx yy h0 n0) s₁ (entryFrame m #[(.int xx), (.int yy)] 2)
  rw [ef_min m xx yy]
  refine own_st (T' := s₁) (g' := (mkF m 1 #[iv xx, iv yy] [(.int xx)])) (fun _ k_ => XS.iloadN X0.here hx rfl (hb hby d26_0) rfl  k_) ?_
  refine own_st (T' := s₁) (g' := (mkF m 2 #[iv xx, iv yy] [(.int yy), (.int xx)])) (fun _ k_ => XS.iloadN X0.here hx rfl (hb hby d26_1) rfl  k_) ?_
  refine own_st (T' := s₁) (g' := (mkF m 5 #[iv xx, iv yy] [])) (fun _ k_ => XS.icmpNo X0.here hx rfl (hb hby d26_2) rfl (flt (hmin : ¬ (yy < xx))).2.2.1 k_) ?_
  refine own_st (T' := s₁) (g' := (mkF m 6 #[iv xx, iv yy] [(.int xx)])) (fun _ k_ => XS.iloadN X0.here hx rfl (hb hby d26_5) rfl  k_) ?_
  refine own_st (T' := s₁) (g' := (mkF m 10 #[iv xx, iv yy] [(.int xx)])) (fun _ k_ => XS.goto X0.here hx rfl (pc0 := 6) (pc' := 10) rfl (hb hby d26_6) (by decide) (by decide) k_) ?_
  exact own_retI X0 hx hret hlk (hb hby d26_10) (by decide) (by decide) ⟨rfl, N0, e0⟩
theorem d11_0 : decode jdk_41_method_12_code 0 = .ok (.iload_n 0, 1) := by decide +kernel
theorem d11_1 : decode jdk_41_method_12_code 1 = .ok (.ifCond .lt 13, 3) := by decide +kernel
theorem d11_4 : decode jdk_41_method_12_code 4 = .ok (.iload_n 0, 1) := by decide +kernel
theorem d11_5 : decode jdk_41_method_12_code 5 = .ok (.iload_n 1, 1) := by decide +kernel
theorem d11_6 : decode jdk_41_method_12_code 6 = .ok (.if_icmp .gt 8, 3) := by decide +kernel
theorem d11_9 : decode jdk_41_method_12_code 9 = .ok (.iload_n 1, 1) := by decide +kernel
theorem d11_10 : decode jdk_41_method_12_code 10 = .ok (.iload_n 2, 1) := by decide +kernel
theorem d11_11 : decode jdk_41_method_12_code 11 = .ok (.if_icmp .le 11, 3) := by decide +kernel
theorem d11_22 : decode jdk_41_method_12_code 22 = .ok (.iload_n 0, 1) := by decide +kernel
theorem d11_23 : decode jdk_41_method_12_code 23 = .ok (.ireturn, 1) := by decide +kernel
theorem pn_1 : plainName "jdk/internal/util/Preconditions" = true := by first | (simp [plainName, overriddenIn]; done) | decide +kernel
theorem ef_cft (m : MethodId) (x0 : Int32) (x1 : Int32) (x2 : Int32) (x3 : Value) (hx3 : x3.isRef = true) : entryFrame m #[(.int x0), (.int x1), (.int x2), x3] 4 = mkF m 0 #[iv x0, iv x1, iv x2, .val x3] [] := by
  rcases ref_cases hx3 with rfl | ⟨_, rfl⟩ <;> (first | (simp [entryFrame, mkF, argsToLocals, Value.category]; done) | rfl)
def Q_cft (Z : State) (fb : Int32) (fe : Int32) (fl : Int32) (fm : Value) (h0 : Heap) (n0 : Nat) (v : Option Value) (h : Heap) (L : List Loc) : Prop := (v = some (.int fb)) ∧ (Fr n0 L) ∧ (h = h0)
set_option maxRecDepth 65536 in
set_option maxHeartbeats 40000000 in
theorem rm_cft (l : Launch) (Z : State) (a0 : Array Value) (hw : ∀ d ∈ tables_1, d.before a0 Z = true) (ws : List Jvm.Cond) (fb : Int32) (fe : Int32) (fl : Int32) (fm : Value) (h0 : Heap) (n0 : Nat) (O0 : Old Z n0 h0) (hb0 : ¬ fb < (0 : Int32)) (hb1 : ¬ fe < fb) (hb2 : ¬ fl < fe) (hfm : fm.isRef = true) :
    MetFree l own_m4 (head1 (Jvm.Cond.code own_m4 jdk_41_method_12_code 4 (some .int) :: ws) ({ frames := 0, cells := 0, slots := 0, locals := 0 } : Room)) (fun ar_ U => ar_ = #[(.int fb), (.int fe), (.int fl), fm] ∧ Z.Warmed39 U.vm ∧ U.heap = h0) (fun _ _ _ _ _ => True) (fun _ U o U' => ∃ v L, o = .returned v ∧ Q_cft Z fb fe fl fm h0 n0 v U'.heap L ∧ FrameEnd U o U' L ({ frames := 0, cells := 0, slots := 0, locals := 0 } : Room).cells ({ frames := 0, cells := 0, slots := 0, locals := 0 } : Room).slots) := by
  refine MetFree.of_bodySF (plainFor_of_name pn_1) hisR ?_
  intro p e s m args below meth c s₁ Bd hml0 hP hK
  obtain ⟨rfl, hZ, hh⟩ := hP
  have hx := Bd.exec
  have hby := Bd.bytes
  have hml : c.maxLocals = 4 := hml0
  have hown : s.vm.findClass "jdk/internal/util/Preconditions" = some m.cls := findClass_of_methodNamed Bd.named
  have hnm := (name_of_methodNamed Bd.named Bd.method).1
  have X0 : Stand p l e ({ frames := 0, cells := 0, slots := 0, locals := 0 } : Room) s m #[(.int fb), (.int fe), (.int fl), fm] below meth c s₁ [] 0 0 := Stand.of_body Bd
  have e0 : s₁.heap = h0 := by rw [← hh, Bd.state]; rfl
  have N0 := Fr.nil n0
  have hret := Bd.returns
  have hlk : meth.locks = false := Bd.notSynchronized
  show own_E p e below s ({ frames := 0, cells := 0, slots := 0, locals := 0 } : Room).cells ({ frames := 0, cells := 0, slots := 0, locals := 0 } : Room).slots (Q_cft Z fb fe fl fm h0 n0) s₁ (entryFrame m #[(.int fb), (.int fe), (.int fl), fm] 4)
  rw [ef_cft m fb fe fl fm hfm]
  refine own_st (T' := s₁) (g' := (mkF m 1 #[iv fb, iv fe, iv fl, .val fm] [(.int fb)])) (fun _ k_ => XS.iloadN X0.here hx rfl (hb hby d11_0) rfl  k_) ?_
  refine own_st (T' := s₁) (g' := (mkF m 4 #[iv fb, iv fe, iv fl, .val fm] [])) (fun _ k_ => XS.ifNo X0.here hx rfl (hb hby d11_1) rfl ((if0 _ _).trans (flt (hb0 : ¬ (fb < (0 : Int32)))).1) k_) ?_
  refine own_st (T' := s₁) (g' := (mkF m 5 #[iv fb, iv fe, iv fl, .val fm] [(.int fb)])) (fun _ k_ => XS.iloadN X0.here hx rfl (hb hby d11_4) rfl  k_) ?_
  refine own_st (T' := s₁) (g' := (mkF m 6 #[iv fb, iv fe, iv fl, .val fm] [(.int fe), (.int fb)])) (fun _ k_ => XS.iloadN X0.here hx rfl (hb hby d11_5) rfl  k_) ?_
  refine own_st (T' := s₁) (g' := (mkF m 9 #[iv fb, iv fe, iv fl, .val fm] [])) (fun _ k_ => XS.icmpNo X0.here hx rfl (hb hby d11_6) rfl (flt (hb1 : ¬ (fe < fb))).2.2.1 k_) ?_
  refine own_st (T' := s₁) (g' := (mkF m 10 #[iv fb, iv fe, iv fl, .val fm] [(.int fe)])) (fun _ k_ => XS.iloadN X0.here hx rfl (hb hby d11_9) rfl  k_) ?_
  refine own_st (T' := s₁) (g' := (mkF m 11 #[iv fb, iv fe, iv fl, .val fm] [(.int fl), (.int fe)])) (fun _ k_ => XS.iloadN X0.here hx rfl (hb hby d11_10) rfl  k_) ?_
  refine own_st (T' := s₁) (g' := (mkF m 22 #[iv fb, iv fe, iv fl, .val fm] [])) (fun _ k_ => XS.icmpYes X0.here hx rfl (pc0 := 11) (pc' := 22) rfl (hb hby d11_11) rfl (flt (hb2 : ¬ (fl < fe))).2.2.2 (by decide) (by decide) k_) ?_
  refine own_st (T' := s₁) (g' := (mkF m 23 #[iv fb, iv fe, iv fl, .val fm] [(.int fb)])) (fun _ k_ => XS.iloadN X0.here hx rfl (hb hby d11_22) rfl  k_) ?_
  exact own_retI X0 hx hret hlk (hb hby d11_23) (by decide) (by decide) ⟨rfl, N0, e0⟩
theorem d10_0 : decode jdk_42_method_158_code 0 = .ok (.iload_n 0, 1) := by decide +kernel
theorem d10_1 : decode jdk_42_method_158_code 1 = .ok (.iload_n 1, 1) := by decide +kernel
theorem d10_2 : decode jdk_42_method_158_code 2 = .ok (.iload_n 2, 1) := by decide +kernel
theorem d10_3 : decode jdk_42_method_158_code 3 = .ok (.getstatic 1053, 3) := by decide +kernel
theorem d10_6 : decode jdk_42_method_158_code 6 = .ok (.invokestatic 1062, 3) := by decide +kernel
theorem d10_9 : decode jdk_42_method_158_code 9 = .ok (.pop, 1) := by decide +kernel
theorem d10_10 : decode jdk_42_method_158_code 10 = .ok (.return_, 1) := by decide +kernel
theorem pd__IIILjava_util_function_BiFunction__I : parseMethodDescriptor "(IIILjava/util/function/BiFunction;)I" = some ⟨[.int, .int, .int, (.object "java/util/function/BiFunction")], some .int⟩ := by decide +kernel
theorem ef_cbe (m : MethodId) (x0 : Int32) (x1 : Int32) (x2 : Int32) : entryFrame m #[(.int x0), (.int x1), (.int x2)] 3 = mkF m 0 #[iv x0, iv x1, iv x2] [] := by first | (simp [entryFrame, mkF, argsToLocals, Value.category]; done) | rfl
def Q_cbe (Z : State) (fb : Int32) (fe : Int32) (fl : Int32) (fm : Value) (h0 : Heap) (n0 : Nat) (v : Option Value) (h : Heap) (L : List Loc) : Prop := (v = none) ∧ (Fr n0 L) ∧ (h = h0)
set_option maxRecDepth 65536 in
set_option maxHeartbeats 40000000 in
theorem rm_cbe (l : Launch) (Z : State) (a0 : Array Value) (hw : ∀ d ∈ tables_1, d.before a0 Z = true) (ws : List Jvm.Cond) (fb : Int32) (fe : Int32) (fl : Int32) (fm : Value) (h0 : Heap) (n0 : Nat) (O0 : Old Z n0 h0) (hb0 : ¬ fb < (0 : Int32)) (hb1 : ¬ fe < fb) (hb2 : ¬ fl < fe) (SF : Sta Z Z.heap "jdk/internal/util/Preconditions" "SIOOBE_FORMATTER" "Ljava/util/function/BiFunction;" fm) (hfm : fm.isRef = true) :
    MetFree l own_m5 (head1 (Jvm.Cond.code own_m5 jdk_42_method_158_code 3 none :: ws) ({ frames := 1, cells := 0, slots := 0, locals := 15 } : Room)) (fun ar_ U => ar_ = #[(.int fb), (.int fe), (.int fl)] ∧ Z.Warmed39 U.vm ∧ U.heap = h0) (fun _ _ _ _ _ => True) (fun _ U o U' => ∃ v L, o = .returned v ∧ Q_cbe Z fb fe fl fm h0 n0 v U'.heap L ∧ FrameEnd U o U' L ({ frames := 1, cells := 0, slots := 0, locals := 15 } : Room).cells ({ frames := 1, cells := 0, slots := 0, locals := 15 } : Room).slots) := by
  refine MetFree.of_bodySF (plainFor_of_name pn_0) hisR ?_
  intro p e s m args below meth c s₁ Bd hml0 hP hK
  obtain ⟨rfl, hZ, hh⟩ := hP
  have hx := Bd.exec
  have hby := Bd.bytes
  have hml : c.maxLocals = 3 := hml0
  have hown : s.vm.findClass "java/lang/String" = some m.cls := findClass_of_methodNamed Bd.named
  have hnm := (name_of_methodNamed Bd.named Bd.method).1
  have X0 : Stand p l e ({ frames := 1, cells := 0, slots := 0, locals := 15 } : Room) s m #[(.int fb), (.int fe), (.int fl)] below meth c s₁ [] 0 0 := Stand.of_body Bd
  have e0 : s₁.heap = h0 := by rw [← hh, Bd.state]; rfl
  have N0 := Fr.nil n0
  have hret := Bd.returns
  have hlk : meth.locks = false := Bd.notSynchronized
  show own_E p e below s ({ frames := 1, cells := 0, slots := 0, locals := 15 } : Room).cells ({ frames := 1, cells := 0, slots := 0, locals := 15 } : Room).slots (Q_cbe Z fb fe fl fm h0 n0) s₁ (entryFrame m #[(.int fb), (.int fe), (.int fl)] 3)
  rw [ef_cbe m fb fe fl]
  refine own_st (T' := s₁) (g' := (mkF m 1 #[iv fb, iv fe, iv fl] [(.int fb)])) (fun _ k_ => XS.iloadN X0.here hx rfl (hb hby d10_0) rfl  k_) ?_
  refine own_st (T' := s₁) (g' := (mkF m 2 #[iv fb, iv fe, iv fl] [(.int fe), (.int fb)])) (fun _ k_ => XS.iloadN X0.here hx rfl (hb hby d10_1) rfl  k_) ?_
  refine own_st (T' := s₁) (g' := (mkF m 3 #[iv fb, iv fe, iv fl] [(.int fl), (.int fe), (.int fb)])) (fun _ k_ => XS.iloadN X0.here hx rfl (hb hby d10_2) rfl  k_) ?_
  obtain ⟨T1, X1, e1, st1⟩ := getS2 X0 hx hZ hown (host := "") (Or.inl (wd hw 54 rfl)) Via.refl e0 (SF.ext O0.2) (g := (mkF m 3 #[iv fb, iv fe, iv fl] [(.int fl), (.int fe), (.int fb)])) rfl (hb hby d10_3)
  refine own_st (T' := T1) (g' := (mkF m 6 #[iv fb, iv fe, iv fl] [fm, (.int fl), (.int fe), (.int fb)])) st1 ?_
  clear st1
  obtain ⟨_, T2, L2, X2, hQ2, st2⟩ := own_callS X1 hx (y := own_m4) hown (mvT hZ (wd hw 56 rfl)) (mvT hZ (wd hw 57 rfl)) (mvT hZ (wd hw 55 rfl)) (mvT hZ (wd hw 58 rfl)) (by decide) (backOf (W := 0) (rm_cft l Z a0 hw [] fb fe fl fm h0 n0 O0 hb0 hb1 hb2 hfm) hZ (wd hw 58 rfl) (wd hw 55 rfl) (by decide) (by decide)) (g := (mkF m 6 #[iv fb, iv fe, iv fl] [fm, (.int fl), (.int fe), (.int fb)])) rfl (by rw [hml]; rfl) (argsL := [(.int fb), (.int fe), (.int fl), fm]) (rest := []) (lenOf pd__IIILjava_util_function_BiFunction__I rfl) rfl (by show 2 * 0 + _ ≤ _; exact Nat.le_of_eq rfl) (hb hby d10_6) rfl e1 (by decide) (by decide) (c' := 0) (s' := 0) rfl rfl
  obtain ⟨rfl, Nq2, eq2⟩ := hQ2
  have N2 := Fr.app N0 Nq2
  refine own_st (T' := T2) (g' := (mkF m 9 #[iv fb, iv fe, iv fl] [(.int fb)])) st2 ?_
  clear st2
  refine own_st (T' := T2) (g' := (mkF m 10 #[iv fb, iv fe, iv fl] [])) (fun _ k_ => XS.pop X2.here hx rfl (hb hby d10_9) rfl rfl k_) ?_
  exact own_retV X2 hx hret hlk (hb hby d10_10) (by decide) (by decide) ⟨rfl, N2, eq2⟩
theorem d25_0 : decode jdk_65_method_131_code 0 = .ok (.iload_n 1, 1) := by decide +kernel
theorem d25_1 : decode jdk_65_method_131_code 1 = .ok (.iload_n 0, 1) := by decide +kernel
theorem d25_2 : decode jdk_65_method_131_code 2 = .ok (.if_icmp .ge 35, 3) := by decide +kernel
theorem d25_37 : decode jdk_65_method_131_code 37 = .ok (.return_, 1) := by decide +kernel
theorem pn_2 : plainName "java/util/Arrays" = true := by first | (simp [plainName, overriddenIn]; done) | decide +kernel
theorem ef_ckl (m : MethodId) (x0 : Int32) (x1 : Int32) : entryFrame m #[(.int x0), (.int x1)] 2 = mkF m 0 #[iv x0, iv x1] [] := by first | (simp [entryFrame, mkF, argsToLocals, Value.category]; done) | rfl
def Q_ckl (Z : State) (fb : Int32) (fe : Int32) (h0 : Heap) (n0 : Nat) (v : Option Value) (h : Heap) (L : List Loc) : Prop := (v = none) ∧ (Fr n0 L) ∧ (h = h0)
set_option maxRecDepth 65536 in
set_option maxHeartbeats 40000000 in
theorem rm_ckl (l : Launch) (Z : State) (a0 : Array Value) (hw : ∀ d ∈ tables_1, d.before a0 Z = true) (ws : List Jvm.Cond) (fb : Int32) (fe : Int32) (h0 : Heap) (n0 : Nat) (O0 : Old Z n0 h0) (hb1 : ¬ fe < fb) :
    MetFree l own_m6 (head1 (Jvm.Cond.code own_m6 jdk_65_method_131_code 2 none :: ws) ({ frames := 0, cells := 0, slots := 0, locals := 0 } : Room)) (fun ar_ U => ar_ = #[(.int fb), (.int fe)] ∧ Z.Warmed39 U.vm ∧ U.heap = h0) (fun _ _ _ _ _ => True) (fun _ U o U' => ∃ v L, o = .returned v ∧ Q_ckl Z fb fe h0 n0 v U'.heap L ∧ FrameEnd U o U' L ({ frames := 0, cells := 0, slots := 0, locals := 0 } : Room).cells ({ frames := 0, cells := 0, slots := 0, locals := 0 } : Room).slots) := by
  refine MetFree.of_bodySF (plainFor_of_name pn_2) hisR ?_
  intro p e s m args below meth c s₁ Bd hml0 hP hK
  obtain ⟨rfl, hZ, hh⟩ := hP
  have hx := Bd.exec
  have hby := Bd.bytes
  have hml : c.maxLocals = 2 := hml0
  have hown : s.vm.findClass "java/util/Arrays" = some m.cls := findClass_of_methodNamed Bd.named
  have hnm := (name_of_methodNamed Bd.named Bd.method).1
  have X0 : Stand p l e ({ frames := 0, cells := 0, slots := 0, locals := 0 } : Room) s m #[(.int fb), (.int fe)] below meth c s₁ [] 0 0 := Stand.of_body Bd
  have e0 : s₁.heap = h0 := by rw [← hh, Bd.state]; rfl
  have N0 := Fr.nil n0
  have hret := Bd.returns
  have hlk : meth.locks = false := Bd.notSynchronized
  show own_E p e below s ({ frames := 0, cells := 0, slots := 0, locals := 0 } : Room).cells ({ frames := 0, cells := 0, slots := 0, locals := 0 } : Room).slots (Q_ckl Z fb fe h0 n0) s₁ (entryFrame m #[(.int fb), (.int fe)] 2)
  rw [ef_ckl m fb fe]
  refine own_st (T' := s₁) (g' := (mkF m 1 #[iv fb, iv fe] [(.int fe)])) (fun _ k_ => XS.iloadN X0.here hx rfl (hb hby d25_0) rfl  k_) ?_
  refine own_st (T' := s₁) (g' := (mkF m 2 #[iv fb, iv fe] [(.int fb), (.int fe)])) (fun _ k_ => XS.iloadN X0.here hx rfl (hb hby d25_1) rfl  k_) ?_
  refine own_st (T' := s₁) (g' := (mkF m 37 #[iv fb, iv fe] [])) (fun _ k_ => XS.icmpYes X0.here hx rfl (pc0 := 2) (pc' := 37) rfl (hb hby d25_2) rfl (flt (hb1 : ¬ (fe < fb))).2.1 (by decide) (by decide) k_) ?_
  exact own_retV X0 hx hret hlk (hb hby d25_37) (by decide) (by decide) ⟨rfl, N0, e0⟩
theorem d27_0 : decode jdk_42_method_151_code 0 = .ok (.aload_n 0, 1) := by decide +kernel
theorem d27_1 : decode jdk_42_method_151_code 1 = .ok (.invokespecial 1, 3) := by decide +kernel
theorem d27_4 : decode jdk_42_method_151_code 4 = .ok (.aload_n 0, 1) := by decide +kernel
theorem d27_5 : decode jdk_42_method_151_code 5 = .ok (.aload_n 1, 1) := by decide +kernel
theorem d27_6 : decode jdk_42_method_151_code 6 = .ok (.putfield 9, 3) := by decide +kernel
theorem d27_9 : decode jdk_42_method_151_code 9 = .ok (.aload_n 0, 1) := by decide +kernel
theorem d27_10 : decode jdk_42_method_151_code 10 = .ok (.iload_n 2, 1) := by decide +kernel
theorem d27_11 : decode jdk_42_method_151_code 11 = .ok (.putfield 15, 3) := by decide +kernel
theorem d27_14 : decode jdk_42_method_151_code 14 = .ok (.return_, 1) := by decide +kernel
theorem ef_inbb (m : MethodId) (x0 : Addr) (x1 : Addr) (x2 : Int32) : entryFrame m #[(.ref x0), (.ref x1), (.int x2)] 3 = mkF m 0 #[rv x0, rv x1, iv x2] [] := by first | (simp [entryFrame, mkF, argsToLocals, Value.category]; done) | rfl
def Q_inbb (Z : State) (a : Addr) (t : Addr) (h0 : Heap) (n0 : Nat) (v : Option Value) (h : Heap) (L : List Loc) : Prop := (v = none) ∧ (Fr n0 L) ∧ (Keep h0 h [a]) ∧ (Exa Z h a "java/lang/String") ∧ (Fld Z h a "java/lang/String" "coder" "B" (.int (0 : Int32))) ∧ (Fld Z h a "java/lang/String" "value" "[B" (.ref t))
set_option maxRecDepth 65536 in
set_option maxHeartbeats 40000000 in
theorem rm_inbb (l : Launch) (Z : State) (a0 : Array Value) (hw : ∀ d ∈ tables_1, d.before a0 Z = true) (ws : List Jvm.Cond) (a : Addr) (t : Addr) (h0 : Heap) (n0 : Nat) (O0 : Old Z n0 h0) (EA : Exa Z h0 a "java/lang/String") (FV : Fld Z h0 a "java/lang/String" "value" "[B" .null) (FC : Fld Z h0 a "java/lang/String" "coder" "B" (.int (0 : Int32))) (fa : n0 ≤ a) :
    MetFree l own_m7 (head1 (Jvm.Cond.code own_m7 jdk_42_method_151_code 3 none :: ws) ({ frames := 1, cells := 0, slots := 0, locals := 12 } : Room)) (fun ar_ U => ar_ = #[(.ref a), (.ref t), (.int (0 : Int32))] ∧ Z.Warmed39 U.vm ∧ U.heap = h0) (fun _ _ _ _ _ => True) (fun _ U o U' => ∃ v L, o = .returned v ∧ Q_inbb Z a t h0 n0 v U'.heap L ∧ FrameEnd U o U' L ({ frames := 1, cells := 0, slots := 0, locals := 12 } : Room).cells ({ frames := 1, cells := 0, slots := 0, locals := 12 } : Room).slots) := by
  refine MetFree.of_bodySF (plainFor_of_name pn_0) hisR ?_
  intro p e s m args below meth c s₁ Bd hml0 hP hK
  obtain ⟨rfl, hZ, hh⟩ := hP
  have hx := Bd.exec
  have hby := Bd.bytes
  have hml : c.maxLocals = 3 := hml0
  have hown : s.vm.findClass "java/lang/String" = some m.cls := findClass_of_methodNamed Bd.named
  have hnm := (name_of_methodNamed Bd.named Bd.method).1
  have X0 : Stand p l e ({ frames := 1, cells := 0, slots := 0, locals := 12 } : Room) s m #[(.ref a), (.ref t), (.int (0 : Int32))] below meth c s₁ [] 0 0 := Stand.of_body Bd
  have e0 : s₁.heap = h0 := by rw [← hh, Bd.state]; rfl
  have N0 := Fr.nil n0
  have hret := Bd.returns
  have hlk : meth.locks = false := Bd.notSynchronized
  show own_E p e below s ({ frames := 1, cells := 0, slots := 0, locals := 12 } : Room).cells ({ frames := 1, cells := 0, slots := 0, locals := 12 } : Room).slots (Q_inbb Z a t h0 n0) s₁ (entryFrame m #[(.ref a), (.ref t), (.int (0 : Int32))] 3)
  rw [ef_inbb m a t (0 : Int32)]
  refine own_st (T' := s₁) (g' := (mkF m 1 #[rv a, rv t, iv (0 : Int32)] [(.ref a)])) (fun _ k_ => XS.aloadN X0.here hx rfl (hb hby d27_0) rfl rfl  k_) ?_
  obtain ⟨T1, X1, e1, st1⟩ := initO X0 hx hZ hown (wd hw 19 rfl) (wd hw 20 rfl) (wd hw 21 rfl) e0 (g := (mkF m 1 #[rv a, rv t, iv (0 : Int32)] [(.ref a)])) rfl (by rw [hml]; rfl) rfl (hb hby d27_1) (by decide) (W := 0) (by show 2 * 0 + _ ≤ _; exact Nat.le_of_eq rfl) (by decide)
  refine own_st (T' := T1) (g' := (mkF m 4 #[rv a, rv t, iv (0 : Int32)] [])) st1 ?_
  clear st1
  refine own_st (T' := T1) (g' := (mkF m 5 #[rv a, rv t, iv (0 : Int32)] [(.ref a)])) (fun _ k_ => XS.aloadN X1.here hx rfl (hb hby d27_4) rfl rfl  k_) ?_
  refine own_st (T' := T1) (g' := (mkF m 6 #[rv a, rv t, iv (0 : Int32)] [(.ref t), (.ref a)])) (fun _ k_ => XS.aloadN X1.here hx rfl (hb hby d27_5) rfl rfl  k_) ?_
  obtain ⟨T2, h2, X2, e2, W2, st2⟩ := putF X1 hx hZ hown (host := "") (Or.inl (wd hw 28 rfl)) Via.refl e1 FV EA (Or.inr ⟨(wd hw 24 rfl), rfl, hnm⟩) (wd hw 10 rfl) (ty := (.array .byte)) (by decide) rfl rfl (g := (mkF m 6 #[rv a, rv t, iv (0 : Int32)] [(.ref t), (.ref a)])) rfl rfl (hb hby d27_6)
  have Fw2 : Fld Z h2 a "java/lang/String" "value" "[B" (.ref t) := Fld.same W2 FV
  have N2 := Fr.snoc X2 N0 fa
  refine own_st (T' := T2) (g' := (mkF m 9 #[rv a, rv t, iv (0 : Int32)] [])) st2 ?_
  clear st2
  refine own_st (T' := T2) (g' := (mkF m 10 #[rv a, rv t, iv (0 : Int32)] [(.ref a)])) (fun _ k_ => XS.aloadN X2.here hx rfl (hb hby d27_9) rfl rfl  k_) ?_
  refine own_st (T' := T2) (g' := (mkF m 11 #[rv a, rv t, iv (0 : Int32)] [(.int (0 : Int32)), (.ref a)])) (fun _ k_ => XS.iloadN X2.here hx rfl (hb hby d27_10) rfl  k_) ?_
  have f3 : Exa Z h2 a "java/lang/String" := EA.wr W2
  have f4 : Fld Z h2 a "java/lang/String" "coder" "B" (.int (0 : Int32)) := FC.other W2 (Or.inr (slot_ne (Or.inr (wd hw 25 rfl)) (Or.inr (wd hw 24 rfl)) (by decide) (t := .byte) (t' := (.array .byte)) (by decide) (by decide)))
  obtain ⟨T5, h5, X5, e5, W5, st5⟩ := putFN X2 hx hZ hown (wd hw 29 rfl) Via.refl e2 f4 f3 (Or.inr ⟨(wd hw 25 rfl), rfl, hnm⟩) (wd hw 10 rfl) (ty := .byte) (v' := (.int (0 : Int32))) (by decide) rfl (by decide) (g := (mkF m 11 #[rv a, rv t, iv (0 : Int32)] [(.int (0 : Int32)), (.ref a)])) rfl rfl (hb hby d27_11)
  have Fw5 : Fld Z h5 a "java/lang/String" "coder" "B" (.int (0 : Int32)) := Fld.same W5 f4
  have N5 := Fr.snoc X5 N2 fa
  refine own_st (T' := T5) (g' := (mkF m 14 #[rv a, rv t, iv (0 : Int32)] [])) st5 ?_
  clear st5
  have f6 : Keep h0 h2 [a] := (Keep.refl h0 [a]).wr W2 (Or.inl (List.mem_of_getElem? (i := 0) rfl))
  have f7 : Keep h0 h5 [a] := f6.wr W5 (Or.inl (List.mem_of_getElem? (i := 0) rfl))
  have f8 : Exa Z h5 a "java/lang/String" := f3.wr W5
  have f9 : Fld Z h5 a "java/lang/String" "value" "[B" (.ref t) := Fw2.other W5 (Or.inr (slot_ne (Or.inr (wd hw 24 rfl)) (Or.inr (wd hw 25 rfl)) (by decide) (t := (.array .byte)) (t' := .byte) (by decide) (by decide)))
  exact own_retV X5 hx hret hlk (hb hby d27_14) (by decide) (by decide) (by rw [e5]; exact ⟨rfl, N5, f7, f8, Fw5, f9⟩)
theorem own_on {i : Nat} (h : i ≤ 4000) : (Int32.ofNat i).toInt = i := by
  exact Int32.toInt_ofNat_of_lt (by omega)
theorem own_onN {i : Nat} (h : i ≤ 4000) : (Int32.ofNat i).toNatClampNeg = i := by
  simp only [Int32.toNatClampNeg, own_on h]; rfl
theorem own_on0 {i : Nat} (h : i ≤ 4000) : ¬ (Int32.ofNat i) < (0 : Int32) := by
  rw [Int32.lt_iff_toInt_lt, own_on h]; show ¬ (i : Int) < 0; omega
theorem own_olt {i j : Nat} (h : i ≤ 4000) (q : j ≤ 4000) : Int32.ofNat i < Int32.ofNat j ↔ i < j := by
  rw [Int32.lt_iff_toInt_lt, own_on h, own_on q]; omega
theorem own_oeq {i j : Nat} (h : i ≤ 4000) (q : j ≤ 4000) : Int32.ofNat i = Int32.ofNat j ↔ i = j := by
  constructor
  · intro e; have := congrArg Int32.toInt e; rw [own_on h, own_on q] at this; omega
  · rintro rfl; rfl
theorem own_osub {i j : Nat} (h : i ≤ j) (q : j ≤ 4000) : Int32.ofNat j - Int32.ofNat i = Int32.ofNat (j - i) := by
  have k := c_isub (Int32.ofNat j) (Int32.ofNat i)
  rw [own_on q, own_on (Nat.le_trans h q)] at k
  have e := own_on (i := j - i) (by omega)
  have b1 := (Int32.ofNat j - Int32.ofNat i).le_toInt; have b2 := (Int32.ofNat j - Int32.ofNat i).toInt_lt
  exact Int32.toInt_inj.mp (by rw [e]; omega)
theorem own_oadd {i j : Nat} (q : i + j ≤ 4000) : Int32.ofNat i + Int32.ofNat j = Int32.ofNat (i + j) := by
  have k := c_iadd (Int32.ofNat i) (Int32.ofNat j)
  rw [own_on (i := i) (by omega), own_on (i := j) (by omega)] at k
  have e := own_on (i := i + j) (by omega)
  have b1 := (Int32.ofNat i + Int32.ofNat j).le_toInt; have b2 := (Int32.ofNat i + Int32.ofNat j).toInt_lt
  exact Int32.toInt_inj.mp (by rw [e]; omega)
theorem own_cpl (vs : List Value) (d : Value) (b k : Nat) (hk : b + k ≤ vs.length) : (List.replicate k d).take 0 ++ ((List.range k).map fun i => vs.getD (b + i) d) ++ (List.replicate k d).drop (0 + k) = (vs.drop b).take k := by
  have e : (List.replicate k d).drop (0 + k) = [] := by apply List.drop_eq_nil_of_le; simp
  rw [e, List.take_zero, List.nil_append, List.append_nil]
  apply List.ext_getElem
  · simp; omega
  · intro i h1 h2
    have : i < k := by simpa using h1
    simp [List.getD_eq_getElem?_getD, show b + i < vs.length by omega]

theorem own_onlt {i j : Nat} (h : i ≤ j) (q : j ≤ 4000) : ¬ Int32.ofNat j < Int32.ofNat i := fun z => absurd ((own_olt q (Nat.le_trans h q)).mp z) (Nat.not_lt.mpr h)
theorem own_oz {i : Nat} (h : i ≤ 4000) (q : Int32.ofNat i = (0 : Int32)) : i = 0 := (own_oeq (j := 0) h (by decide)).mp q
def own_sub (cs : List Int32) (ib ie : Nat) : List Int32 := (cs.drop ib).take (ie - ib)
theorem own_subl {cs : List Int32} {ib ie : Nat} (h : ie ≤ cs.length) : (own_sub cs ib ie).length = ie - ib := by
  unfold own_sub; rw [List.length_take, List.length_drop]; omega
theorem own_sub0 (cs : List Int32) (i : Nat) : own_sub cs i i = [] := by unfold own_sub; rw [Nat.sub_self, List.take_zero]
theorem own_subW (cs : List Int32) : own_sub cs 0 cs.length = cs := by unfold own_sub; rw [List.drop_zero, Nat.sub_zero, List.take_length]
theorem own_cplA (cs : List Int32) (ib ie : Nat) (h : ib ≤ ie) (q : ie ≤ cs.length) (r : cs.length ≤ 4000) : (List.replicate (ie - ib) (Value.int 0)).take (0 : Int32).toNatClampNeg ++ ((List.range (Int32.ofNat (ie - ib)).toNatClampNeg).map fun i => ((cs.map StrChars.lo8).map Value.int).getD ((Int32.ofNat ib).toNatClampNeg + i) (Value.int 0)) ++ (List.replicate (ie - ib) (Value.int 0)).drop ((0 : Int32).toNatClampNeg + (Int32.ofNat (ie - ib)).toNatClampNeg) = ((own_sub cs ib ie).map StrChars.lo8).map Value.int := by
  rw [own_onN (by omega), own_onN (by omega)]
  have e := own_cpl ((cs.map StrChars.lo8).map Value.int) (Value.int 0) ib (ie - ib) (by simp; omega)
  refine Eq.trans e ?_
  unfold own_sub
  rw [List.map_take, List.map_take, List.map_drop, List.map_drop]
theorem d26_9 : decode jdk_29_method_69_code 9 = .ok (.iload_n 1, 1) := by decide +kernel
theorem ef_min2 (m : MethodId) (x0 : Int32) (x1 : Int32) : entryFrame m #[(.int x0), (.int x1)] 2 = mkF m 0 #[iv x0, iv x1] [] := by first | (simp [entryFrame, mkF, argsToLocals, Value.category]; done) | rfl
def Q_min2 (Z : State) (xx : Int32) (yy : Int32) (h0 : Heap) (n0 : Nat) (v : Option Value) (h : Heap) (L : List Loc) : Prop := (v = some (.int yy)) ∧ (Fr n0 L) ∧ (h = h0)
set_option maxRecDepth 65536 in
set_option maxHeartbeats 40000000 in
theorem rm_min2 (l : Launch) (Z : State) (a0 : Array Value) (hw : ∀ d ∈ tables_1, d.before a0 Z = true) (ws : List Jvm.Cond) (xx : Int32) (yy : Int32) (h0 : Heap) (n0 : Nat) (O0 : Old Z n0 h0) (hm2 : ¬ xx < yy) :
    MetFree l own_m3 (head1 (Jvm.Cond.code own_m3 jdk_29_method_69_code 2 (some .int) :: ws) ({ frames := 0, cells := 0, slots := 0, locals := 0 } : Room)) (fun ar_ U => ar_ = #[(.int xx), (.int yy)] ∧ Z.Warmed39 U.vm ∧ U.heap = h0) (fun _ _ _ _ _ => True) (fun _ U o U' => ∃ v L, o = .returned v ∧ Q_min2 Z xx yy h0 n0 v U'.heap L ∧ FrameEnd U o U' L ({ frames := 0, cells := 0, slots := 0, locals := 0 } : Room).cells ({ frames := 0, cells := 0, slots := 0, locals := 0 } : Room).slots) := by
  refine MetFree.of_bodySF (Jvm.Free.JP.mathPlain rfl (by decide +kernel)) hisR ?_
  intro p e s m args below meth c s₁ Bd hml0 hP hK
  obtain ⟨rfl, hZ, hh⟩ := hP
  have hx := Bd.exec
  have hby := Bd.bytes
  have hml : c.maxLocals = 2 := hml0
  have hown : s.vm.findClass "java/lang/Math" = some m.cls := findClass_of_methodNamed Bd.named
  have hnm := (name_of_methodNamed Bd.named Bd.method).1
  have X0 : Stand p l e ({ frames := 0, cells := 0, slots := 0, locals := 0 } : Room) s m #[(.int xx), (.int yy)] below meth c s₁ [] 0 0 := Stand.of_body Bd
  have e0 : s₁.heap = h0 := by rw [← hh, Bd.state]; rfl
  have N0 := Fr.nil n0
  have hret := Bd.returns
  have hlk : meth.locks = false := Bd.notSynchronized
  show own_E p e below s ({ frames := 0, cells := 0, slots := 0, locals := 0 } : Room).cells ({ frames := 0, cells := 0, slots := 0, locals := 0 } : Room).slots (Q_min2 Z xx yy h0 n0) s₁ (entryFrame m #[(.int xx), (.int yy)] 2)
  rw [ef_min2 m xx yy]
  refine own_st (T' := s₁) (g' := (mkF m 1 #[iv xx, iv yy] [(.int xx)])) (fun _ k_ => XS.iloadN X0.here hx rfl (hb hby d26_0) rfl  k_) ?_
  refine own_st (T' := s₁) (g' := (mkF m 2 #[iv xx, iv yy] [(.int yy), (.int xx)])) (fun _ k_ => XS.iloadN X0.here hx rfl (hb hby d26_1) rfl  k_) ?_
  by_cases hc1 : yy < xx
  · refine own_st (T' := s₁) (g' := (mkF m 9 #[iv xx, iv yy] [])) (fun _ k_ => XS.icmpYes X0.here hx rfl (pc0 := 2) (pc' := 9) rfl (hb hby d26_2) rfl (tlt hc1).2.2.1 (by decide) (by decide) k_) ?_
    refine own_st (T' := s₁) (g' := (mkF m 10 #[iv xx, iv yy] [(.int yy)])) (fun _ k_ => XS.iloadN X0.here hx rfl (hb hby d26_9) rfl  k_) ?_
    exact own_retI X0 hx hret hlk (hb hby d26_10) (by decide) (by decide) ⟨rfl, N0, e0⟩
  · refine own_st (T' := s₁) (g' := (mkF m 5 #[iv xx, iv yy] [])) (fun _ k_ => XS.icmpNo X0.here hx rfl (hb hby d26_2) rfl (flt hc1).2.2.1 k_) ?_
    refine own_st (T' := s₁) (g' := (mkF m 6 #[iv xx, iv yy] [(.int xx)])) (fun _ k_ => XS.iloadN X0.here hx rfl (hb hby d26_5) rfl  k_) ?_
    refine own_st (T' := s₁) (g' := (mkF m 10 #[iv xx, iv yy] [(.int xx)])) (fun _ k_ => XS.goto X0.here hx rfl (pc0 := 6) (pc' := 10) rfl (hb hby d26_6) (by decide) (by decide) k_) ?_
    exact own_retI X0 hx hret hlk (hb hby d26_10) (by decide) (by decide) ⟨congrArg (fun z => some (Value.int z)) (own_eqI (by have a := hm2; have b := hc1; rw [Int32.lt_iff_toInt_lt] at a b; omega)), N0, e0⟩
theorem d24_0 : decode jdk_65_method_133_code 0 = .ok (.iload_n 1, 1) := by decide +kernel
theorem d24_1 : decode jdk_65_method_133_code 1 = .ok (.iload_n 2, 1) := by decide +kernel
theorem d24_2 : decode jdk_65_method_133_code 2 = .ok (.invokestatic 343, 3) := by decide +kernel
theorem d24_5 : decode jdk_65_method_133_code 5 = .ok (.iload_n 2, 1) := by decide +kernel
theorem d24_6 : decode jdk_65_method_133_code 6 = .ok (.iload_n 1, 1) := by decide +kernel
theorem d24_7 : decode jdk_65_method_133_code 7 = .ok (.isub, 1) := by decide +kernel
theorem d24_8 : decode jdk_65_method_133_code 8 = .ok (.istore_n 3, 1) := by decide +kernel
theorem d24_9 : decode jdk_65_method_133_code 9 = .ok (.iload_n 3, 1) := by decide +kernel
theorem d24_10 : decode jdk_65_method_133_code 10 = .ok (.newarray .byte, 2) := by decide +kernel
theorem d24_12 : decode jdk_65_method_133_code 12 = .ok (.astore 4, 2) := by decide +kernel
theorem d24_14 : decode jdk_65_method_133_code 14 = .ok (.aload_n 0, 1) := by decide +kernel
theorem d24_15 : decode jdk_65_method_133_code 15 = .ok (.iload_n 1, 1) := by decide +kernel
theorem d24_16 : decode jdk_65_method_133_code 16 = .ok (.aload 4, 2) := by decide +kernel
theorem d24_18 : decode jdk_65_method_133_code 18 = .ok (.iconst 0, 1) := by decide +kernel
theorem d24_19 : decode jdk_65_method_133_code 19 = .ok (.aload_n 0, 1) := by decide +kernel
theorem d24_20 : decode jdk_65_method_133_code 20 = .ok (.arraylength, 1) := by decide +kernel
theorem d24_21 : decode jdk_65_method_133_code 21 = .ok (.iload_n 1, 1) := by decide +kernel
theorem d24_22 : decode jdk_65_method_133_code 22 = .ok (.isub, 1) := by decide +kernel
theorem d24_23 : decode jdk_65_method_133_code 23 = .ok (.iload_n 3, 1) := by decide +kernel
theorem d24_24 : decode jdk_65_method_133_code 24 = .ok (.invokestatic 304, 3) := by decide +kernel
theorem d24_27 : decode jdk_65_method_133_code 27 = .ok (.invokestatic 150, 3) := by decide +kernel
theorem d24_30 : decode jdk_65_method_133_code 30 = .ok (.aload 4, 2) := by decide +kernel
theorem d24_32 : decode jdk_65_method_133_code 32 = .ok (.areturn, 1) := by decide +kernel
theorem pd__II_V : parseMethodDescriptor "(II)V" = some ⟨[.int, .int], none⟩ := by decide +kernel
theorem pd__II_I : parseMethodDescriptor "(II)I" = some ⟨[.int, .int], some .int⟩ := by decide +kernel
theorem ef_crb (m : MethodId) (x0 : Addr) (x1 : Int32) (x2 : Int32) : entryFrame m #[(.ref x0), (.int x1), (.int x2)] 5 = mkF m 0 #[rv x0, iv x1, iv x2, .unset, .unset] [] := by first | (simp [entryFrame, mkF, argsToLocals, Value.category]; done) | rfl
def Q_crb (Z : State) (t : Addr) (kt : ClassId) (cs : List Int32) (bb : Int32) (ee : Int32) (ib : Nat) (ie : Nat) (h0 : Heap) (n0 : Nat) (v : Option Value) (h : Heap) (L : List Loc) : Prop := ∃ (u : Addr) (ku : ClassId), (v = some (.ref u)) ∧ (Fr n0 L) ∧ (Keep h0 h []) ∧ (Arv Z h u ku .byte (Int32.ofNat (own_sub cs ib ie).length) (((own_sub cs ib ie).map StrChars.lo8).map Value.int) (.int (0 : Int32))) ∧ (h0.size ≤ u)
set_option maxRecDepth 65536 in
set_option maxHeartbeats 40000000 in
theorem rm_crb (l : Launch) (Z : State) (a0 : Array Value) (hw : ∀ d ∈ tables_1, d.before a0 Z = true) (ws : List Jvm.Cond) (t : Addr) (kt : ClassId) (cs : List Int32) (bb : Int32) (ee : Int32) (ib : Nat) (ie : Nat) (h0 : Heap) (n0 : Nat) (O0 : Old Z n0 h0) (A_x : Arv Z h0 t kt .byte (Int32.ofNat cs.length) ((cs.map StrChars.lo8).map Value.int) (.int (0 : Int32))) (hbb : bb = Int32.ofNat ib) (hee : ee = Int32.ofNat ie) (hie : ib ≤ ie) (hec : ie ≤ cs.length) (lcs : cs.length ≤ 4) :
    MetFree l own_m8 (head1 (Jvm.Cond.code own_m8 jdk_65_method_133_code 5 (some (.array .byte)) :: ws) ({ frames := 1, cells := 1, slots := 4, locals := 40 } : Room)) (fun ar_ U => ar_ = #[(.ref t), (.int bb), (.int ee)] ∧ Z.Warmed39 U.vm ∧ U.heap = h0) (fun _ _ _ _ _ => True) (fun _ U o U' => ∃ v L, o = .returned v ∧ Q_crb Z t kt cs bb ee ib ie h0 n0 v U'.heap L ∧ FrameEnd U o U' L ({ frames := 1, cells := 1, slots := 4, locals := 40 } : Room).cells ({ frames := 1, cells := 1, slots := 4, locals := 40 } : Room).slots) := by
  refine MetFree.of_bodySF (plainFor_of_name pn_2) hisR ?_
  intro p e s m args below meth c s₁ Bd hml0 hP hK
  obtain ⟨rfl, hZ, hh⟩ := hP
  have hx := Bd.exec
  have hby := Bd.bytes
  have hml : c.maxLocals = 5 := hml0
  have hown : s.vm.findClass "java/util/Arrays" = some m.cls := findClass_of_methodNamed Bd.named
  have hnm := (name_of_methodNamed Bd.named Bd.method).1
  have X0 : Stand p l e ({ frames := 1, cells := 1, slots := 4, locals := 40 } : Room) s m #[(.ref t), (.int bb), (.int ee)] below meth c s₁ [] 0 0 := Stand.of_body Bd
  have e0 : s₁.heap = h0 := by rw [← hh, Bd.state]; rfl
  have N0 := Fr.nil n0
  have hret := Bd.returns
  have hlk : meth.locks = false := Bd.notSynchronized
  show own_E p e below s ({ frames := 1, cells := 1, slots := 4, locals := 40 } : Room).cells ({ frames := 1, cells := 1, slots := 4, locals := 40 } : Room).slots (Q_crb Z t kt cs bb ee ib ie h0 n0) s₁ (entryFrame m #[(.ref t), (.int bb), (.int ee)] 5)
  rw [ef_crb m t bb ee]
  subst hbb hee
  have q1 : cs.length ≤ 4000 := by omega
  have q2 : ie ≤ 4000 := by omega
  have q3 : ib ≤ 4000 := by omega
  have q4 : ie - ib ≤ 4000 := by omega
  have q5 : ib ≤ cs.length := by omega
  have q6 : ie - ib ≤ cs.length - ib := by omega
  have q7 : cs.length - ib ≤ 4000 := by omega
  refine own_st (T' := s₁) (g' := (mkF m 1 #[rv t, iv (Int32.ofNat ib), iv (Int32.ofNat ie), .unset, .unset] [(.int (Int32.ofNat ib))])) (fun _ k_ => XS.iloadN X0.here hx rfl (hb hby d24_0) rfl  k_) ?_
  refine own_st (T' := s₁) (g' := (mkF m 2 #[rv t, iv (Int32.ofNat ib), iv (Int32.ofNat ie), .unset, .unset] [(.int (Int32.ofNat ie)), (.int (Int32.ofNat ib))])) (fun _ k_ => XS.iloadN X0.here hx rfl (hb hby d24_1) rfl  k_) ?_
  obtain ⟨_, T1, L1, X1, hQ1, st1⟩ := own_callS X0 hx (y := own_m6) hown (mvT hZ (wd hw 107 rfl)) (mvT hZ (wd hw 108 rfl)) (mvT hZ (wd hw 102 rfl)) (mvT hZ (wd hw 109 rfl)) (by decide) (backOf (W := 0) (rm_ckl l Z a0 hw [] (Int32.ofNat ib) (Int32.ofNat ie) h0 n0 O0 (own_onlt hie q2)) hZ (wd hw 109 rfl) (wd hw 102 rfl) (by decide) (by decide)) (g := (mkF m 2 #[rv t, iv (Int32.ofNat ib), iv (Int32.ofNat ie), .unset, .unset] [(.int (Int32.ofNat ie)), (.int (Int32.ofNat ib))])) rfl (by rw [hml]; rfl) (argsL := [(.int (Int32.ofNat ib)), (.int (Int32.ofNat ie))]) (rest := []) (lenOf pd__II_V rfl) rfl (by show 2 * 0 + _ ≤ _; exact Nat.le_of_eq rfl) (hb hby d24_2) rfl e0 (by decide) (by decide) (c' := 0) (s' := 0) rfl rfl
  obtain ⟨rfl, Nq1, eq1⟩ := hQ1
  have N1 := Fr.app N0 Nq1
  refine own_st (T' := T1) (g' := (mkF m 5 #[rv t, iv (Int32.ofNat ib), iv (Int32.ofNat ie), .unset, .unset] [])) st1 ?_
  clear st1
  refine own_st (T' := T1) (g' := (mkF m 6 #[rv t, iv (Int32.ofNat ib), iv (Int32.ofNat ie), .unset, .unset] [(.int (Int32.ofNat ie))])) (fun _ k_ => XS.iloadN X1.here hx rfl (hb hby d24_5) rfl  k_) ?_
  refine own_st (T' := T1) (g' := (mkF m 7 #[rv t, iv (Int32.ofNat ib), iv (Int32.ofNat ie), .unset, .unset] [(.int (Int32.ofNat ib)), (.int (Int32.ofNat ie))])) (fun _ k_ => XS.iloadN X1.here hx rfl (hb hby d24_6) rfl  k_) ?_
  refine own_st (T' := T1) (g' := (mkF m 8 #[rv t, iv (Int32.ofNat ib), iv (Int32.ofNat ie), .unset, .unset] [(.int ((Int32.ofNat ie) - (Int32.ofNat ib)))])) (fun _ k_ => XS.isub X1.here hx rfl (hb hby d24_7) rfl k_) ?_
  rw [own_osub hie q2]
  refine own_st (T' := T1) (g' := (mkF m 9 #[rv t, iv (Int32.ofNat ib), iv (Int32.ofNat ie), iv (Int32.ofNat (ie - ib)), .unset] [])) (fun _ k_ => XS.istoreN X1.here hx rfl (hb hby d24_8) rfl (l' := #[rv t, iv (Int32.ofNat ib), iv (Int32.ofNat ie), iv (Int32.ofNat (ie - ib)), .unset]) rfl k_) ?_
  refine own_st (T' := T1) (g' := (mkF m 10 #[rv t, iv (Int32.ofNat ib), iv (Int32.ofNat ie), iv (Int32.ofNat (ie - ib)), .unset] [(.int (Int32.ofNat (ie - ib)))])) (fun _ k_ => XS.iloadN X1.here hx rfl (hb hby d24_9) rfl  k_) ?_
  obtain ⟨T2, h2, k2, X2, e2, E2, A2, st2⟩ := newP X1 hx hZ (wd hw 23 rfl) eq1 (g := (mkF m 10 #[rv t, iv (Int32.ofNat ib), iv (Int32.ofNat ie), iv (Int32.ofNat (ie - ib)), .unset] [(.int (Int32.ofNat (ie - ib)))])) rfl (hb hby d24_10) rfl (own_on0 q4) (cap := 4) (by rw [own_onN q4]; omega) (by decide) (by decide) (by decide)
  obtain ⟨b2, g2⟩ : ∃ z, z = h0.size := ⟨_, rfl⟩
  rw [← g2] at A2 st2
  have fr2 : n0 ≤ b2 := Nat.le_trans (own_z O0) (Nat.le_of_eq g2.symm)
  have sz2 : h0.size ≤ b2 := Nat.le_trans (Keep.refl h0 []).1 (Nat.le_of_eq g2.symm)
  have V2 : Arv Z h2 b2 k2 .byte (Int32.ofNat (ie - ib)) [] (.int (0 : Int32)) := Arv.new A2 (own_on0 q4)
  refine own_st (T' := T2) (g' := (mkF m 12 #[rv t, iv (Int32.ofNat ib), iv (Int32.ofNat ie), iv (Int32.ofNat (ie - ib)), .unset] [(.ref b2)])) st2 ?_
  clear st2
  refine own_st (T' := T2) (g' := (mkF m 14 #[rv t, iv (Int32.ofNat ib), iv (Int32.ofNat ie), iv (Int32.ofNat (ie - ib)), rv b2] [])) (fun _ k_ => XS.astore X2.here hx rfl (hb hby d24_12) rfl rfl (l' := #[rv t, iv (Int32.ofNat ib), iv (Int32.ofNat ie), iv (Int32.ofNat (ie - ib)), rv b2]) rfl k_) ?_
  refine own_st (T' := T2) (g' := (mkF m 15 #[rv t, iv (Int32.ofNat ib), iv (Int32.ofNat ie), iv (Int32.ofNat (ie - ib)), rv b2] [(.ref t)])) (fun _ k_ => XS.aloadN X2.here hx rfl (hb hby d24_14) rfl rfl  k_) ?_
  refine own_st (T' := T2) (g' := (mkF m 16 #[rv t, iv (Int32.ofNat ib), iv (Int32.ofNat ie), iv (Int32.ofNat (ie - ib)), rv b2] [(.int (Int32.ofNat ib)), (.ref t)])) (fun _ k_ => XS.iloadN X2.here hx rfl (hb hby d24_15) rfl  k_) ?_
  refine own_st (T' := T2) (g' := (mkF m 18 #[rv t, iv (Int32.ofNat ib), iv (Int32.ofNat ie), iv (Int32.ofNat (ie - ib)), rv b2] [(.ref b2), (.int (Int32.ofNat ib)), (.ref t)])) (fun _ k_ => XS.aload X2.here hx rfl (hb hby d24_16) rfl rfl  k_) ?_
  refine own_st (T' := T2) (g' := (mkF m 19 #[rv t, iv (Int32.ofNat ib), iv (Int32.ofNat ie), iv (Int32.ofNat (ie - ib)), rv b2] [(.int (0 : Int32)), (.ref b2), (.int (Int32.ofNat ib)), (.ref t)])) (fun _ k_ => XS.iconst X2.here hx rfl (hb hby d24_18) k_) ?_
  refine own_st (T' := T2) (g' := (mkF m 20 #[rv t, iv (Int32.ofNat ib), iv (Int32.ofNat ie), iv (Int32.ofNat (ie - ib)), rv b2] [(.ref t), (.int (0 : Int32)), (.ref b2), (.int (Int32.ofNat ib)), (.ref t)])) (fun _ k_ => XS.aloadN X2.here hx rfl (hb hby d24_19) rfl rfl  k_) ?_
  have f4 : Arv Z h2 t kt .byte (Int32.ofNat cs.length) ((cs.map StrChars.lo8).map Value.int) (.int (0 : Int32)) := A_x.ext E2
  obtain ⟨cl3, Ar3, -, S3, N3, -, -⟩ := id f4
  refine own_st (T' := T2) (g' := (mkF m 21 #[rv t, iv (Int32.ofNat ib), iv (Int32.ofNat ie), iv (Int32.ofNat (ie - ib)), rv b2] [(.int (Int32.ofNat cs.length)), (.int (0 : Int32)), (.ref b2), (.int (Int32.ofNat ib)), (.ref t)])) (fun t_ k_ => X2.arraylength hx (by rw [e2]; exact Ar3.1) (State.isArrayOf_alike hZ.alike Ar3.2.1) (g := (mkF m 20 #[rv t, iv (Int32.ofNat ib), iv (Int32.ofNat ie), iv (Int32.ofNat (ie - ib)), rv b2] [(.ref t), (.int (0 : Int32)), (.ref b2), (.int (Int32.ofNat ib)), (.ref t)])) rfl rfl (hb hby d24_20) _ (by rw [len_of S3 N3]; exact k_)) ?_
  refine own_st (T' := T2) (g' := (mkF m 22 #[rv t, iv (Int32.ofNat ib), iv (Int32.ofNat ie), iv (Int32.ofNat (ie - ib)), rv b2] [(.int (Int32.ofNat ib)), (.int (Int32.ofNat cs.length)), (.int (0 : Int32)), (.ref b2), (.int (Int32.ofNat ib)), (.ref t)])) (fun _ k_ => XS.iloadN X2.here hx rfl (hb hby d24_21) rfl  k_) ?_
  refine own_st (T' := T2) (g' := (mkF m 23 #[rv t, iv (Int32.ofNat ib), iv (Int32.ofNat ie), iv (Int32.ofNat (ie - ib)), rv b2] [(.int ((Int32.ofNat cs.length) - (Int32.ofNat ib))), (.int (0 : Int32)), (.ref b2), (.int (Int32.ofNat ib)), (.ref t)])) (fun _ k_ => XS.isub X2.here hx rfl (hb hby d24_22) rfl k_) ?_
  rw [own_osub q5 q1]
  refine own_st (T' := T2) (g' := (mkF m 24 #[rv t, iv (Int32.ofNat ib), iv (Int32.ofNat ie), iv (Int32.ofNat (ie - ib)), rv b2] [(.int (Int32.ofNat (ie - ib))), (.int (Int32.ofNat (cs.length - ib))), (.int (0 : Int32)), (.ref b2), (.int (Int32.ofNat ib)), (.ref t)])) (fun _ k_ => XS.iloadN X2.here hx rfl (hb hby d24_23) rfl  k_) ?_
  have f5 : Old Z n0 h2 := O0.ext E2
  obtain ⟨_, T6, L6, X6, hQ6, st6⟩ := own_callS X2 hx (y := own_m3) hown (mvT hZ (wd hw 110 rfl)) (mvT hZ (wd hw 111 rfl)) (mvT hZ (wd hw 112 rfl)) (mvT hZ (wd hw 113 rfl)) (by decide) (backOf (W := 4) (rm_min2 l Z a0 hw [] (Int32.ofNat (cs.length - ib)) (Int32.ofNat (ie - ib)) h2 n0 f5 (own_onlt q6 q7)) hZ (wd hw 113 rfl) (wd hw 112 rfl) (by decide) (by decide)) (g := (mkF m 24 #[rv t, iv (Int32.ofNat ib), iv (Int32.ofNat ie), iv (Int32.ofNat (ie - ib)), rv b2] [(.int (Int32.ofNat (ie - ib))), (.int (Int32.ofNat (cs.length - ib))), (.int (0 : Int32)), (.ref b2), (.int (Int32.ofNat ib)), (.ref t)])) rfl (by rw [hml]; rfl) (argsL := [(.int (Int32.ofNat (cs.length - ib))), (.int (Int32.ofNat (ie - ib)))]) (rest := [(.int (0 : Int32)), (.ref b2), (.int (Int32.ofNat ib)), (.ref t)]) (lenOf pd__II_I rfl) rfl (by show 2 * 0 + _ ≤ _; exact Nat.le_of_eq rfl) (hb hby d24_24) rfl e2 (by decide) (by decide) (c' := 1) (s' := 4) rfl rfl
  obtain ⟨rfl, Nq6, eq6⟩ := hQ6
  have N6 := Fr.app N1 Nq6
  refine own_st (T' := T6) (g' := (mkF m 27 #[rv t, iv (Int32.ofNat ib), iv (Int32.ofNat ie), iv (Int32.ofNat (ie - ib)), rv b2] [(.int (Int32.ofNat (ie - ib))), (.int (0 : Int32)), (.ref b2), (.int (Int32.ofNat ib)), (.ref t)])) st6 ?_
  clear st6
  have Vp7 : Arv Z h2 b2 k2 .byte (Int32.ofNat (ie - ib)) (List.replicate (ie - ib) (Value.int 0)) (.int (0 : Int32)) := V2.pad (pad_rep [] (Value.int 0) (ie - ib))
  obtain ⟨T7, h7, L7, X7, e7, N7, K7, Va7, st7⟩ := cpA X6 hx hZ hown (wd hw 114 rfl) (wd hw 117 rfl) (wd hw 115 rfl) (wd hw 116 rfl) eq6 f4 Vp7 (sp := Int32.ofNat ib) (dp := (0 : Int32)) (nn := Int32.ofNat (ie - ib)) (Or.inl ⟨rfl, rfl⟩) (own_on0 q3) (by decide) (own_on0 q4) (by rw [own_onN q3, own_onN q4, own_onN q1]; omega) (by have z0 : (0 : Int32).toNatClampNeg = 0 := rfl; omega) rfl (by have z0 : (0 : Int32).toNatClampNeg = 0 := rfl; rw [List.length_replicate, own_onN q4]; omega) N6 fr2 (g := (mkF m 27 #[rv t, iv (Int32.ofNat ib), iv (Int32.ofNat ie), iv (Int32.ofNat (ie - ib)), rv b2] [(.int (Int32.ofNat (ie - ib))), (.int (0 : Int32)), (.ref b2), (.int (Int32.ofNat ib)), (.ref t)])) rfl (by rw [hml]; rfl) (rest := []) rfl (hb hby d24_27) (by decide) (W := 0) (by show 2 * 0 + _ ≤ _; exact Nat.le_of_eq rfl) (by decide)
  have V7 : Arv Z h7 b2 k2 .byte (Int32.ofNat (own_sub cs ib ie).length) (((own_sub cs ib ie).map StrChars.lo8).map Value.int) (.int (0 : Int32)) := by rw [own_subl hec, ← own_cplA cs ib ie hie hec q1]; exact Va7
  refine own_st (T' := T7) (g' := (mkF m 30 #[rv t, iv (Int32.ofNat ib), iv (Int32.ofNat ie), iv (Int32.ofNat (ie - ib)), rv b2] [])) st7 ?_
  clear st7
  refine own_st (T' := T7) (g' := (mkF m 32 #[rv t, iv (Int32.ofNat ib), iv (Int32.ofNat ie), iv (Int32.ofNat (ie - ib)), rv b2] [(.ref b2)])) (fun _ k_ => XS.aload X7.here hx rfl (hb hby d24_30) rfl rfl  k_) ?_
  have f8 : Keep h0 h2 [] := (Keep.refl h0 []).ext E2
  have f9 : Keep h0 h7 [] := f8.trans K7 (allS (Or.inr sz2) all0)
  exact own_retA X7 hx hret rfl rfl hlk (hb hby d24_32) (by decide) (by decide) (by rw [e7]; exact ⟨b2, k2, rfl, N7, f9, V7, sz2⟩)
theorem d23_0 : decode jdk_65_method_132_code 0 = .ok (.iload_n 1, 1) := by decide +kernel
theorem d23_1 : decode jdk_65_method_132_code 1 = .ok (.ifCond .ne 9, 3) := by decide +kernel
theorem d23_4 : decode jdk_65_method_132_code 4 = .ok (.iload_n 2, 1) := by decide +kernel
theorem d23_5 : decode jdk_65_method_132_code 5 = .ok (.aload_n 0, 1) := by decide +kernel
theorem d23_6 : decode jdk_65_method_132_code 6 = .ok (.arraylength, 1) := by decide +kernel
theorem d23_7 : decode jdk_65_method_132_code 7 = .ok (.if_icmp .eq 10, 3) := by decide +kernel
theorem d23_10 : decode jdk_65_method_132_code 10 = .ok (.aload_n 0, 1) := by decide +kernel
theorem d23_11 : decode jdk_65_method_132_code 11 = .ok (.iload_n 1, 1) := by decide +kernel
theorem d23_12 : decode jdk_65_method_132_code 12 = .ok (.iload_n 2, 1) := by decide +kernel
theorem d23_13 : decode jdk_65_method_132_code 13 = .ok (.invokestatic 339, 3) := by decide +kernel
theorem d23_16 : decode jdk_65_method_132_code 16 = .ok (.areturn, 1) := by decide +kernel
theorem pd___BII__B : parseMethodDescriptor "([BII)[B" = some ⟨[(.array .byte), .int, .int], some (.array .byte)⟩ := by decide +kernel
theorem ef_cra (m : MethodId) (x0 : Addr) (x1 : Int32) (x2 : Int32) : entryFrame m #[(.ref x0), (.int x1), (.int x2)] 3 = mkF m 0 #[rv x0, iv x1, iv x2] [] := by first | (simp [entryFrame, mkF, argsToLocals, Value.category]; done) | rfl
def Q_cra (Z : State) (t : Addr) (kt : ClassId) (cs : List Int32) (bb : Int32) (ee : Int32) (ib : Nat) (ie : Nat) (h0 : Heap) (n0 : Nat) (v : Option Value) (h : Heap) (L : List Loc) : Prop := ∃ (u : Addr) (ku : ClassId), (v = some (.ref u)) ∧ (Fr n0 L) ∧ (Keep h0 h []) ∧ (Arv Z h u ku .byte (Int32.ofNat (own_sub cs ib ie).length) (((own_sub cs ib ie).map StrChars.lo8).map Value.int) (.int (0 : Int32))) ∧ (h0.size ≤ u)
set_option maxRecDepth 65536 in
set_option maxHeartbeats 40000000 in
theorem rm_cra (l : Launch) (Z : State) (a0 : Array Value) (hw : ∀ d ∈ tables_1, d.before a0 Z = true) (ws : List Jvm.Cond) (t : Addr) (kt : ClassId) (cs : List Int32) (bb : Int32) (ee : Int32) (ib : Nat) (ie : Nat) (h0 : Heap) (n0 : Nat) (O0 : Old Z n0 h0) (A_x : Arv Z h0 t kt .byte (Int32.ofNat cs.length) ((cs.map StrChars.lo8).map Value.int) (.int (0 : Int32))) (hbb : bb = Int32.ofNat ib) (hee : ee = Int32.ofNat ie) (hie : ib ≤ ie) (hec : ie ≤ cs.length) (lcs : cs.length ≤ 4) (hpr : ¬ (ib = 0 ∧ ie = cs.length)) :
    MetFree l own_m9 (head1 (Jvm.Cond.code own_m9 jdk_65_method_132_code 3 (some (.array .byte)) :: ws) ({ frames := 2, cells := 1, slots := 4, locals := 56 } : Room)) (fun ar_ U => ar_ = #[(.ref t), (.int bb), (.int ee)] ∧ Z.Warmed39 U.vm ∧ U.heap = h0) (fun _ _ _ _ _ => True) (fun _ U o U' => ∃ v L, o = .returned v ∧ Q_cra Z t kt cs bb ee ib ie h0 n0 v U'.heap L ∧ FrameEnd U o U' L ({ frames := 2, cells := 1, slots := 4, locals := 56 } : Room).cells ({ frames := 2, cells := 1, slots := 4, locals := 56 } : Room).slots) := by
  refine MetFree.of_bodySF (plainFor_of_name pn_2) hisR ?_
  intro p e s m args below meth c s₁ Bd hml0 hP hK
  obtain ⟨rfl, hZ, hh⟩ := hP
  have hx := Bd.exec
  have hby := Bd.bytes
  have hml : c.maxLocals = 3 := hml0
  have hown : s.vm.findClass "java/util/Arrays" = some m.cls := findClass_of_methodNamed Bd.named
  have hnm := (name_of_methodNamed Bd.named Bd.method).1
  have X0 : Stand p l e ({ frames := 2, cells := 1, slots := 4, locals := 56 } : Room) s m #[(.ref t), (.int bb), (.int ee)] below meth c s₁ [] 0 0 := Stand.of_body Bd
  have e0 : s₁.heap = h0 := by rw [← hh, Bd.state]; rfl
  have N0 := Fr.nil n0
  have hret := Bd.returns
  have hlk : meth.locks = false := Bd.notSynchronized
  show own_E p e below s ({ frames := 2, cells := 1, slots := 4, locals := 56 } : Room).cells ({ frames := 2, cells := 1, slots := 4, locals := 56 } : Room).slots (Q_cra Z t kt cs bb ee ib ie h0 n0) s₁ (entryFrame m #[(.ref t), (.int bb), (.int ee)] 3)
  rw [ef_cra m t bb ee]
  subst hbb hee
  have q1 : cs.length ≤ 4000 := by omega
  have q2 : ie ≤ 4000 := by omega
  have q3 : ib ≤ 4000 := by omega
  have q4 : ie - ib ≤ 4000 := by omega
  have q5 : ib ≤ cs.length := by omega
  have q6 : ie - ib ≤ cs.length - ib := by omega
  have q7 : cs.length - ib ≤ 4000 := by omega
  refine own_st (T' := s₁) (g' := (mkF m 1 #[rv t, iv (Int32.ofNat ib), iv (Int32.ofNat ie)] [(.int (Int32.ofNat ib))])) (fun _ k_ => XS.iloadN X0.here hx rfl (hb hby d23_0) rfl  k_) ?_
  by_cases hc1 : (Int32.ofNat ib) = (0 : Int32)
  · refine own_st (T' := s₁) (g' := (mkF m 4 #[rv t, iv (Int32.ofNat ib), iv (Int32.ofNat ie)] [])) (fun _ k_ => XS.ifNo X0.here hx rfl (hb hby d23_1) rfl ((if0 _ _).trans (teq hc1).2) k_) ?_
    refine own_st (T' := s₁) (g' := (mkF m 5 #[rv t, iv (Int32.ofNat ib), iv (Int32.ofNat ie)] [(.int (Int32.ofNat ie))])) (fun _ k_ => XS.iloadN X0.here hx rfl (hb hby d23_4) rfl  k_) ?_
    refine own_st (T' := s₁) (g' := (mkF m 6 #[rv t, iv (Int32.ofNat ib), iv (Int32.ofNat ie)] [(.ref t), (.int (Int32.ofNat ie))])) (fun _ k_ => XS.aloadN X0.here hx rfl (hb hby d23_5) rfl rfl  k_) ?_
    obtain ⟨cl2, Ar2, -, S2, N2, -, -⟩ := id A_x
    refine own_st (T' := s₁) (g' := (mkF m 7 #[rv t, iv (Int32.ofNat ib), iv (Int32.ofNat ie)] [(.int (Int32.ofNat cs.length)), (.int (Int32.ofNat ie))])) (fun t_ k_ => X0.arraylength hx (by rw [e0]; exact Ar2.1) (State.isArrayOf_alike hZ.alike Ar2.2.1) (g := (mkF m 6 #[rv t, iv (Int32.ofNat ib), iv (Int32.ofNat ie)] [(.ref t), (.int (Int32.ofNat ie))])) rfl rfl (hb hby d23_6) _ (by rw [len_of S2 N2]; exact k_)) ?_
    refine own_st (T' := s₁) (g' := (mkF m 10 #[rv t, iv (Int32.ofNat ib), iv (Int32.ofNat ie)] [])) (fun _ k_ => XS.icmpNo X0.here hx rfl (hb hby d23_7) rfl (feq ((fun q => hpr ⟨own_oz q3 hc1, (own_oeq q2 q1).mp q⟩) : ¬ ((Int32.ofNat ie) = (Int32.ofNat cs.length)))).1 k_) ?_
    refine own_st (T' := s₁) (g' := (mkF m 11 #[rv t, iv (Int32.ofNat ib), iv (Int32.ofNat ie)] [(.ref t)])) (fun _ k_ => XS.aloadN X0.here hx rfl (hb hby d23_10) rfl rfl  k_) ?_
    refine own_st (T' := s₁) (g' := (mkF m 12 #[rv t, iv (Int32.ofNat ib), iv (Int32.ofNat ie)] [(.int (Int32.ofNat ib)), (.ref t)])) (fun _ k_ => XS.iloadN X0.here hx rfl (hb hby d23_11) rfl  k_) ?_
    refine own_st (T' := s₁) (g' := (mkF m 13 #[rv t, iv (Int32.ofNat ib), iv (Int32.ofNat ie)] [(.int (Int32.ofNat ie)), (.int (Int32.ofNat ib)), (.ref t)])) (fun _ k_ => XS.iloadN X0.here hx rfl (hb hby d23_12) rfl  k_) ?_
    obtain ⟨_, T3, L3, X3, hQ3, st3⟩ := own_callS X0 hx (y := own_m8) hown (mvT hZ (wd hw 104 rfl)) (mvT hZ (wd hw 105 rfl)) (mvT hZ (wd hw 102 rfl)) (mvT hZ (wd hw 106 rfl)) (by decide) (backOf (W := 0) (rm_crb l Z a0 hw [] t kt cs (Int32.ofNat ib) (Int32.ofNat ie) ib ie h0 n0 O0 A_x rfl rfl hie hec lcs) hZ (wd hw 106 rfl) (wd hw 102 rfl) (by decide) (by decide)) (g := (mkF m 13 #[rv t, iv (Int32.ofNat ib), iv (Int32.ofNat ie)] [(.int (Int32.ofNat ie)), (.int (Int32.ofNat ib)), (.ref t)])) rfl (by rw [hml]; rfl) (argsL := [(.ref t), (.int (Int32.ofNat ib)), (.int (Int32.ofNat ie))]) (rest := []) (lenOf pd___BII__B rfl) rfl (by show 2 * 0 + _ ≤ _; exact Nat.le_of_eq rfl) (hb hby d23_13) rfl e0 (by decide) (by decide) (c' := 1) (s' := 4) rfl rfl
    obtain ⟨u3, ku3, rfl, Nq3, K3, fq3_0, xq3_fresh_u⟩ := hQ3
    have N3 := Fr.app N0 Nq3
    refine own_st (T' := T3) (g' := (mkF m 16 #[rv t, iv (Int32.ofNat ib), iv (Int32.ofNat ie)] [(.ref u3)])) st3 ?_
    clear st3
    have f4 : Keep h0 T3.heap [] := (Keep.refl h0 []).trans K3 all0
    exact own_retA X3 hx hret rfl rfl hlk (hb hby d23_16) (by decide) (by decide) ⟨u3, ku3, rfl, N3, f4, fq3_0, (Nat.le_trans (Keep.refl h0 []).1 xq3_fresh_u)⟩
  · refine own_st (T' := s₁) (g' := (mkF m 10 #[rv t, iv (Int32.ofNat ib), iv (Int32.ofNat ie)] [])) (fun _ k_ => XS.ifYes X0.here hx rfl (pc0 := 1) (pc' := 10) rfl (hb hby d23_1) rfl ((if0 _ _).trans (feq hc1).2) (by decide) (by decide) k_) ?_
    refine own_st (T' := s₁) (g' := (mkF m 11 #[rv t, iv (Int32.ofNat ib), iv (Int32.ofNat ie)] [(.ref t)])) (fun _ k_ => XS.aloadN X0.here hx rfl (hb hby d23_10) rfl rfl  k_) ?_
    refine own_st (T' := s₁) (g' := (mkF m 12 #[rv t, iv (Int32.ofNat ib), iv (Int32.ofNat ie)] [(.int (Int32.ofNat ib)), (.ref t)])) (fun _ k_ => XS.iloadN X0.here hx rfl (hb hby d23_11) rfl  k_) ?_
    refine own_st (T' := s₁) (g' := (mkF m 13 #[rv t, iv (Int32.ofNat ib), iv (Int32.ofNat ie)] [(.int (Int32.ofNat ie)), (.int (Int32.ofNat ib)), (.ref t)])) (fun _ k_ => XS.iloadN X0.here hx rfl (hb hby d23_12) rfl  k_) ?_
    obtain ⟨_, T5, L5, X5, hQ5, st5⟩ := own_callS X0 hx (y := own_m8) hown (mvT hZ (wd hw 104 rfl)) (mvT hZ (wd hw 105 rfl)) (mvT hZ (wd hw 102 rfl)) (mvT hZ (wd hw 106 rfl)) (by decide) (backOf (W := 0) (rm_crb l Z a0 hw [] t kt cs (Int32.ofNat ib) (Int32.ofNat ie) ib ie h0 n0 O0 A_x rfl rfl hie hec lcs) hZ (wd hw 106 rfl) (wd hw 102 rfl) (by decide) (by decide)) (g := (mkF m 13 #[rv t, iv (Int32.ofNat ib), iv (Int32.ofNat ie)] [(.int (Int32.ofNat ie)), (.int (Int32.ofNat ib)), (.ref t)])) rfl (by rw [hml]; rfl) (argsL := [(.ref t), (.int (Int32.ofNat ib)), (.int (Int32.ofNat ie))]) (rest := []) (lenOf pd___BII__B rfl) rfl (by show 2 * 0 + _ ≤ _; exact Nat.le_of_eq rfl) (hb hby d23_13) rfl e0 (by decide) (by decide) (c' := 1) (s' := 4) rfl rfl
    obtain ⟨u5, ku5, rfl, Nq5, K5, fq5_0, xq5_fresh_u⟩ := hQ5
    have N5 := Fr.app N0 Nq5
    refine own_st (T' := T5) (g' := (mkF m 16 #[rv t, iv (Int32.ofNat ib), iv (Int32.ofNat ie)] [(.ref u5)])) st5 ?_
    clear st5
    have f6 : Keep h0 T5.heap [] := (Keep.refl h0 []).trans K5 all0
    exact own_retA X5 hx hret rfl rfl hlk (hb hby d23_16) (by decide) (by decide) ⟨u5, ku5, rfl, N5, f6, fq5_0, (Nat.le_trans (Keep.refl h0 []).1 xq5_fresh_u)⟩
theorem d22_0 : decode jdk_43_method_47_code 0 = .ok (.iload_n 2, 1) := by decide +kernel
theorem d22_1 : decode jdk_43_method_47_code 1 = .ok (.ifCond .ne 6, 3) := by decide +kernel
theorem d22_7 : decode jdk_43_method_47_code 7 = .ok (.new 1, 3) := by decide +kernel
theorem d22_10 : decode jdk_43_method_47_code 10 = .ok (.dup, 1) := by decide +kernel
theorem d22_11 : decode jdk_43_method_47_code 11 = .ok (.aload_n 0, 1) := by decide +kernel
theorem d22_12 : decode jdk_43_method_47_code 12 = .ok (.iload_n 1, 1) := by decide +kernel
theorem d22_13 : decode jdk_43_method_47_code 13 = .ok (.iload_n 1, 1) := by decide +kernel
theorem d22_14 : decode jdk_43_method_47_code 14 = .ok (.iload_n 2, 1) := by decide +kernel
theorem d22_15 : decode jdk_43_method_47_code 15 = .ok (.iadd, 1) := by decide +kernel
theorem d22_16 : decode jdk_43_method_47_code 16 = .ok (.invokestatic 232, 3) := by decide +kernel
theorem d22_19 : decode jdk_43_method_47_code 19 = .ok (.iconst 0, 1) := by decide +kernel
theorem d22_20 : decode jdk_43_method_47_code 20 = .ok (.invokespecial 112, 3) := by decide +kernel
theorem d22_23 : decode jdk_43_method_47_code 23 = .ok (.areturn, 1) := by decide +kernel
theorem pd___BB_V : parseMethodDescriptor "([BB)V" = some ⟨[(.array .byte), .byte], none⟩ := by decide +kernel
theorem pn_3 : plainName "java/lang/StringLatin1" = true := by first | (simp [plainName, overriddenIn]; done) | decide +kernel
theorem ef_nws (m : MethodId) (x0 : Addr) (x1 : Int32) (x2 : Int32) : entryFrame m #[(.ref x0), (.int x1), (.int x2)] 3 = mkF m 0 #[rv x0, iv x1, iv x2] [] := by first | (simp [entryFrame, mkF, argsToLocals, Value.category]; done) | rfl
def Q_nws (Z : State) (t : Addr) (kt : ClassId) (cs : List Int32) (bb : Int32) (kk : Int32) (ib : Nat) (ie : Nat) (h0 : Heap) (n0 : Nat) (v : Option Value) (h : Heap) (L : List Loc) : Prop := ∃ (b : Addr) (u : Addr) (ku : ClassId), (v = some (.ref b)) ∧ (Fr n0 L) ∧ (Keep h0 h []) ∧ (Exa Z h b "java/lang/String") ∧ (Fld Z h b "java/lang/String" "coder" "B" (.int (0 : Int32))) ∧ (Fld Z h b "java/lang/String" "value" "[B" (.ref u)) ∧ (Arv Z h u ku .byte (Int32.ofNat (own_sub cs ib ie).length) (((own_sub cs ib ie).map StrChars.lo8).map Value.int) (.int (0 : Int32))) ∧ (h0.size ≤ b)
set_option maxRecDepth 65536 in
set_option maxHeartbeats 40000000 in
theorem rm_nws (l : Launch) (Z : State) (a0 : Array Value) (hw : ∀ d ∈ tables_1, d.before a0 Z = true) (ws : List Jvm.Cond) (t : Addr) (kt : ClassId) (cs : List Int32) (bb : Int32) (kk : Int32) (ib : Nat) (ie : Nat) (h0 : Heap) (n0 : Nat) (O0 : Old Z n0 h0) (A_x : Arv Z h0 t kt .byte (Int32.ofNat cs.length) ((cs.map StrChars.lo8).map Value.int) (.int (0 : Int32))) (hbb : bb = Int32.ofNat ib) (hkk : kk = Int32.ofNat (ie - ib)) (hie : ib ≤ ie) (hec : ie ≤ cs.length) (lcs : cs.length ≤ 4) (hpr : ¬ (ib = 0 ∧ ie = cs.length)) (hlt : ib < ie) :
    MetFree l own_m10 (head1 (Jvm.Cond.code own_m10 jdk_43_method_47_code 3 (some (.object "java/lang/String")) :: ws) ({ frames := 3, cells := 2, slots := 8, locals := 72 } : Room)) (fun ar_ U => ar_ = #[(.ref t), (.int bb), (.int kk)] ∧ Z.Warmed39 U.vm ∧ U.heap = h0) (fun _ _ _ _ _ => True) (fun _ U o U' => ∃ v L, o = .returned v ∧ Q_nws Z t kt cs bb kk ib ie h0 n0 v U'.heap L ∧ FrameEnd U o U' L ({ frames := 3, cells := 2, slots := 8, locals := 72 } : Room).cells ({ frames := 3, cells := 2, slots := 8, locals := 72 } : Room).slots) := by
  refine MetFree.of_bodySF (plainFor_of_name pn_3) hisR ?_
  intro p e s m args below meth c s₁ Bd hml0 hP hK
  obtain ⟨rfl, hZ, hh⟩ := hP
  have hx := Bd.exec
  have hby := Bd.bytes
  have hml : c.maxLocals = 3 := hml0
  have hown : s.vm.findClass "java/lang/StringLatin1" = some m.cls := findClass_of_methodNamed Bd.named
  have hnm := (name_of_methodNamed Bd.named Bd.method).1
  have X0 : Stand p l e ({ frames := 3, cells := 2, slots := 8, locals := 72 } : Room) s m #[(.ref t), (.int bb), (.int kk)] below meth c s₁ [] 0 0 := Stand.of_body Bd
  have e0 : s₁.heap = h0 := by rw [← hh, Bd.state]; rfl
  have N0 := Fr.nil n0
  have hret := Bd.returns
  have hlk : meth.locks = false := Bd.notSynchronized
  show own_E p e below s ({ frames := 3, cells := 2, slots := 8, locals := 72 } : Room).cells ({ frames := 3, cells := 2, slots := 8, locals := 72 } : Room).slots (Q_nws Z t kt cs bb kk ib ie h0 n0) s₁ (entryFrame m #[(.ref t), (.int bb), (.int kk)] 3)
  rw [ef_nws m t bb kk]
  subst hbb hkk
  have q1 : cs.length ≤ 4000 := by omega
  have q2 : ie ≤ 4000 := by omega
  have q3 : ib ≤ 4000 := by omega
  have q4 : ie - ib ≤ 4000 := by omega
  have q5 : ib ≤ cs.length := by omega
  have q6 : ie - ib ≤ cs.length - ib := by omega
  have q7 : cs.length - ib ≤ 4000 := by omega
  refine own_st (T' := s₁) (g' := (mkF m 1 #[rv t, iv (Int32.ofNat ib), iv (Int32.ofNat (ie - ib))] [(.int (Int32.ofNat (ie - ib)))])) (fun _ k_ => XS.iloadN X0.here hx rfl (hb hby d22_0) rfl  k_) ?_
  refine own_st (T' := s₁) (g' := (mkF m 7 #[rv t, iv (Int32.ofNat ib), iv (Int32.ofNat (ie - ib))] [])) (fun _ k_ => XS.ifYes X0.here hx rfl (pc0 := 1) (pc' := 7) rfl (hb hby d22_1) rfl ((if0 _ _).trans (feq ((fun q => absurd (own_oz q4 q) (by omega)) : ¬ ((Int32.ofNat (ie - ib)) = (0 : Int32)))).2) (by decide) (by decide) k_) ?_
  obtain ⟨T1, h1, X1, e1, E1, A1, D1, -, st1⟩ := newO X0 hx hZ hown (wd hw 99 rfl) (wd hw 10 rfl) (wd hw 11 rfl) e0 (g := (mkF m 7 #[rv t, iv (Int32.ofNat ib), iv (Int32.ofNat (ie - ib))] [])) rfl (hb hby d22_7) (by decide) (by decide)
  obtain ⟨b1, g1⟩ : ∃ z, z = h0.size := ⟨_, rfl⟩
  rw [← g1] at A1 D1 st1
  have fr1 : n0 ≤ b1 := Nat.le_trans (own_z O0) (Nat.le_of_eq g1.symm)
  have sz1 : h0.size ≤ b1 := Nat.le_trans (Keep.refl h0 []).1 (Nat.le_of_eq g1.symm)
  have F1_value : Fld Z h1 b1 "java/lang/String" "value" "[B" .null := D1 (Or.inr (wd hw 24 rfl)) (ty := (.array .byte)) (by decide)
  have F1_coder : Fld Z h1 b1 "java/lang/String" "coder" "B" (.int (0 : Int32)) := D1 (Or.inr (wd hw 25 rfl)) (ty := .byte) (by decide)
  refine own_st (T' := T1) (g' := (mkF m 10 #[rv t, iv (Int32.ofNat ib), iv (Int32.ofNat (ie - ib))] [(.ref b1)])) st1 ?_
  clear st1
  refine own_st (T' := T1) (g' := (mkF m 11 #[rv t, iv (Int32.ofNat ib), iv (Int32.ofNat (ie - ib))] [(.ref b1), (.ref b1)])) (fun _ k_ => XS.dup X1.here hx rfl (hb hby d22_10) rfl rfl k_) ?_
  refine own_st (T' := T1) (g' := (mkF m 12 #[rv t, iv (Int32.ofNat ib), iv (Int32.ofNat (ie - ib))] [(.ref t), (.ref b1), (.ref b1)])) (fun _ k_ => XS.aloadN X1.here hx rfl (hb hby d22_11) rfl rfl  k_) ?_
  refine own_st (T' := T1) (g' := (mkF m 13 #[rv t, iv (Int32.ofNat ib), iv (Int32.ofNat (ie - ib))] [(.int (Int32.ofNat ib)), (.ref t), (.ref b1), (.ref b1)])) (fun _ k_ => XS.iloadN X1.here hx rfl (hb hby d22_12) rfl  k_) ?_
  refine own_st (T' := T1) (g' := (mkF m 14 #[rv t, iv (Int32.ofNat ib), iv (Int32.ofNat (ie - ib))] [(.int (Int32.ofNat ib)), (.int (Int32.ofNat ib)), (.ref t), (.ref b1), (.ref b1)])) (fun _ k_ => XS.iloadN X1.here hx rfl (hb hby d22_13) rfl  k_) ?_
  refine own_st (T' := T1) (g' := (mkF m 15 #[rv t, iv (Int32.ofNat ib), iv (Int32.ofNat (ie - ib))] [(.int (Int32.ofNat (ie - ib))), (.int (Int32.ofNat ib)), (.int (Int32.ofNat ib)), (.ref t), (.ref b1), (.ref b1)])) (fun _ k_ => XS.iloadN X1.here hx rfl (hb hby d22_14) rfl  k_) ?_
  refine own_st (T' := T1) (g' := (mkF m 16 #[rv t, iv (Int32.ofNat ib), iv (Int32.ofNat (ie - ib))] [(.int ((Int32.ofNat ib) + (Int32.ofNat (ie - ib)))), (.int (Int32.ofNat ib)), (.ref t), (.ref b1), (.ref b1)])) (fun _ k_ => XS.iadd X1.here hx rfl (hb hby d22_15) rfl k_) ?_
  rw [own_oadd (by omega), show ib + (ie - ib) = ie by omega]
  have f2 : Arv Z h1 t kt .byte (Int32.ofNat cs.length) ((cs.map StrChars.lo8).map Value.int) (.int (0 : Int32)) := A_x.ext E1
  have f3 : Old Z n0 h1 := O0.ext E1
  have f4 : Keep h0 h1 [] := (Keep.refl h0 []).ext E1
  obtain ⟨_, T5, L5, X5, hQ5, st5⟩ := own_callS X1 hx (y := own_m9) hown (mvT hZ (wd hw 100 rfl)) (mvT hZ (wd hw 101 rfl)) (mvT hZ (wd hw 102 rfl)) (mvT hZ (wd hw 103 rfl)) (by decide) (backOf (W := 2) (rm_cra l Z a0 hw [] t kt cs (Int32.ofNat ib) (Int32.ofNat ie) ib ie h1 n0 f3 f2 rfl rfl hie hec lcs hpr) hZ (wd hw 103 rfl) (wd hw 102 rfl) (by decide) (by decide)) (g := (mkF m 16 #[rv t, iv (Int32.ofNat ib), iv (Int32.ofNat (ie - ib))] [(.int (Int32.ofNat ie)), (.int (Int32.ofNat ib)), (.ref t), (.ref b1), (.ref b1)])) rfl (by rw [hml]; rfl) (argsL := [(.ref t), (.int (Int32.ofNat ib)), (.int (Int32.ofNat ie))]) (rest := [(.ref b1), (.ref b1)]) (lenOf pd___BII__B rfl) rfl (by show 2 * 0 + _ ≤ _; exact Nat.le_of_eq rfl) (hb hby d22_16) rfl e1 (by decide) (by decide) (c' := 2) (s' := 8) rfl rfl
  obtain ⟨u5, ku5, rfl, Nq5, K5, fq5_0, xq5_fresh_u⟩ := hQ5
  have N5 := Fr.app N0 Nq5
  refine own_st (T' := T5) (g' := (mkF m 19 #[rv t, iv (Int32.ofNat ib), iv (Int32.ofNat (ie - ib))] [(.ref u5), (.ref b1), (.ref b1)])) st5 ?_
  clear st5
  refine own_st (T' := T5) (g' := (mkF m 20 #[rv t, iv (Int32.ofNat ib), iv (Int32.ofNat (ie - ib))] [(.int (0 : Int32)), (.ref u5), (.ref b1), (.ref b1)])) (fun _ k_ => XS.iconst X5.here hx rfl (hb hby d22_19) k_) ?_
  have f6 : Exa Z T5.heap b1 "java/lang/String" := A1.keep K5
  have f7 : Fld Z T5.heap b1 "java/lang/String" "value" "[B" .null := F1_value.keep K5 nin0
  have f8 : Fld Z T5.heap b1 "java/lang/String" "coder" "B" (.int (0 : Int32)) := F1_coder.keep K5 nin0
  have f9 : Old Z n0 T5.heap := f3.keep K5 all0
  obtain ⟨_, T10, L10, X10, hQ10, st10⟩ := own_callI X5 hx (y := own_m7) rfl hown (mvT hZ (wd hw 118 rfl)) (mvT hZ (wd hw 119 rfl)) (mvT hZ (wd hw 120 rfl)) (by decide) (backOf (W := 1) (rm_inbb l Z a0 hw [] b1 u5 T5.heap n0 f9 f6 f7 f8 fr1) hZ (wd hw 120 rfl) (wd hw 11 rfl) (by decide) (by decide)) (g := (mkF m 20 #[rv t, iv (Int32.ofNat ib), iv (Int32.ofNat (ie - ib))] [(.int (0 : Int32)), (.ref u5), (.ref b1), (.ref b1)])) rfl (by rw [hml]; rfl) (a := b1) (argsL := [(.ref u5), (.int (0 : Int32))]) (rest := [(.ref b1)]) (lenOf pd___BB_V rfl) rfl (by show 2 * 0 + _ ≤ _; exact Nat.le_of_eq rfl) (hb hby d22_20) rfl rfl (by decide) (by decide) (c' := 2) (s' := 8) rfl rfl
  obtain ⟨rfl, Nq10, K10, fq10_0, fq10_1, fq10_2⟩ := hQ10
  have N10 := Fr.app N5 Nq10
  refine own_st (T' := T10) (g' := (mkF m 23 #[rv t, iv (Int32.ofNat ib), iv (Int32.ofNat (ie - ib))] [(.ref b1)])) st10 ?_
  clear st10
  have ne11 : b1 ≠ u5 := Nat.ne_of_lt (Nat.lt_of_lt_of_le A1.lt xq5_fresh_u)
  have f12 : Arv Z T10.heap u5 ku5 .byte (Int32.ofNat (own_sub cs ib ie).length) (((own_sub cs ib ie).map StrChars.lo8).map Value.int) (.int (0 : Int32)) := fq5_0.keep K10 (ninS (Ne.symm ne11) nin0)
  have f13 : Keep h0 T5.heap [] := f4.trans K5 all0
  have f14 : Keep h0 T10.heap [] := f13.trans K10 (allS (Or.inr sz1) all0)
  exact own_retA X10 hx hret rfl rfl hlk (hb hby d22_23) (by decide) (by decide) ⟨b1, u5, ku5, rfl, N10, f14, fq10_0, fq10_1, fq10_2, f12, sz1⟩
theorem d22_4 : decode jdk_43_method_47_code 4 = .ok (.ldc 151, 2) := by decide +kernel
theorem d22_6 : decode jdk_43_method_47_code 6 = .ok (.areturn, 1) := by decide +kernel
theorem ef_nws0 (m : MethodId) (x0 : Addr) (x1 : Int32) (x2 : Int32) : entryFrame m #[(.ref x0), (.int x1), (.int x2)] 3 = mkF m 0 #[rv x0, iv x1, iv x2] [] := by first | (simp [entryFrame, mkF, argsToLocals, Value.category]; done) | rfl
def Q_nws0 (Z : State) (t : Addr) (bb : Int32) (cs : List Int32) (ib : Nat) (h0 : Heap) (n0 : Nat) (v : Option Value) (h : Heap) (L : List Loc) : Prop := ∃ (b : Addr) (u : Addr) (ku : ClassId), (v = some (.ref b)) ∧ (Fr n0 L) ∧ (Keep h0 h []) ∧ (Exa Z h b "java/lang/String") ∧ (Fld Z h b "java/lang/String" "coder" "B" (.int (0 : Int32))) ∧ (Fld Z h b "java/lang/String" "value" "[B" (.ref u)) ∧ (Arv Z h u ku .byte (Int32.ofNat (own_sub cs ib ib).length) (((own_sub cs ib ib).map StrChars.lo8).map Value.int) (.int (0 : Int32)))
set_option maxRecDepth 65536 in
set_option maxHeartbeats 40000000 in
theorem rm_nws0 (l : Launch) (Z : State) (a0 : Array Value) (hw : ∀ d ∈ tables_1, d.before a0 Z = true) (ws : List Jvm.Cond) (t : Addr) (bb : Int32) (cs : List Int32) (ib : Nat) (h0 : Heap) (n0 : Nat) (O0 : Old Z n0 h0) :
    MetFree l own_m10 (head1 (Jvm.Cond.code own_m10 jdk_43_method_47_code 3 (some (.object "java/lang/String")) :: ws) ({ frames := 0, cells := 2, slots := 4, locals := 0 } : Room)) (fun ar_ U => ar_ = #[(.ref t), (.int bb), (.int (0 : Int32))] ∧ Z.Warmed39 U.vm ∧ U.heap = h0 ∧ CHv Z consts_1 U.vm h0 ∧ ∀ x ∈ ([] : List Addr), Safe Z consts_1 U.vm h0 x) (fun _ _ _ _ _ => True) (fun _ U o U' => ∃ v L, o = .returned v ∧ Q_nws0 Z t bb cs ib h0 n0 v U'.heap L ∧ CHr Z consts_1 U.vm U.heap U'.vm U'.heap ∧ ReturnedEndW U o U' L ({ frames := 0, cells := 2, slots := 4, locals := 0 } : Room).cells ({ frames := 0, cells := 2, slots := 4, locals := 0 } : Room).slots) := by
  refine MetFree.of_bodySF (plainFor_of_name pn_3) hisR ?_
  intro p e s m args below meth c s₁ Bd hml0 hP hK
  obtain ⟨rfl, hZ, hh, CH0, SF0⟩ := hP
  have hx := Bd.exec
  have hby := Bd.bytes
  have hml : c.maxLocals = 3 := hml0
  have hown : s.vm.findClass "java/lang/StringLatin1" = some m.cls := findClass_of_methodNamed Bd.named
  have hnm := (name_of_methodNamed Bd.named Bd.method).1
  have X0 : Stand p l e ({ frames := 0, cells := 2, slots := 4, locals := 0 } : Room) (s.setVm s.vm) m #[(.ref t), (.int bb), (.int (0 : Int32))] below meth c s₁ [] 0 0 := Stand.of_body Bd
  have e0 : s₁.heap = h0 := by rw [← hh, Bd.state]; rfl
  have N0 := Fr.nil n0
  have hret := Bd.returns
  have hlk : meth.locks = false := Bd.notSynchronized
  have hEL := own_EW hw
  have hZs := hZ
  have howns := hown
  have hS0 : s.Since s.vm s.heap.size := (State.WarmedH.refl s).since _
  have hk0 : s.heap.size ≤ h0.size := Nat.le_of_eq (by rw [hh])
  have CR0 := CHr.refl CH0
  refine own_W0 hh ?_
  show own_W p e below s ({ frames := 0, cells := 2, slots := 4, locals := 0 } : Room).cells ({ frames := 0, cells := 2, slots := 4, locals := 0 } : Room).slots Z consts_1 h0 (Q_nws0 Z t bb cs ib h0 n0) s₁ (entryFrame m #[(.ref t), (.int bb), (.int (0 : Int32))] 3)
  rw [ef_nws0 m t bb (0 : Int32)]
  refine own_stW (T' := s₁) (g' := (mkF m 1 #[rv t, iv bb, iv (0 : Int32)] [(.int (0 : Int32))])) (fun _ k_ => XS.iloadN X0.here hx rfl (hb hby d22_0) rfl  k_) ?_
  refine own_stW (T' := s₁) (g' := (mkF m 4 #[rv t, iv bb, iv (0 : Int32)] [])) (fun _ k_ => XS.ifNo X0.here hx rfl (hb hby d22_1) rfl ((if0 _ _).trans (teq (rfl : (0 : Int32) = (0 : Int32))).2) k_) ?_
  obtain ⟨a1, T1, h1, k1, b1, kb1, X1, e1, E1, hS1, hk1, hZ1, hown1, A1, C1, V1, R1, la1, lb1, ch1, Lt1, nl1, st1⟩ := ldcCH X0 hx hZ hown (wd hw 122 rfl) (own_wS hw) e0 hS0 hk0 hEL (List.mem_of_getElem? (i := 1) rfl) CR0.1 (vs := []) (z := (0 : Int32)) ⟨by decide, by decide⟩ (by decide) (by decide) (g := (mkF m 4 #[rv t, iv bb, iv (0 : Int32)] [])) rfl (hb hby d22_4) (n := 0) (by decide) (by decide) (by decide) (by decide)
  have CR2 : CHr Z consts_1 s.vm h0 T1.vm h1 := CR0.trans ch1
  refine own_stW (T' := T1) (g' := (mkF m 6 #[rv t, iv bb, iv (0 : Int32)] [(.ref a1)])) st1 ?_
  clear st1
  have f3 : Keep h0 h1 [] := (Keep.refl h0 []).ext E1
  exact own_retAW X1 hZ1 hS1 (by rw [e1]; exact hk1) hEL (by rw [e1]; exact CR2) hx hret rfl rfl hlk (hb hby d22_6) (by decide) (by decide) (by rw [e1]; exact ⟨a1, b1, kb1, rfl, N0, f3, A1, C1, V1, (by rw [own_sub0]; exact R1)⟩)
theorem d9_0 : decode jdk_42_method_92_code 0 = .ok (.aload_n 0, 1) := by decide +kernel
theorem d9_1 : decode jdk_42_method_92_code 1 = .ok (.invokevirtual 505, 3) := by decide +kernel
theorem d9_4 : decode jdk_42_method_92_code 4 = .ok (.istore_n 3, 1) := by decide +kernel
theorem d9_5 : decode jdk_42_method_92_code 5 = .ok (.iload_n 1, 1) := by decide +kernel
theorem d9_6 : decode jdk_42_method_92_code 6 = .ok (.iload_n 2, 1) := by decide +kernel
theorem d9_7 : decode jdk_42_method_92_code 7 = .ok (.iload_n 3, 1) := by decide +kernel
theorem d9_8 : decode jdk_42_method_92_code 8 = .ok (.invokestatic 521, 3) := by decide +kernel
theorem d9_11 : decode jdk_42_method_92_code 11 = .ok (.iload_n 1, 1) := by decide +kernel
theorem d9_12 : decode jdk_42_method_92_code 12 = .ok (.ifCond .ne 10, 3) := by decide +kernel
theorem d9_15 : decode jdk_42_method_92_code 15 = .ok (.iload_n 2, 1) := by decide +kernel
theorem d9_16 : decode jdk_42_method_92_code 16 = .ok (.iload_n 3, 1) := by decide +kernel
theorem d9_17 : decode jdk_42_method_92_code 17 = .ok (.if_icmp .ne 5, 3) := by decide +kernel
theorem d9_20 : decode jdk_42_method_92_code 20 = .ok (.aload_n 0, 1) := by decide +kernel
theorem d9_21 : decode jdk_42_method_92_code 21 = .ok (.areturn, 1) := by decide +kernel
theorem pd___I : parseMethodDescriptor "()I" = some ⟨[], some .int⟩ := by decide +kernel
theorem pd__III_V : parseMethodDescriptor "(III)V" = some ⟨[.int, .int, .int], none⟩ := by decide +kernel
theorem ef_subw (m : MethodId) (x0 : Addr) (x1 : Int32) (x2 : Int32) : entryFrame m #[(.ref x0), (.int x1), (.int x2)] 5 = mkF m 0 #[rv x0, iv x1, iv x2, .unset, .unset] [] := by first | (simp [entryFrame, mkF, argsToLocals, Value.category]; done) | rfl
def Q_subw (Z : State) (x : Addr) (t : Addr) (kt : ClassId) (cs : List Int32) (bb : Int32) (ee : Int32) (ib : Nat) (ie : Nat) (cz : Int32) (fm : Value) (h0 : Heap) (n0 : Nat) (v : Option Value) (h : Heap) (L : List Loc) : Prop := (v = some (.ref x)) ∧ (Fr n0 L) ∧ (h = h0)
set_option maxRecDepth 65536 in
set_option maxHeartbeats 40000000 in
theorem rm_subw (l : Launch) (Z : State) (a0 : Array Value) (hw : ∀ d ∈ tables_1, d.before a0 Z = true) (ws : List Jvm.Cond) (x : Addr) (t : Addr) (kt : ClassId) (cs : List Int32) (bb : Int32) (ee : Int32) (ib : Nat) (ie : Nat) (cz : Int32) (fm : Value) (h0 : Heap) (n0 : Nat) (O0 : Old Z n0 h0) (E_x : Exa Z h0 x "java/lang/String") (V_x : Fld Z h0 x "java/lang/String" "value" "[B" (.ref t)) (C_x : Fld Z h0 x "java/lang/String" "coder" "B" (.int (0 : Int32))) (A_x : Arv Z h0 t kt .byte (Int32.ofNat cs.length) ((cs.map StrChars.lo8).map Value.int) (.int (0 : Int32))) (SC : Sta Z Z.heap "java/lang/String" "COMPACT_STRINGS" "Z" (.int cz)) (hcz : ¬ cz = (0 : Int32)) (SF : Sta Z Z.heap "jdk/internal/util/Preconditions" "SIOOBE_FORMATTER" "Ljava/util/function/BiFunction;" fm) (hfm : fm.isRef = true) (hbb : bb = Int32.ofNat ib) (hee : ee = Int32.ofNat ie) (hie : ib ≤ ie) (hec : ie ≤ cs.length) (lcs : cs.length ≤ 4) (hw0 : ib = 0) (hw1 : ie = cs.length) :
    MetFree l own_m11 (head1 (Jvm.Cond.code own_m11 jdk_42_method_92_code 5 (some (.object "java/lang/String")) :: ws) ({ frames := 2, cells := 0, slots := 0, locals := 29 } : Room)) (fun ar_ U => ar_ = #[(.ref x), (.int bb), (.int ee)] ∧ Z.Warmed39 U.vm ∧ U.heap = h0) (fun _ _ _ _ _ => True) (fun _ U o U' => ∃ v L, o = .returned v ∧ Q_subw Z x t kt cs bb ee ib ie cz fm h0 n0 v U'.heap L ∧ FrameEnd U o U' L ({ frames := 2, cells := 0, slots := 0, locals := 29 } : Room).cells ({ frames := 2, cells := 0, slots := 0, locals := 29 } : Room).slots) := by
  refine MetFree.of_bodySF (plainFor_of_name pn_0) hisR ?_
  intro p e s m args below meth c s₁ Bd hml0 hP hK
  obtain ⟨rfl, hZ, hh⟩ := hP
  have hx := Bd.exec
  have hby := Bd.bytes
  have hml : c.maxLocals = 5 := hml0
  have hown : s.vm.findClass "java/lang/String" = some m.cls := findClass_of_methodNamed Bd.named
  have hnm := (name_of_methodNamed Bd.named Bd.method).1
  have X0 : Stand p l e ({ frames := 2, cells := 0, slots := 0, locals := 29 } : Room) s m #[(.ref x), (.int bb), (.int ee)] below meth c s₁ [] 0 0 := Stand.of_body Bd
  have e0 : s₁.heap = h0 := by rw [← hh, Bd.state]; rfl
  have N0 := Fr.nil n0
  have hret := Bd.returns
  have hlk : meth.locks = false := Bd.notSynchronized
  show own_E p e below s ({ frames := 2, cells := 0, slots := 0, locals := 29 } : Room).cells ({ frames := 2, cells := 0, slots := 0, locals := 29 } : Room).slots (Q_subw Z x t kt cs bb ee ib ie cz fm h0 n0) s₁ (entryFrame m #[(.ref x), (.int bb), (.int ee)] 5)
  rw [ef_subw m x bb ee]
  subst hbb hee
  have q1 : cs.length ≤ 4000 := by omega
  have q2 : ie ≤ 4000 := by omega
  have q3 : ib ≤ 4000 := by omega
  have q4 : ie - ib ≤ 4000 := by omega
  have q5 : ib ≤ cs.length := by omega
  have q6 : ie - ib ≤ cs.length - ib := by omega
  have q7 : cs.length - ib ≤ 4000 := by omega
  refine own_st (T' := s₁) (g' := (mkF m 1 #[rv x, iv (Int32.ofNat ib), iv (Int32.ofNat ie), .unset, .unset] [(.ref x)])) (fun _ k_ => XS.aloadN X0.here hx rfl (hb hby d9_0) rfl rfl  k_) ?_
  obtain ⟨cq1, kq1, q1a, q1b, q1c⟩ := isOf hZ e0 E_x
  obtain ⟨_, T1, L1, X1, hQ1, st1⟩ := own_callV X0 hx (y := own_m1) (z := own_m1) hown (mvT hZ (wd hw 50 rfl)) (mvT hZ (wd hw 35 rfl)) (notFace_of_selects (args := #[]) (mvT hZ (wd hw 37 rfl))) (mvT hZ (wd hw 37 rfl)) (mvT hZ (wd hw 36 rfl)) (by decide) (backOf (W := 0) (rm_len l Z a0 hw [] x t kt (Int32.ofNat cs.length) ((cs.map StrChars.lo8).map Value.int) cz h0 n0 O0 E_x V_x C_x A_x SC hcz) hZ (wd hw 38 rfl) (wd hw 11 rfl) (by decide) (by decide)) q1a q1c (g := (mkF m 1 #[rv x, iv (Int32.ofNat ib), iv (Int32.ofNat ie), .unset, .unset] [(.ref x)])) rfl (by rw [hml]; rfl) (argsL := []) (rest := []) (lenOf pd___I rfl) rfl (by show 2 * 0 + _ ≤ _; exact Nat.le_of_eq rfl) (hb hby d9_1) rfl e0 (by decide) (by decide) (c' := 0) (s' := 0) rfl rfl
  clear q1a q1b q1c kq1 cq1
  obtain ⟨rfl, Nq1, eq1⟩ := hQ1
  have N1 := Fr.app N0 Nq1
  refine own_st (T' := T1) (g' := (mkF m 4 #[rv x, iv (Int32.ofNat ib), iv (Int32.ofNat ie), .unset, .unset] [(.int (Int32.ofNat cs.length))])) st1 ?_
  clear st1
  refine own_st (T' := T1) (g' := (mkF m 5 #[rv x, iv (Int32.ofNat ib), iv (Int32.ofNat ie), iv (Int32.ofNat cs.length), .unset] [])) (fun _ k_ => XS.istoreN X1.here hx rfl (hb hby d9_4) rfl (l' := #[rv x, iv (Int32.ofNat ib), iv (Int32.ofNat ie), iv (Int32.ofNat cs.length), .unset]) rfl k_) ?_
  refine own_st (T' := T1) (g' := (mkF m 6 #[rv x, iv (Int32.ofNat ib), iv (Int32.ofNat ie), iv (Int32.ofNat cs.length), .unset] [(.int (Int32.ofNat ib))])) (fun _ k_ => XS.iloadN X1.here hx rfl (hb hby d9_5) rfl  k_) ?_
  refine own_st (T' := T1) (g' := (mkF m 7 #[rv x, iv (Int32.ofNat ib), iv (Int32.ofNat ie), iv (Int32.ofNat cs.length), .unset] [(.int (Int32.ofNat ie)), (.int (Int32.ofNat ib))])) (fun _ k_ => XS.iloadN X1.here hx rfl (hb hby d9_6) rfl  k_) ?_
  refine own_st (T' := T1) (g' := (mkF m 8 #[rv x, iv (Int32.ofNat ib), iv (Int32.ofNat ie), iv (Int32.ofNat cs.length), .unset] [(.int (Int32.ofNat cs.length)), (.int (Int32.ofNat ie)), (.int (Int32.ofNat ib))])) (fun _ k_ => XS.iloadN X1.here hx rfl (hb hby d9_7) rfl  k_) ?_
  obtain ⟨_, T2, L2, X2, hQ2, st2⟩ := own_callS X1 hx (y := own_m5) hown (mvT hZ (wd hw 51 rfl)) (mvT hZ (wd hw 52 rfl)) (mvT hZ (wd hw 11 rfl)) (mvT hZ (wd hw 53 rfl)) (by decide) (backOf (W := 0) (rm_cbe l Z a0 hw [] (Int32.ofNat ib) (Int32.ofNat ie) (Int32.ofNat cs.length) fm h0 n0 O0 (own_on0 q3) (own_onlt hie q2) (own_onlt hec q1) SF hfm) hZ (wd hw 53 rfl) (wd hw 11 rfl) (by decide) (by decide)) (g := (mkF m 8 #[rv x, iv (Int32.ofNat ib), iv (Int32.ofNat ie), iv (Int32.ofNat cs.length), .unset] [(.int (Int32.ofNat cs.length)), (.int (Int32.ofNat ie)), (.int (Int32.ofNat ib))])) rfl (by rw [hml]; rfl) (argsL := [(.int (Int32.ofNat ib)), (.int (Int32.ofNat ie)), (.int (Int32.ofNat cs.length))]) (rest := []) (lenOf pd__III_V rfl) rfl (by show 2 * 0 + _ ≤ _; exact Nat.le_of_eq rfl) (hb hby d9_8) rfl eq1 (by decide) (by decide) (c' := 0) (s' := 0) rfl rfl
  obtain ⟨rfl, Nq2, eq2⟩ := hQ2
  have N2 := Fr.app N1 Nq2
  refine own_st (T' := T2) (g' := (mkF m 11 #[rv x, iv (Int32.ofNat ib), iv (Int32.ofNat ie), iv (Int32.ofNat cs.length), .unset] [])) st2 ?_
  clear st2
  refine own_st (T' := T2) (g' := (mkF m 12 #[rv x, iv (Int32.ofNat ib), iv (Int32.ofNat ie), iv (Int32.ofNat cs.length), .unset] [(.int (Int32.ofNat ib))])) (fun _ k_ => XS.iloadN X2.here hx rfl (hb hby d9_11) rfl  k_) ?_
  refine own_st (T' := T2) (g' := (mkF m 15 #[rv x, iv (Int32.ofNat ib), iv (Int32.ofNat ie), iv (Int32.ofNat cs.length), .unset] [])) (fun _ k_ => XS.ifNo X2.here hx rfl (hb hby d9_12) rfl ((if0 _ _).trans (teq ((by rw [hw0]; rfl) : (Int32.ofNat ib) = (0 : Int32))).2) k_) ?_
  refine own_st (T' := T2) (g' := (mkF m 16 #[rv x, iv (Int32.ofNat ib), iv (Int32.ofNat ie), iv (Int32.ofNat cs.length), .unset] [(.int (Int32.ofNat ie))])) (fun _ k_ => XS.iloadN X2.here hx rfl (hb hby d9_15) rfl  k_) ?_
  refine own_st (T' := T2) (g' := (mkF m 17 #[rv x, iv (Int32.ofNat ib), iv (Int32.ofNat ie), iv (Int32.ofNat cs.length), .unset] [(.int (Int32.ofNat cs.length)), (.int (Int32.ofNat ie))])) (fun _ k_ => XS.iloadN X2.here hx rfl (hb hby d9_16) rfl  k_) ?_
  refine own_st (T' := T2) (g' := (mkF m 20 #[rv x, iv (Int32.ofNat ib), iv (Int32.ofNat ie), iv (Int32.ofNat cs.length), .unset] [])) (fun _ k_ => XS.icmpNo X2.here hx rfl (hb hby d9_17) rfl (teq ((by rw [hw1]) : (Int32.ofNat ie) = (Int32.ofNat cs.length))).2 k_) ?_
  refine own_st (T' := T2) (g' := (mkF m 21 #[rv x, iv (Int32.ofNat ib), iv (Int32.ofNat ie), iv (Int32.ofNat cs.length), .unset] [(.ref x)])) (fun _ k_ => XS.aloadN X2.here hx rfl (hb hby d9_20) rfl rfl  k_) ?_
  exact own_retA X2 hx hret rfl rfl hlk (hb hby d9_21) (by decide) (by decide) ⟨rfl, N2, eq2⟩
theorem d9_22 : decode jdk_42_method_92_code 22 = .ok (.iload_n 2, 1) := by decide +kernel
theorem d9_23 : decode jdk_42_method_92_code 23 = .ok (.iload_n 1, 1) := by decide +kernel
theorem d9_24 : decode jdk_42_method_92_code 24 = .ok (.isub, 1) := by decide +kernel
theorem d9_25 : decode jdk_42_method_92_code 25 = .ok (.istore 4, 2) := by decide +kernel
theorem d9_27 : decode jdk_42_method_92_code 27 = .ok (.aload_n 0, 1) := by decide +kernel
theorem d9_28 : decode jdk_42_method_92_code 28 = .ok (.invokevirtual 492, 3) := by decide +kernel
theorem d9_31 : decode jdk_42_method_92_code 31 = .ok (.ifCond .eq 16, 3) := by decide +kernel
theorem d9_34 : decode jdk_42_method_92_code 34 = .ok (.aload_n 0, 1) := by decide +kernel
theorem d9_35 : decode jdk_42_method_92_code 35 = .ok (.getfield 9, 3) := by decide +kernel
theorem d9_38 : decode jdk_42_method_92_code 38 = .ok (.iload_n 1, 1) := by decide +kernel
theorem d9_39 : decode jdk_42_method_92_code 39 = .ok (.iload 4, 2) := by decide +kernel
theorem d9_41 : decode jdk_42_method_92_code 41 = .ok (.invokestatic 685, 3) := by decide +kernel
theorem d9_44 : decode jdk_42_method_92_code 44 = .ok (.goto 13, 3) := by decide +kernel
theorem d9_57 : decode jdk_42_method_92_code 57 = .ok (.areturn, 1) := by decide +kernel
theorem pd___Z : parseMethodDescriptor "()Z" = some ⟨[], some .boolean⟩ := by decide +kernel
theorem pd___BII_Ljava_lang_String_ : parseMethodDescriptor "([BII)Ljava/lang/String;" = some ⟨[(.array .byte), .int, .int], some (.object "java/lang/String")⟩ := by decide +kernel
theorem ef_subp (m : MethodId) (x0 : Addr) (x1 : Int32) (x2 : Int32) : entryFrame m #[(.ref x0), (.int x1), (.int x2)] 5 = mkF m 0 #[rv x0, iv x1, iv x2, .unset, .unset] [] := by first | (simp [entryFrame, mkF, argsToLocals, Value.category]; done) | rfl
def Q_subp (Z : State) (x : Addr) (t : Addr) (kt : ClassId) (cs : List Int32) (bb : Int32) (ee : Int32) (ib : Nat) (ie : Nat) (cz : Int32) (fm : Value) (h0 : Heap) (n0 : Nat) (v : Option Value) (h : Heap) (L : List Loc) : Prop := ∃ (b : Addr) (u : Addr) (ku : ClassId), (v = some (.ref b)) ∧ (Fr n0 L) ∧ (Keep h0 h []) ∧ (Exa Z h b "java/lang/String") ∧ (Fld Z h b "java/lang/String" "coder" "B" (.int (0 : Int32))) ∧ (Fld Z h b "java/lang/String" "value" "[B" (.ref u)) ∧ (Arv Z h u ku .byte (Int32.ofNat (own_sub cs ib ie).length) (((own_sub cs ib ie).map StrChars.lo8).map Value.int) (.int (0 : Int32))) ∧ (h0.size ≤ b)
set_option maxRecDepth 65536 in
set_option maxHeartbeats 40000000 in
theorem rm_subp (l : Launch) (Z : State) (a0 : Array Value) (hw : ∀ d ∈ tables_1, d.before a0 Z = true) (ws : List Jvm.Cond) (x : Addr) (t : Addr) (kt : ClassId) (cs : List Int32) (bb : Int32) (ee : Int32) (ib : Nat) (ie : Nat) (cz : Int32) (fm : Value) (h0 : Heap) (n0 : Nat) (O0 : Old Z n0 h0) (E_x : Exa Z h0 x "java/lang/String") (V_x : Fld Z h0 x "java/lang/String" "value" "[B" (.ref t)) (C_x : Fld Z h0 x "java/lang/String" "coder" "B" (.int (0 : Int32))) (A_x : Arv Z h0 t kt .byte (Int32.ofNat cs.length) ((cs.map StrChars.lo8).map Value.int) (.int (0 : Int32))) (SC : Sta Z Z.heap "java/lang/String" "COMPACT_STRINGS" "Z" (.int cz)) (hcz : ¬ cz = (0 : Int32)) (SF : Sta Z Z.heap "jdk/internal/util/Preconditions" "SIOOBE_FORMATTER" "Ljava/util/function/BiFunction;" fm) (hfm : fm.isRef = true) (hbb : bb = Int32.ofNat ib) (hee : ee = Int32.ofNat ie) (hie : ib ≤ ie) (hec : ie ≤ cs.length) (lcs : cs.length ≤ 4) (hpr : ¬ (ib = 0 ∧ ie = cs.length)) (hlt : ib < ie) :
    MetFree l own_m11 (head1 (Jvm.Cond.code own_m11 jdk_42_method_92_code 5 (some (.object "java/lang/String")) :: ws) ({ frames := 4, cells := 2, slots := 8, locals := 86 } : Room)) (fun ar_ U => ar_ = #[(.ref x), (.int bb), (.int ee)] ∧ Z.Warmed39 U.vm ∧ U.heap = h0) (fun _ _ _ _ _ => True) (fun _ U o U' => ∃ v L, o = .returned v ∧ Q_subp Z x t kt cs bb ee ib ie cz fm h0 n0 v U'.heap L ∧ FrameEnd U o U' L ({ frames := 4, cells := 2, slots := 8, locals := 86 } : Room).cells ({ frames := 4, cells := 2, slots := 8, locals := 86 } : Room).slots) := by
  refine MetFree.of_bodySF (plainFor_of_name pn_0) hisR ?_
  intro p e s m args below meth c s₁ Bd hml0 hP hK
  obtain ⟨rfl, hZ, hh⟩ := hP
  have hx := Bd.exec
  have hby := Bd.bytes
  have hml : c.maxLocals = 5 := hml0
  have hown : s.vm.findClass "java/lang/String" = some m.cls := findClass_of_methodNamed Bd.named
  have hnm := (name_of_methodNamed Bd.named Bd.method).1
  have X0 : Stand p l e ({ frames := 4, cells := 2, slots := 8, locals := 86 } : Room) s m #[(.ref x), (.int bb), (.int ee)] below meth c s₁ [] 0 0 := Stand.of_body Bd
  have e0 : s₁.heap = h0 := by rw [← hh, Bd.state]; rfl
  have N0 := Fr.nil n0
  have hret := Bd.returns
  have hlk : meth.locks = false := Bd.notSynchronized
  show own_E p e below s ({ frames := 4, cells := 2, slots := 8, locals := 86 } : Room).cells ({ frames := 4, cells := 2, slots := 8, locals := 86 } : Room).slots (Q_subp Z x t kt cs bb ee ib ie cz fm h0 n0) s₁ (entryFrame m #[(.ref x), (.int bb), (.int ee)] 5)
  rw [ef_subp m x bb ee]
  subst hbb hee
  have q1 : cs.length ≤ 4000 := by omega
  have q2 : ie ≤ 4000 := by omega
  have q3 : ib ≤ 4000 := by omega
  have q4 : ie - ib ≤ 4000 := by omega
  have q5 : ib ≤ cs.length := by omega
  have q6 : ie - ib ≤ cs.length - ib := by omega
  have q7 : cs.length - ib ≤ 4000 := by omega
  refine own_st (T' := s₁) (g' := (mkF m 1 #[rv x, iv (Int32.ofNat ib), iv (Int32.ofNat ie), .unset, .unset] [(.ref x)])) (fun _ k_ => XS.aloadN X0.here hx rfl (hb hby d9_0) rfl rfl  k_) ?_
  obtain ⟨cq1, kq1, q1a, q1b, q1c⟩ := isOf hZ e0 E_x
  obtain ⟨_, T1, L1, X1, hQ1, st1⟩ := own_callV X0 hx (y := own_m1) (z := own_m1) hown (mvT hZ (wd hw 50 rfl)) (mvT hZ (wd hw 35 rfl)) (notFace_of_selects (args := #[]) (mvT hZ (wd hw 37 rfl))) (mvT hZ (wd hw 37 rfl)) (mvT hZ (wd hw 36 rfl)) (by decide) (backOf (W := 0) (rm_len l Z a0 hw [] x t kt (Int32.ofNat cs.length) ((cs.map StrChars.lo8).map Value.int) cz h0 n0 O0 E_x V_x C_x A_x SC hcz) hZ (wd hw 38 rfl) (wd hw 11 rfl) (by decide) (by decide)) q1a q1c (g := (mkF m 1 #[rv x, iv (Int32.ofNat ib), iv (Int32.ofNat ie), .unset, .unset] [(.ref x)])) rfl (by rw [hml]; rfl) (argsL := []) (rest := []) (lenOf pd___I rfl) rfl (by show 2 * 0 + _ ≤ _; exact Nat.le_of_eq rfl) (hb hby d9_1) rfl e0 (by decide) (by decide) (c' := 0) (s' := 0) rfl rfl
  clear q1a q1b q1c kq1 cq1
  obtain ⟨rfl, Nq1, eq1⟩ := hQ1
  have N1 := Fr.app N0 Nq1
  refine own_st (T' := T1) (g' := (mkF m 4 #[rv x, iv (Int32.ofNat ib), iv (Int32.ofNat ie), .unset, .unset] [(.int (Int32.ofNat cs.length))])) st1 ?_
  clear st1
  refine own_st (T' := T1) (g' := (mkF m 5 #[rv x, iv (Int32.ofNat ib), iv (Int32.ofNat ie), iv (Int32.ofNat cs.length), .unset] [])) (fun _ k_ => XS.istoreN X1.here hx rfl (hb hby d9_4) rfl (l' := #[rv x, iv (Int32.ofNat ib), iv (Int32.ofNat ie), iv (Int32.ofNat cs.length), .unset]) rfl k_) ?_
  refine own_st (T' := T1) (g' := (mkF m 6 #[rv x, iv (Int32.ofNat ib), iv (Int32.ofNat ie), iv (Int32.ofNat cs.length), .unset] [(.int (Int32.ofNat ib))])) (fun _ k_ => XS.iloadN X1.here hx rfl (hb hby d9_5) rfl  k_) ?_
  refine own_st (T' := T1) (g' := (mkF m 7 #[rv x, iv (Int32.ofNat ib), iv (Int32.ofNat ie), iv (Int32.ofNat cs.length), .unset] [(.int (Int32.ofNat ie)), (.int (Int32.ofNat ib))])) (fun _ k_ => XS.iloadN X1.here hx rfl (hb hby d9_6) rfl  k_) ?_
  refine own_st (T' := T1) (g' := (mkF m 8 #[rv x, iv (Int32.ofNat ib), iv (Int32.ofNat ie), iv (Int32.ofNat cs.length), .unset] [(.int (Int32.ofNat cs.length)), (.int (Int32.ofNat ie)), (.int (Int32.ofNat ib))])) (fun _ k_ => XS.iloadN X1.here hx rfl (hb hby d9_7) rfl  k_) ?_
  obtain ⟨_, T2, L2, X2, hQ2, st2⟩ := own_callS X1 hx (y := own_m5) hown (mvT hZ (wd hw 51 rfl)) (mvT hZ (wd hw 52 rfl)) (mvT hZ (wd hw 11 rfl)) (mvT hZ (wd hw 53 rfl)) (by decide) (backOf (W := 0) (rm_cbe l Z a0 hw [] (Int32.ofNat ib) (Int32.ofNat ie) (Int32.ofNat cs.length) fm h0 n0 O0 (own_on0 q3) (own_onlt hie q2) (own_onlt hec q1) SF hfm) hZ (wd hw 53 rfl) (wd hw 11 rfl) (by decide) (by decide)) (g := (mkF m 8 #[rv x, iv (Int32.ofNat ib), iv (Int32.ofNat ie), iv (Int32.ofNat cs.length), .unset] [(.int (Int32.ofNat cs.length)), (.int (Int32.ofNat ie)), (.int (Int32.ofNat ib))])) rfl (by rw [hml]; rfl) (argsL := [(.int (Int32.ofNat ib)), (.int (Int32.ofNat ie)), (.int (Int32.ofNat cs.length))]) (rest := []) (lenOf pd__III_V rfl) rfl (by show 2 * 0 + _ ≤ _; exact Nat.le_of_eq rfl) (hb hby d9_8) rfl eq1 (by decide) (by decide) (c' := 0) (s' := 0) rfl rfl
  obtain ⟨rfl, Nq2, eq2⟩ := hQ2
  have N2 := Fr.app N1 Nq2
  refine own_st (T' := T2) (g' := (mkF m 11 #[rv x, iv (Int32.ofNat ib), iv (Int32.ofNat ie), iv (Int32.ofNat cs.length), .unset] [])) st2 ?_
  clear st2
  refine own_st (T' := T2) (g' := (mkF m 12 #[rv x, iv (Int32.ofNat ib), iv (Int32.ofNat ie), iv (Int32.ofNat cs.length), .unset] [(.int (Int32.ofNat ib))])) (fun _ k_ => XS.iloadN X2.here hx rfl (hb hby d9_11) rfl  k_) ?_
  by_cases hc3 : (Int32.ofNat ib) = (0 : Int32)
  · refine own_st (T' := T2) (g' := (mkF m 15 #[rv x, iv (Int32.ofNat ib), iv (Int32.ofNat ie), iv (Int32.ofNat cs.length), .unset] [])) (fun _ k_ => XS.ifNo X2.here hx rfl (hb hby d9_12) rfl ((if0 _ _).trans (teq hc3).2) k_) ?_
    refine own_st (T' := T2) (g' := (mkF m 16 #[rv x, iv (Int32.ofNat ib), iv (Int32.ofNat ie), iv (Int32.ofNat cs.length), .unset] [(.int (Int32.ofNat ie))])) (fun _ k_ => XS.iloadN X2.here hx rfl (hb hby d9_15) rfl  k_) ?_
    refine own_st (T' := T2) (g' := (mkF m 17 #[rv x, iv (Int32.ofNat ib), iv (Int32.ofNat ie), iv (Int32.ofNat cs.length), .unset] [(.int (Int32.ofNat cs.length)), (.int (Int32.ofNat ie))])) (fun _ k_ => XS.iloadN X2.here hx rfl (hb hby d9_16) rfl  k_) ?_
    refine own_st (T' := T2) (g' := (mkF m 22 #[rv x, iv (Int32.ofNat ib), iv (Int32.ofNat ie), iv (Int32.ofNat cs.length), .unset] [])) (fun _ k_ => XS.icmpYes X2.here hx rfl (pc0 := 17) (pc' := 22) rfl (hb hby d9_17) rfl (feq ((fun q => hpr ⟨own_oz q3 hc3, (own_oeq q2 q1).mp q⟩) : ¬ ((Int32.ofNat ie) = (Int32.ofNat cs.length)))).2 (by decide) (by decide) k_) ?_
    refine own_st (T' := T2) (g' := (mkF m 23 #[rv x, iv (Int32.ofNat ib), iv (Int32.ofNat ie), iv (Int32.ofNat cs.length), .unset] [(.int (Int32.ofNat ie))])) (fun _ k_ => XS.iloadN X2.here hx rfl (hb hby d9_22) rfl  k_) ?_
    refine own_st (T' := T2) (g' := (mkF m 24 #[rv x, iv (Int32.ofNat ib), iv (Int32.ofNat ie), iv (Int32.ofNat cs.length), .unset] [(.int (Int32.ofNat ib)), (.int (Int32.ofNat ie))])) (fun _ k_ => XS.iloadN X2.here hx rfl (hb hby d9_23) rfl  k_) ?_
    refine own_st (T' := T2) (g' := (mkF m 25 #[rv x, iv (Int32.ofNat ib), iv (Int32.ofNat ie), iv (Int32.ofNat cs.length), .unset] [(.int ((Int32.ofNat ie) - (Int32.ofNat ib)))])) (fun _ k_ => XS.isub X2.here hx rfl (hb hby d9_24) rfl k_) ?_
    rw [own_osub hie q2]
    refine own_st (T' := T2) (g' := (mkF m 27 #[rv x, iv (Int32.ofNat ib), iv (Int32.ofNat ie), iv (Int32.ofNat cs.length), iv (Int32.ofNat (ie - ib))] [])) (fun _ k_ => XS.istore X2.here hx rfl (hb hby d9_25) rfl (l' := #[rv x, iv (Int32.ofNat ib), iv (Int32.ofNat ie), iv (Int32.ofNat cs.length), iv (Int32.ofNat (ie - ib))]) rfl k_) ?_
    refine own_st (T' := T2) (g' := (mkF m 28 #[rv x, iv (Int32.ofNat ib), iv (Int32.ofNat ie), iv (Int32.ofNat cs.length), iv (Int32.ofNat (ie - ib))] [(.ref x)])) (fun _ k_ => XS.aloadN X2.here hx rfl (hb hby d9_27) rfl rfl  k_) ?_
    obtain ⟨cq4, kq4, q4a, q4b, q4c⟩ := isOf hZ eq2 E_x
    obtain ⟨_, T4, L4, X4, hQ4, st4⟩ := own_callV X2 hx (y := own_m2) (z := own_m2) hown (mvT hZ (wd hw 81 rfl)) (mvT hZ (wd hw 82 rfl)) (notFace_of_selects (args := #[]) (mvT hZ (wd hw 84 rfl))) (mvT hZ (wd hw 84 rfl)) (mvT hZ (wd hw 83 rfl)) (by decide) (backOf (W := 0) (rm_isl1 l Z a0 hw [] x cz h0 n0 O0 E_x C_x SC hcz) hZ (wd hw 85 rfl) (wd hw 11 rfl) (by decide) (by decide)) q4a q4c (g := (mkF m 28 #[rv x, iv (Int32.ofNat ib), iv (Int32.ofNat ie), iv (Int32.ofNat cs.length), iv (Int32.ofNat (ie - ib))] [(.ref x)])) rfl (by rw [hml]; rfl) (argsL := []) (rest := []) (lenOf pd___Z rfl) rfl (by show 2 * 0 + _ ≤ _; exact Nat.le_of_eq rfl) (hb hby d9_28) rfl eq2 (by decide) (by decide) (c' := 0) (s' := 0) rfl rfl
    clear q4a q4b q4c kq4 cq4
    obtain ⟨rfl, Nq4, eq4⟩ := hQ4
    have N4 := Fr.app N2 Nq4
    refine own_st (T' := T4) (g' := (mkF m 31 #[rv x, iv (Int32.ofNat ib), iv (Int32.ofNat ie), iv (Int32.ofNat cs.length), iv (Int32.ofNat (ie - ib))] [(.int (1 : Int32))])) st4 ?_
    clear st4
    refine own_st (T' := T4) (g' := (mkF m 34 #[rv x, iv (Int32.ofNat ib), iv (Int32.ofNat ie), iv (Int32.ofNat cs.length), iv (Int32.ofNat (ie - ib))] [])) (fun _ k_ => XS.ifNo X4.here hx rfl (hb hby d9_31) rfl ((if0 _ _).trans (feq (by decide : ¬ ((1 : Int32) = (0 : Int32)))).1) k_) ?_
    refine own_st (T' := T4) (g' := (mkF m 35 #[rv x, iv (Int32.ofNat ib), iv (Int32.ofNat ie), iv (Int32.ofNat cs.length), iv (Int32.ofNat (ie - ib))] [(.ref x)])) (fun _ k_ => XS.aloadN X4.here hx rfl (hb hby d9_34) rfl rfl  k_) ?_
    obtain ⟨T5, X5, e5, st5⟩ := getF X4 hx hZ hown (host := "") (Or.inl (wd hw 28 rfl)) Via.refl eq4 V_x (g := (mkF m 35 #[rv x, iv (Int32.ofNat ib), iv (Int32.ofNat ie), iv (Int32.ofNat cs.length), iv (Int32.ofNat (ie - ib))] [(.ref x)])) rfl rfl (hb hby d9_35)
    refine own_st (T' := T5) (g' := (mkF m 38 #[rv x, iv (Int32.ofNat ib), iv (Int32.ofNat ie), iv (Int32.ofNat cs.length), iv (Int32.ofNat (ie - ib))] [(.ref t)])) st5 ?_
    clear st5
    refine own_st (T' := T5) (g' := (mkF m 39 #[rv x, iv (Int32.ofNat ib), iv (Int32.ofNat ie), iv (Int32.ofNat cs.length), iv (Int32.ofNat (ie - ib))] [(.int (Int32.ofNat ib)), (.ref t)])) (fun _ k_ => XS.iloadN X5.here hx rfl (hb hby d9_38) rfl  k_) ?_
    refine own_st (T' := T5) (g' := (mkF m 41 #[rv x, iv (Int32.ofNat ib), iv (Int32.ofNat ie), iv (Int32.ofNat cs.length), iv (Int32.ofNat (ie - ib))] [(.int (Int32.ofNat (ie - ib))), (.int (Int32.ofNat ib)), (.ref t)])) (fun _ k_ => XS.iload X5.here hx rfl (hb hby d9_39) rfl  k_) ?_
    obtain ⟨_, T6, L6, X6, hQ6, st6⟩ := own_callS X5 hx (y := own_m10) hown (mvT hZ (wd hw 96 rfl)) (mvT hZ (wd hw 97 rfl)) (mvT hZ (wd hw 88 rfl)) (mvT hZ (wd hw 98 rfl)) (by decide) (backOf (W := 0) (rm_nws l Z a0 hw [] t kt cs (Int32.ofNat ib) (Int32.ofNat (ie - ib)) ib ie h0 n0 O0 A_x rfl rfl hie hec lcs hpr hlt) hZ (wd hw 98 rfl) (wd hw 88 rfl) (by decide) (by decide)) (g := (mkF m 41 #[rv x, iv (Int32.ofNat ib), iv (Int32.ofNat ie), iv (Int32.ofNat cs.length), iv (Int32.ofNat (ie - ib))] [(.int (Int32.ofNat (ie - ib))), (.int (Int32.ofNat ib)), (.ref t)])) rfl (by rw [hml]; rfl) (argsL := [(.ref t), (.int (Int32.ofNat ib)), (.int (Int32.ofNat (ie - ib)))]) (rest := []) (lenOf pd___BII_Ljava_lang_String_ rfl) rfl (by show 2 * 0 + _ ≤ _; exact Nat.le_of_eq rfl) (hb hby d9_41) rfl e5 (by decide) (by decide) (c' := 2) (s' := 8) rfl rfl
    obtain ⟨b6, u6, ku6, rfl, Nq6, K6, fq6_0, fq6_1, fq6_2, fq6_3, xq6_fresh_b⟩ := hQ6
    have N6 := Fr.app N4 Nq6
    refine own_st (T' := T6) (g' := (mkF m 44 #[rv x, iv (Int32.ofNat ib), iv (Int32.ofNat ie), iv (Int32.ofNat cs.length), iv (Int32.ofNat (ie - ib))] [(.ref b6)])) st6 ?_
    clear st6
    refine own_st (T' := T6) (g' := (mkF m 57 #[rv x, iv (Int32.ofNat ib), iv (Int32.ofNat ie), iv (Int32.ofNat cs.length), iv (Int32.ofNat (ie - ib))] [(.ref b6)])) (fun _ k_ => XS.goto X6.here hx rfl (pc0 := 44) (pc' := 57) rfl (hb hby d9_44) (by decide) (by decide) k_) ?_
    have f7 : Keep h0 T6.heap [] := (Keep.refl h0 []).trans K6 all0
    exact own_retA X6 hx hret rfl rfl hlk (hb hby d9_57) (by decide) (by decide) ⟨b6, u6, ku6, rfl, N6, f7, fq6_0, fq6_1, fq6_2, fq6_3, (Nat.le_trans (Keep.refl h0 []).1 xq6_fresh_b)⟩
  · refine own_st (T' := T2) (g' := (mkF m 22 #[rv x, iv (Int32.ofNat ib), iv (Int32.ofNat ie), iv (Int32.ofNat cs.length), .unset] [])) (fun _ k_ => XS.ifYes X2.here hx rfl (pc0 := 12) (pc' := 22) rfl (hb hby d9_12) rfl ((if0 _ _).trans (feq hc3).2) (by decide) (by decide) k_) ?_
    refine own_st (T' := T2) (g' := (mkF m 23 #[rv x, iv (Int32.ofNat ib), iv (Int32.ofNat ie), iv (Int32.ofNat cs.length), .unset] [(.int (Int32.ofNat ie))])) (fun _ k_ => XS.iloadN X2.here hx rfl (hb hby d9_22) rfl  k_) ?_
    refine own_st (T' := T2) (g' := (mkF m 24 #[rv x, iv (Int32.ofNat ib), iv (Int32.ofNat ie), iv (Int32.ofNat cs.length), .unset] [(.int (Int32.ofNat ib)), (.int (Int32.ofNat ie))])) (fun _ k_ => XS.iloadN X2.here hx rfl (hb hby d9_23) rfl  k_) ?_
    refine own_st (T' := T2) (g' := (mkF m 25 #[rv x, iv (Int32.ofNat ib), iv (Int32.ofNat ie), iv (Int32.ofNat cs.length), .unset] [(.int ((Int32.ofNat ie) - (Int32.ofNat ib)))])) (fun _ k_ => XS.isub X2.here hx rfl (hb hby d9_24) rfl k_) ?_
    rw [own_osub hie q2]
    refine own_st (T' := T2) (g' := (mkF m 27 #[rv x, iv (Int32.ofNat ib), iv (Int32.ofNat ie), iv (Int32.ofNat cs.length), iv (Int32.ofNat (ie - ib))] [])) (fun _ k_ => XS.istore X2.here hx rfl (hb hby d9_25) rfl (l' := #[rv x, iv (Int32.ofNat ib), iv (Int32.ofNat ie), iv (Int32.ofNat cs.length), iv (Int32.ofNat (ie - ib))]) rfl k_) ?_
    refine own_st (T' := T2) (g' := (mkF m 28 #[rv x, iv (Int32.ofNat ib), iv (Int32.ofNat ie), iv (Int32.ofNat cs.length), iv (Int32.ofNat (ie - ib))] [(.ref x)])) (fun _ k_ => XS.aloadN X2.here hx rfl (hb hby d9_27) rfl rfl  k_) ?_
    obtain ⟨cq8, kq8, q8a, q8b, q8c⟩ := isOf hZ eq2 E_x
    obtain ⟨_, T8, L8, X8, hQ8, st8⟩ := own_callV X2 hx (y := own_m2) (z := own_m2) hown (mvT hZ (wd hw 81 rfl)) (mvT hZ (wd hw 82 rfl)) (notFace_of_selects (args := #[]) (mvT hZ (wd hw 84 rfl))) (mvT hZ (wd hw 84 rfl)) (mvT hZ (wd hw 83 rfl)) (by decide) (backOf (W := 0) (rm_isl1 l Z a0 hw [] x cz h0 n0 O0 E_x C_x SC hcz) hZ (wd hw 85 rfl) (wd hw 11 rfl) (by decide) (by decide)) q8a q8c (g := (mkF m 28 #[rv x, iv (Int32.ofNat ib), iv (Int32.ofNat ie), iv (Int32.ofNat cs.length), iv (Int32.ofNat (ie - ib))] [(.ref x)])) rfl (by rw [hml]; rfl) (argsL := []) (rest := []) (lenOf pd___Z rfl) rfl (by show 2 * 0 + _ ≤ _; exact Nat.le_of_eq rfl) (hb hby d9_28) rfl eq2 (by decide) (by decide) (c' := 0) (s' := 0) rfl rfl
    clear q8a q8b q8c kq8 cq8
    obtain ⟨rfl, Nq8, eq8⟩ := hQ8
    have N8 := Fr.app N2 Nq8
    refine own_st (T' := T8) (g' := (mkF m 31 #[rv x, iv (Int32.ofNat ib), iv (Int32.ofNat ie), iv (Int32.ofNat cs.length), iv (Int32.ofNat (ie - ib))] [(.int (1 : Int32))])) st8 ?_
    clear st8
    refine own_st (T' := T8) (g' := (mkF m 34 #[rv x, iv (Int32.ofNat ib), iv (Int32.ofNat ie), iv (Int32.ofNat cs.length), iv (Int32.ofNat (ie - ib))] [])) (fun _ k_ => XS.ifNo X8.here hx rfl (hb hby d9_31) rfl ((if0 _ _).trans (feq (by decide : ¬ ((1 : Int32) = (0 : Int32)))).1) k_) ?_
    refine own_st (T' := T8) (g' := (mkF m 35 #[rv x, iv (Int32.ofNat ib), iv (Int32.ofNat ie), iv (Int32.ofNat cs.length), iv (Int32.ofNat (ie - ib))] [(.ref x)])) (fun _ k_ => XS.aloadN X8.here hx rfl (hb hby d9_34) rfl rfl  k_) ?_
    obtain ⟨T9, X9, e9, st9⟩ := getF X8 hx hZ hown (host := "") (Or.inl (wd hw 28 rfl)) Via.refl eq8 V_x (g := (mkF m 35 #[rv x, iv (Int32.ofNat ib), iv (Int32.ofNat ie), iv (Int32.ofNat cs.length), iv (Int32.ofNat (ie - ib))] [(.ref x)])) rfl rfl (hb hby d9_35)
    refine own_st (T' := T9) (g' := (mkF m 38 #[rv x, iv (Int32.ofNat ib), iv (Int32.ofNat ie), iv (Int32.ofNat cs.length), iv (Int32.ofNat (ie - ib))] [(.ref t)])) st9 ?_
    clear st9
    refine own_st (T' := T9) (g' := (mkF m 39 #[rv x, iv (Int32.ofNat ib), iv (Int32.ofNat ie), iv (Int32.ofNat cs.length), iv (Int32.ofNat (ie - ib))] [(.int (Int32.ofNat ib)), (.ref t)])) (fun _ k_ => XS.iloadN X9.here hx rfl (hb hby d9_38) rfl  k_) ?_
    refine own_st (T' := T9) (g' := (mkF m 41 #[rv x, iv (Int32.ofNat ib), iv (Int32.ofNat ie), iv (Int32.ofNat cs.length), iv (Int32.ofNat (ie - ib))] [(.int (Int32.ofNat (ie - ib))), (.int (Int32.ofNat ib)), (.ref t)])) (fun _ k_ => XS.iload X9.here hx rfl (hb hby d9_39) rfl  k_) ?_
    obtain ⟨_, T10, L10, X10, hQ10, st10⟩ := own_callS X9 hx (y := own_m10) hown (mvT hZ (wd hw 96 rfl)) (mvT hZ (wd hw 97 rfl)) (mvT hZ (wd hw 88 rfl)) (mvT hZ (wd hw 98 rfl)) (by decide) (backOf (W := 0) (rm_nws l Z a0 hw [] t kt cs (Int32.ofNat ib) (Int32.ofNat (ie - ib)) ib ie h0 n0 O0 A_x rfl rfl hie hec lcs hpr hlt) hZ (wd hw 98 rfl) (wd hw 88 rfl) (by decide) (by decide)) (g := (mkF m 41 #[rv x, iv (Int32.ofNat ib), iv (Int32.ofNat ie), iv (Int32.ofNat cs.length), iv (Int32.ofNat (ie - ib))] [(.int (Int32.ofNat (ie - ib))), (.int (Int32.ofNat ib)), (.ref t)])) rfl (by rw [hml]; rfl) (argsL := [(.ref t), (.int (Int32.ofNat ib)), (.int (Int32.ofNat (ie - ib)))]) (rest := []) (lenOf pd___BII_Ljava_lang_String_ rfl) rfl (by show 2 * 0 + _ ≤ _; exact Nat.le_of_eq rfl) (hb hby d9_41) rfl e9 (by decide) (by decide) (c' := 2) (s' := 8) rfl rfl
    obtain ⟨b10, u10, ku10, rfl, Nq10, K10, fq10_0, fq10_1, fq10_2, fq10_3, xq10_fresh_b⟩ := hQ10
    have N10 := Fr.app N8 Nq10
    refine own_st (T' := T10) (g' := (mkF m 44 #[rv x, iv (Int32.ofNat ib), iv (Int32.ofNat ie), iv (Int32.ofNat cs.length), iv (Int32.ofNat (ie - ib))] [(.ref b10)])) st10 ?_
    clear st10
    refine own_st (T' := T10) (g' := (mkF m 57 #[rv x, iv (Int32.ofNat ib), iv (Int32.ofNat ie), iv (Int32.ofNat cs.length), iv (Int32.ofNat (ie - ib))] [(.ref b10)])) (fun _ k_ => XS.goto X10.here hx rfl (pc0 := 44) (pc' := 57) rfl (hb hby d9_44) (by decide) (by decide) k_) ?_
    have f11 : Keep h0 T10.heap [] := (Keep.refl h0 []).trans K10 all0
    exact own_retA X10 hx hret rfl rfl hlk (hb hby d9_57) (by decide) (by decide) ⟨b10, u10, ku10, rfl, N10, f11, fq10_0, fq10_1, fq10_2, fq10_3, (Nat.le_trans (Keep.refl h0 []).1 xq10_fresh_b)⟩
theorem ef_sub0 (m : MethodId) (x0 : Addr) (x1 : Int32) (x2 : Int32) : entryFrame m #[(.ref x0), (.int x1), (.int x2)] 5 = mkF m 0 #[rv x0, iv x1, iv x2, .unset, .unset] [] := by first | (simp [entryFrame, mkF, argsToLocals, Value.category]; done) | rfl
def Q_sub0 (Z : State) (x : Addr) (t : Addr) (kt : ClassId) (cs : List Int32) (bb : Int32) (ee : Int32) (ib : Nat) (cz : Int32) (fm : Value) (h0 : Heap) (n0 : Nat) (v : Option Value) (h : Heap) (L : List Loc) : Prop := ∃ (b : Addr) (u : Addr) (ku : ClassId), (v = some (.ref b)) ∧ (Fr n0 L) ∧ (Keep h0 h []) ∧ (Exa Z h b "java/lang/String") ∧ (Fld Z h b "java/lang/String" "coder" "B" (.int (0 : Int32))) ∧ (Fld Z h b "java/lang/String" "value" "[B" (.ref u)) ∧ (Arv Z h u ku .byte (Int32.ofNat (own_sub cs ib ib).length) (((own_sub cs ib ib).map StrChars.lo8).map Value.int) (.int (0 : Int32)))
set_option maxRecDepth 65536 in
set_option maxHeartbeats 40000000 in
theorem rm_sub0 (l : Launch) (Z : State) (a0 : Array Value) (hw : ∀ d ∈ tables_1, d.before a0 Z = true) (ws : List Jvm.Cond) (x : Addr) (t : Addr) (kt : ClassId) (cs : List Int32) (bb : Int32) (ee : Int32) (ib : Nat) (cz : Int32) (fm : Value) (h0 : Heap) (n0 : Nat) (O0 : Old Z n0 h0) (E_x : Exa Z h0 x "java/lang/String") (V_x : Fld Z h0 x "java/lang/String" "value" "[B" (.ref t)) (C_x : Fld Z h0 x "java/lang/String" "coder" "B" (.int (0 : Int32))) (A_x : Arv Z h0 t kt .byte (Int32.ofNat cs.length) ((cs.map StrChars.lo8).map Value.int) (.int (0 : Int32))) (SC : Sta Z Z.heap "java/lang/String" "COMPACT_STRINGS" "Z" (.int cz)) (hcz : ¬ cz = (0 : Int32)) (SF : Sta Z Z.heap "jdk/internal/util/Preconditions" "SIOOBE_FORMATTER" "Ljava/util/function/BiFunction;" fm) (hfm : fm.isRef = true) (hbb : bb = Int32.ofNat ib) (hee : ee = Int32.ofNat ib) (hec : ib ≤ cs.length) (lcs : cs.length ≤ 4) (hz : ¬ ib = 0) :
    MetFree l own_m11 (head1 (Jvm.Cond.code own_m11 jdk_42_method_92_code 5 (some (.object "java/lang/String")) :: ws) ({ frames := 2, cells := 2, slots := 4, locals := 29 } : Room)) (fun ar_ U => ar_ = #[(.ref x), (.int bb), (.int ee)] ∧ Z.Warmed39 U.vm ∧ U.heap = h0 ∧ CHv Z consts_1 U.vm h0 ∧ ∀ x ∈ ([] : List Addr), Safe Z consts_1 U.vm h0 x) (fun _ _ _ _ _ => True) (fun _ U o U' => ∃ v L, o = .returned v ∧ Q_sub0 Z x t kt cs bb ee ib cz fm h0 n0 v U'.heap L ∧ CHr Z consts_1 U.vm U.heap U'.vm U'.heap ∧ ReturnedEndW U o U' L ({ frames := 2, cells := 2, slots := 4, locals := 29 } : Room).cells ({ frames := 2, cells := 2, slots := 4, locals := 29 } : Room).slots) := by
  refine MetFree.of_bodySF (plainFor_of_name pn_0) hisR ?_
  intro p e s m args below meth c s₁ Bd hml0 hP hK
  obtain ⟨rfl, hZ, hh, CH0, SF0⟩ := hP
  have hx := Bd.exec
  have hby := Bd.bytes
  have hml : c.maxLocals = 5 := hml0
  have hown : s.vm.findClass "java/lang/String" = some m.cls := findClass_of_methodNamed Bd.named
  have hnm := (name_of_methodNamed Bd.named Bd.method).1
  have X0 : Stand p l e ({ frames := 2, cells := 2, slots := 4, locals := 29 } : Room) (s.setVm s.vm) m #[(.ref x), (.int bb), (.int ee)] below meth c s₁ [] 0 0 := Stand.of_body Bd
  have e0 : s₁.heap = h0 := by rw [← hh, Bd.state]; rfl
  have N0 := Fr.nil n0
  have hret := Bd.returns
  have hlk : meth.locks = false := Bd.notSynchronized
  have hEL := own_EW hw
  have hZs := hZ
  have howns := hown
  have hS0 : s.Since s.vm s.heap.size := (State.WarmedH.refl s).since _
  have hk0 : s.heap.size ≤ h0.size := Nat.le_of_eq (by rw [hh])
  have CR0 := CHr.refl CH0
  refine own_W0 hh ?_
  show own_W p e below s ({ frames := 2, cells := 2, slots := 4, locals := 29 } : Room).cells ({ frames := 2, cells := 2, slots := 4, locals := 29 } : Room).slots Z consts_1 h0 (Q_sub0 Z x t kt cs bb ee ib cz fm h0 n0) s₁ (entryFrame m #[(.ref x), (.int bb), (.int ee)] 5)
  rw [ef_sub0 m x bb ee]
  subst hbb hee
  have q1 : cs.length ≤ 4000 := by omega
  have q3 : ib ≤ 4000 := by omega
  have q2 := q3
  have hie : ib ≤ ib := Nat.le_refl _
  have e0_ : Int32.ofNat ib - Int32.ofNat ib = (0 : Int32) := by rw [own_osub hie q3, Nat.sub_self]; rfl
  refine own_stW (T' := s₁) (g' := (mkF m 1 #[rv x, iv (Int32.ofNat ib), iv (Int32.ofNat ib), .unset, .unset] [(.ref x)])) (fun _ k_ => XS.aloadN X0.here hx rfl (hb hby d9_0) rfl rfl  k_) ?_
  obtain ⟨cq1, kq1, q1a, q1b, q1c⟩ := isOf hZ e0 E_x
  obtain ⟨_, T1, L1, X1, hQ1, st1⟩ := own_callV X0 hx (y := own_m1) (z := own_m1) hown (mvT hZ (wd hw 50 rfl)) (mvT hZ (wd hw 35 rfl)) (notFace_of_selects (args := #[]) (mvT hZ (wd hw 37 rfl))) (mvT hZ (wd hw 37 rfl)) (mvT hZ (wd hw 36 rfl)) (by decide) (backOf (W := 0) (rm_len l Z a0 hw [] x t kt (Int32.ofNat cs.length) ((cs.map StrChars.lo8).map Value.int) cz h0 n0 O0 E_x V_x C_x A_x SC hcz) hZ (wd hw 38 rfl) (wd hw 11 rfl) (by decide) (by decide)) q1a q1c (g := (mkF m 1 #[rv x, iv (Int32.ofNat ib), iv (Int32.ofNat ib), .unset, .unset] [(.ref x)])) rfl (by rw [hml]; rfl) (argsL := []) (rest := []) (lenOf pd___I rfl) rfl (by show 2 * 0 + _ ≤ _; exact Nat.le_of_eq rfl) (hb hby d9_1) rfl e0 (by decide) (by decide) (c' := 0) (s' := 0) rfl rfl
  clear q1a q1b q1c kq1 cq1
  obtain ⟨rfl, Nq1, eq1⟩ := hQ1
  have N1 := Fr.app N0 Nq1
  refine own_stW (T' := T1) (g' := (mkF m 4 #[rv x, iv (Int32.ofNat ib), iv (Int32.ofNat ib), .unset, .unset] [(.int (Int32.ofNat cs.length))])) st1 ?_
  clear st1
  refine own_stW (T' := T1) (g' := (mkF m 5 #[rv x, iv (Int32.ofNat ib), iv (Int32.ofNat ib), iv (Int32.ofNat cs.length), .unset] [])) (fun _ k_ => XS.istoreN X1.here hx rfl (hb hby d9_4) rfl (l' := #[rv x, iv (Int32.ofNat ib), iv (Int32.ofNat ib), iv (Int32.ofNat cs.length), .unset]) rfl k_) ?_
  refine own_stW (T' := T1) (g' := (mkF m 6 #[rv x, iv (Int32.ofNat ib), iv (Int32.ofNat ib), iv (Int32.ofNat cs.length), .unset] [(.int (Int32.ofNat ib))])) (fun _ k_ => XS.iloadN X1.here hx rfl (hb hby d9_5) rfl  k_) ?_
  refine own_stW (T' := T1) (g' := (mkF m 7 #[rv x, iv (Int32.ofNat ib), iv (Int32.ofNat ib), iv (Int32.ofNat cs.length), .unset] [(.int (Int32.ofNat ib)), (.int (Int32.ofNat ib))])) (fun _ k_ => XS.iloadN X1.here hx rfl (hb hby d9_6) rfl  k_) ?_
  refine own_stW (T' := T1) (g' := (mkF m 8 #[rv x, iv (Int32.ofNat ib), iv (Int32.ofNat ib), iv (Int32.ofNat cs.length), .unset] [(.int (Int32.ofNat cs.length)), (.int (Int32.ofNat ib)), (.int (Int32.ofNat ib))])) (fun _ k_ => XS.iloadN X1.here hx rfl (hb hby d9_7) rfl  k_) ?_
  obtain ⟨_, T2, L2, X2, hQ2, st2⟩ := own_callS X1 hx (y := own_m5) hown (mvT hZ (wd hw 51 rfl)) (mvT hZ (wd hw 52 rfl)) (mvT hZ (wd hw 11 rfl)) (mvT hZ (wd hw 53 rfl)) (by decide) (backOf (W := 0) (rm_cbe l Z a0 hw [] (Int32.ofNat ib) (Int32.ofNat ib) (Int32.ofNat cs.length) fm h0 n0 O0 (own_on0 q3) (own_onlt hie q2) (own_onlt hec q1) SF hfm) hZ (wd hw 53 rfl) (wd hw 11 rfl) (by decide) (by decide)) (g := (mkF m 8 #[rv x, iv (Int32.ofNat ib), iv (Int32.ofNat ib), iv (Int32.ofNat cs.length), .unset] [(.int (Int32.ofNat cs.length)), (.int (Int32.ofNat ib)), (.int (Int32.ofNat ib))])) rfl (by rw [hml]; rfl) (argsL := [(.int (Int32.ofNat ib)), (.int (Int32.ofNat ib)), (.int (Int32.ofNat cs.length))]) (rest := []) (lenOf pd__III_V rfl) rfl (by show 2 * 0 + _ ≤ _; exact Nat.le_of_eq rfl) (hb hby d9_8) rfl eq1 (by decide) (by decide) (c' := 0) (s' := 0) rfl rfl
  obtain ⟨rfl, Nq2, eq2⟩ := hQ2
  have N2 := Fr.app N1 Nq2
  refine own_stW (T' := T2) (g' := (mkF m 11 #[rv x, iv (Int32.ofNat ib), iv (Int32.ofNat ib), iv (Int32.ofNat cs.length), .unset] [])) st2 ?_
  clear st2
  refine own_stW (T' := T2) (g' := (mkF m 12 #[rv x, iv (Int32.ofNat ib), iv (Int32.ofNat ib), iv (Int32.ofNat cs.length), .unset] [(.int (Int32.ofNat ib))])) (fun _ k_ => XS.iloadN X2.here hx rfl (hb hby d9_11) rfl  k_) ?_
  refine own_stW (T' := T2) (g' := (mkF m 22 #[rv x, iv (Int32.ofNat ib), iv (Int32.ofNat ib), iv (Int32.ofNat cs.length), .unset] [])) (fun _ k_ => XS.ifYes X2.here hx rfl (pc0 := 12) (pc' := 22) rfl (hb hby d9_12) rfl ((if0 _ _).trans (feq ((fun q => hz (own_oz q3 q)) : ¬ ((Int32.ofNat ib) = (0 : Int32)))).2) (by decide) (by decide) k_) ?_
  refine own_stW (T' := T2) (g' := (mkF m 23 #[rv x, iv (Int32.ofNat ib), iv (Int32.ofNat ib), iv (Int32.ofNat cs.length), .unset] [(.int (Int32.ofNat ib))])) (fun _ k_ => XS.iloadN X2.here hx rfl (hb hby d9_22) rfl  k_) ?_
  refine own_stW (T' := T2) (g' := (mkF m 24 #[rv x, iv (Int32.ofNat ib), iv (Int32.ofNat ib), iv (Int32.ofNat cs.length), .unset] [(.int (Int32.ofNat ib)), (.int (Int32.ofNat ib))])) (fun _ k_ => XS.iloadN X2.here hx rfl (hb hby d9_23) rfl  k_) ?_
  refine own_stW (T' := T2) (g' := (mkF m 25 #[rv x, iv (Int32.ofNat ib), iv (Int32.ofNat ib), iv (Int32.ofNat cs.length), .unset] [(.int ((Int32.ofNat ib) - (Int32.ofNat ib)))])) (fun _ k_ => XS.isub X2.here hx rfl (hb hby d9_24) rfl k_) ?_
  rw [e0_]
  refine own_stW (T' := T2) (g' := (mkF m 27 #[rv x, iv (Int32.ofNat ib), iv (Int32.ofNat ib), iv (Int32.ofNat cs.length), iv (0 : Int32)] [])) (fun _ k_ => XS.istore X2.here hx rfl (hb hby d9_25) rfl (l' := #[rv x, iv (Int32.ofNat ib), iv (Int32.ofNat ib), iv (Int32.ofNat cs.length), iv (0 : Int32)]) rfl k_) ?_
  refine own_stW (T' := T2) (g' := (mkF m 28 #[rv x, iv (Int32.ofNat ib), iv (Int32.ofNat ib), iv (Int32.ofNat cs.length), iv (0 : Int32)] [(.ref x)])) (fun _ k_ => XS.aloadN X2.here hx rfl (hb hby d9_27) rfl rfl  k_) ?_
  obtain ⟨cq3, kq3, q3a, q3b, q3c⟩ := isOf hZ eq2 E_x
  obtain ⟨_, T3, L3, X3, hQ3, st3⟩ := own_callV X2 hx (y := own_m2) (z := own_m2) hown (mvT hZ (wd hw 81 rfl)) (mvT hZ (wd hw 82 rfl)) (notFace_of_selects (args := #[]) (mvT hZ (wd hw 84 rfl))) (mvT hZ (wd hw 84 rfl)) (mvT hZ (wd hw 83 rfl)) (by decide) (backOf (W := 0) (rm_isl1 l Z a0 hw [] x cz h0 n0 O0 E_x C_x SC hcz) hZ (wd hw 85 rfl) (wd hw 11 rfl) (by decide) (by decide)) q3a q3c (g := (mkF m 28 #[rv x, iv (Int32.ofNat ib), iv (Int32.ofNat ib), iv (Int32.ofNat cs.length), iv (0 : Int32)] [(.ref x)])) rfl (by rw [hml]; rfl) (argsL := []) (rest := []) (lenOf pd___Z rfl) rfl (by show 2 * 0 + _ ≤ _; exact Nat.le_of_eq rfl) (hb hby d9_28) rfl eq2 (by decide) (by decide) (c' := 0) (s' := 0) rfl rfl
  clear q3a q3b q3c kq3 cq3
  obtain ⟨rfl, Nq3, eq3⟩ := hQ3
  have N3 := Fr.app N2 Nq3
  refine own_stW (T' := T3) (g' := (mkF m 31 #[rv x, iv (Int32.ofNat ib), iv (Int32.ofNat ib), iv (Int32.ofNat cs.length), iv (0 : Int32)] [(.int (1 : Int32))])) st3 ?_
  clear st3
  refine own_stW (T' := T3) (g' := (mkF m 34 #[rv x, iv (Int32.ofNat ib), iv (Int32.ofNat ib), iv (Int32.ofNat cs.length), iv (0 : Int32)] [])) (fun _ k_ => XS.ifNo X3.here hx rfl (hb hby d9_31) rfl ((if0 _ _).trans (feq (by decide : ¬ ((1 : Int32) = (0 : Int32)))).1) k_) ?_
  refine own_stW (T' := T3) (g' := (mkF m 35 #[rv x, iv (Int32.ofNat ib), iv (Int32.ofNat ib), iv (Int32.ofNat cs.length), iv (0 : Int32)] [(.ref x)])) (fun _ k_ => XS.aloadN X3.here hx rfl (hb hby d9_34) rfl rfl  k_) ?_
  obtain ⟨T4, X4, e4, st4⟩ := getF X3 hx hZ hown (host := "") (Or.inl (wd hw 28 rfl)) Via.refl eq3 V_x (g := (mkF m 35 #[rv x, iv (Int32.ofNat ib), iv (Int32.ofNat ib), iv (Int32.ofNat cs.length), iv (0 : Int32)] [(.ref x)])) rfl rfl (hb hby d9_35)
  refine own_stW (T' := T4) (g' := (mkF m 38 #[rv x, iv (Int32.ofNat ib), iv (Int32.ofNat ib), iv (Int32.ofNat cs.length), iv (0 : Int32)] [(.ref t)])) st4 ?_
  clear st4
  refine own_stW (T' := T4) (g' := (mkF m 39 #[rv x, iv (Int32.ofNat ib), iv (Int32.ofNat ib), iv (Int32.ofNat cs.length), iv (0 : Int32)] [(.int (Int32.ofNat ib)), (.ref t)])) (fun _ k_ => XS.iloadN X4.here hx rfl (hb hby d9_38) rfl  k_) ?_
  refine own_stW (T' := T4) (g' := (mkF m 41 #[rv x, iv (Int32.ofNat ib), iv (Int32.ofNat ib), iv (Int32.ofNat cs.length), iv (0 : Int32)] [(.int (0 : Int32)), (.int (Int32.ofNat ib)), (.ref t)])) (fun _ k_ => XS.iload X4.here hx rfl (hb hby d9_39) rfl  k_) ?_
  obtain ⟨_, T5, L5, X5, hS5, hQ5, ch5, st5⟩ := own_callSW X4 hx (y := own_m10) hown (mvT hZ (wd hw 96 rfl)) (mvT hZ (wd hw 97 rfl)) (mvT hZ (wd hw 88 rfl)) (mvT hZ (wd hw 98 rfl)) (by decide) (own_backW (W := 0) (rm_nws0 l Z a0 hw [] t (Int32.ofNat ib) cs ib h0 n0 O0) hZ (wd hw 98 rfl) (wd hw 88 rfl) (by decide) (by decide) hEL CR0.1 sf0 all0) (g := (mkF m 41 #[rv x, iv (Int32.ofNat ib), iv (Int32.ofNat ib), iv (Int32.ofNat cs.length), iv (0 : Int32)] [(.int (0 : Int32)), (.int (Int32.ofNat ib)), (.ref t)])) rfl (by rw [hml]; rfl) (argsL := [(.ref t), (.int (Int32.ofNat ib)), (.int (0 : Int32))]) (rest := []) (lenOf pd___BII_Ljava_lang_String_ rfl) rfl (by show 2 * 0 + _ ≤ _; exact Nat.le_of_eq rfl) (hb hby d9_41) rfl e4 (by decide) (by decide) (c' := 2) (s' := 4) rfl rfl hS0 hk0
  obtain ⟨b5, u5, ku5, rfl, Nq5, K5, fq5_0, fq5_1, fq5_2, fq5_3⟩ := hQ5
  have N5 := Fr.app N3 Nq5
  have CR6 : CHr Z consts_1 s.vm h0 T5.vm T5.heap := CR0.trans ch5
  have hZ5 : Z.Warmed39 (s.setVm T5.vm).vm := own_hZ hZs hS5
  have hown5 : (s.setVm T5.vm).vm.findClass "java/lang/String" = some m.cls := own_hown howns hS5
  refine own_stW (T' := T5) (g' := (mkF m 44 #[rv x, iv (Int32.ofNat ib), iv (Int32.ofNat ib), iv (Int32.ofNat cs.length), iv (0 : Int32)] [(.ref b5)])) st5 ?_
  clear st5
  refine own_stW (T' := T5) (g' := (mkF m 57 #[rv x, iv (Int32.ofNat ib), iv (Int32.ofNat ib), iv (Int32.ofNat cs.length), iv (0 : Int32)] [(.ref b5)])) (fun _ k_ => XS.goto X5.here hx rfl (pc0 := 44) (pc' := 57) rfl (hb hby d9_44) (by decide) (by decide) k_) ?_
  have f7 : Keep h0 T5.heap [] := (Keep.refl h0 []).trans K5 all0
  exact own_retAW X5 hZ5 hS5 (Nat.le_refl _) hEL CR6 hx hret rfl rfl hlk (hb hby d9_57) (by decide) (by decide) ⟨b5, u5, ku5, rfl, N5, f7, fq5_0, fq5_1, fq5_2, fq5_3⟩
theorem own_nch {c : Int32} (h : ¬ c < 0 ∧ ¬ (255 : Int32) < c) : nar .char c = c := by
  obtain ⟨h1, h2⟩ := h
  have k := c_i2c c
  have z0 : (0 : Int32).toInt = 0 := rfl
  have z1 : (255 : Int32).toInt = 255 := rfl
  rw [Int32.lt_iff_toInt_lt] at h1 h2
  show c.toUInt32.toUInt16.toUInt32.toInt32 = c
  exact own_eqI (by omega)
theorem own_lo256 : ∀ n : Fin 256, (Int32.ofNat n.1).toInt8.toInt32 &&& 255 = Int32.ofNat n.1 := by decide +kernel
theorem own_lo255 {c : Int32} (h : ¬ c < 0 ∧ ¬ (255 : Int32) < c) : StrChars.lo8 c &&& 255 = c := by
  obtain ⟨h1, h2⟩ := h
  have z0 : (0 : Int32).toInt = 0 := rfl
  have z1 : (255 : Int32).toInt = 255 := rfl
  rw [Int32.lt_iff_toInt_lt] at h1 h2
  have e : c = Int32.ofNat c.toInt.toNat := Int32.toInt_inj.mp (by rw [own_on (by omega)]; omega)
  have q := own_lo256 ⟨c.toInt.toNat, by omega⟩
  rw [← e] at q
  exact q
theorem own_chb (cs : List Int32) (i : Nat) (h : i < cs.length) : ((cs.map StrChars.lo8).map Value.int).getD i (Value.int 0) = Value.int (StrChars.lo8 (cs.getD i 0)) := by
  simp [List.getD_eq_getElem?_getD, h]
theorem own_chm (cs : List Int32) (i : Nat) (h : i < cs.length) : cs.getD i 0 ∈ cs := by
  rw [List.getD_eq_getElem?_getD, List.getElem?_eq_getElem h]; exact List.getElem_mem h
theorem d21_0 : decode jdk_41_method_11_code 0 = .ok (.iload_n 0, 1) := by decide +kernel
theorem d21_1 : decode jdk_41_method_11_code 1 = .ok (.ifCond .lt 8, 3) := by decide +kernel
theorem d21_4 : decode jdk_41_method_11_code 4 = .ok (.iload_n 0, 1) := by decide +kernel
theorem d21_5 : decode jdk_41_method_11_code 5 = .ok (.iload_n 1, 1) := by decide +kernel
theorem d21_6 : decode jdk_41_method_11_code 6 = .ok (.if_icmp .lt 10, 3) := by decide +kernel
theorem d21_16 : decode jdk_41_method_11_code 16 = .ok (.iload_n 0, 1) := by decide +kernel
theorem d21_17 : decode jdk_41_method_11_code 17 = .ok (.ireturn, 1) := by decide +kernel
theorem ef_cki (m : MethodId) (x0 : Int32) (x1 : Int32) (x2 : Value) (hx2 : x2.isRef = true) : entryFrame m #[(.int x0), (.int x1), x2] 3 = mkF m 0 #[iv x0, iv x1, .val x2] [] := by
  rcases ref_cases hx2 with rfl | ⟨_, rfl⟩ <;> (first | (simp [entryFrame, mkF, argsToLocals, Value.category]; done) | rfl)
def Q_cki (Z : State) (fb : Int32) (fe : Int32) (fm : Value) (h0 : Heap) (n0 : Nat) (v : Option Value) (h : Heap) (L : List Loc) : Prop := (v = some (.int fb)) ∧ (Fr n0 L) ∧ (h = h0)
set_option maxRecDepth 65536 in
set_option maxHeartbeats 40000000 in
theorem rm_cki (l : Launch) (Z : State) (a0 : Array Value) (hw : ∀ d ∈ tables_1, d.before a0 Z = true) (ws : List Jvm.Cond) (fb : Int32) (fe : Int32) (fm : Value) (h0 : Heap) (n0 : Nat) (O0 : Old Z n0 h0) (hk0 : ¬ fb < (0 : Int32)) (hk1 : fb < fe) (hfm : fm.isRef = true) :
    MetFree l own_m12 (head1 (Jvm.Cond.code own_m12 jdk_41_method_11_code 3 (some .int) :: ws) ({ frames := 0, cells := 0, slots := 0, locals := 0 } : Room)) (fun ar_ U => ar_ = #[(.int fb), (.int fe), fm] ∧ Z.Warmed39 U.vm ∧ U.heap = h0) (fun _ _ _ _ _ => True) (fun _ U o U' => ∃ v L, o = .returned v ∧ Q_cki Z fb fe fm h0 n0 v U'.heap L ∧ FrameEnd U o U' L ({ frames := 0, cells := 0, slots := 0, locals := 0 } : Room).cells ({ frames := 0, cells := 0, slots := 0, locals := 0 } : Room).slots) := by
  refine MetFree.of_bodySF (plainFor_of_name pn_1) hisR ?_
  intro p e s m args below meth c s₁ Bd hml0 hP hK
  obtain ⟨rfl, hZ, hh⟩ := hP
  have hx := Bd.exec
  have hby := Bd.bytes
  have hml : c.maxLocals = 3 := hml0
  have hown : s.vm.findClass "jdk/internal/util/Preconditions" = some m.cls := findClass_of_methodNamed Bd.named
  have hnm := (name_of_methodNamed Bd.named Bd.method).1
  have X0 : Stand p l e ({ frames := 0, cells := 0, slots := 0, locals := 0 } : Room) s m #[(.int fb), (.int fe), fm] below meth c s₁ [] 0 0 := Stand.of_body Bd
  have e0 : s₁.heap = h0 := by rw [← hh, Bd.state]; rfl
  have N0 := Fr.nil n0
  have hret := Bd.returns
  have hlk : meth.locks = false := Bd.notSynchronized
  show own_E p e below s ({ frames := 0, cells := 0, slots := 0, locals := 0 } : Room).cells ({ frames := 0, cells := 0, slots := 0, locals := 0 } : Room).slots (Q_cki Z fb fe fm h0 n0) s₁ (entryFrame m #[(.int fb), (.int fe), fm] 3)
  rw [ef_cki m fb fe fm hfm]
  refine own_st (T' := s₁) (g' := (mkF m 1 #[iv fb, iv fe, .val fm] [(.int fb)])) (fun _ k_ => XS.iloadN X0.here hx rfl (hb hby d21_0) rfl  k_) ?_
  refine own_st (T' := s₁) (g' := (mkF m 4 #[iv fb, iv fe, .val fm] [])) (fun _ k_ => XS.ifNo X0.here hx rfl (hb hby d21_1) rfl ((if0 _ _).trans (flt (hk0 : ¬ (fb < (0 : Int32)))).1) k_) ?_
  refine own_st (T' := s₁) (g' := (mkF m 5 #[iv fb, iv fe, .val fm] [(.int fb)])) (fun _ k_ => XS.iloadN X0.here hx rfl (hb hby d21_4) rfl  k_) ?_
  refine own_st (T' := s₁) (g' := (mkF m 6 #[iv fb, iv fe, .val fm] [(.int fe), (.int fb)])) (fun _ k_ => XS.iloadN X0.here hx rfl (hb hby d21_5) rfl  k_) ?_
  refine own_st (T' := s₁) (g' := (mkF m 16 #[iv fb, iv fe, .val fm] [])) (fun _ k_ => XS.icmpYes X0.here hx rfl (pc0 := 6) (pc' := 16) rfl (hb hby d21_6) rfl (tlt (hk1 : fb < fe)).1 (by decide) (by decide) k_) ?_
  refine own_st (T' := s₁) (g' := (mkF m 17 #[iv fb, iv fe, .val fm] [(.int fb)])) (fun _ k_ => XS.iloadN X0.here hx rfl (hb hby d21_16) rfl  k_) ?_
  exact own_retI X0 hx hret hlk (hb hby d21_17) (by decide) (by decide) ⟨rfl, N0, e0⟩
theorem d20_0 : decode jdk_42_method_155_code 0 = .ok (.iload_n 0, 1) := by decide +kernel
theorem d20_1 : decode jdk_42_method_155_code 1 = .ok (.iload_n 1, 1) := by decide +kernel
theorem d20_2 : decode jdk_42_method_155_code 2 = .ok (.getstatic 1053, 3) := by decide +kernel
theorem d20_5 : decode jdk_42_method_155_code 5 = .ok (.invokestatic 1059, 3) := by decide +kernel
theorem d20_8 : decode jdk_42_method_155_code 8 = .ok (.pop, 1) := by decide +kernel
theorem d20_9 : decode jdk_42_method_155_code 9 = .ok (.return_, 1) := by decide +kernel
theorem pd__IILjava_util_function_BiFunction__I : parseMethodDescriptor "(IILjava/util/function/BiFunction;)I" = some ⟨[.int, .int, (.object "java/util/function/BiFunction")], some .int⟩ := by decide +kernel
theorem ef_scki (m : MethodId) (x0 : Int32) (x1 : Int32) : entryFrame m #[(.int x0), (.int x1)] 2 = mkF m 0 #[iv x0, iv x1] [] := by first | (simp [entryFrame, mkF, argsToLocals, Value.category]; done) | rfl
def Q_scki (Z : State) (fb : Int32) (fe : Int32) (fm : Value) (h0 : Heap) (n0 : Nat) (v : Option Value) (h : Heap) (L : List Loc) : Prop := (v = none) ∧ (Fr n0 L) ∧ (h = h0)
set_option maxRecDepth 65536 in
set_option maxHeartbeats 40000000 in
theorem rm_scki (l : Launch) (Z : State) (a0 : Array Value) (hw : ∀ d ∈ tables_1, d.before a0 Z = true) (ws : List Jvm.Cond) (fb : Int32) (fe : Int32) (fm : Value) (h0 : Heap) (n0 : Nat) (O0 : Old Z n0 h0) (hk0 : ¬ fb < (0 : Int32)) (hk1 : fb < fe) (SF : Sta Z Z.heap "jdk/internal/util/Preconditions" "SIOOBE_FORMATTER" "Ljava/util/function/BiFunction;" fm) (hfm : fm.isRef = true) :
    MetFree l own_m13 (head1 (Jvm.Cond.code own_m13 jdk_42_method_155_code 2 none :: ws) ({ frames := 1, cells := 0, slots := 0, locals := 14 } : Room)) (fun ar_ U => ar_ = #[(.int fb), (.int fe)] ∧ Z.Warmed39 U.vm ∧ U.heap = h0) (fun _ _ _ _ _ => True) (fun _ U o U' => ∃ v L, o = .returned v ∧ Q_scki Z fb fe fm h0 n0 v U'.heap L ∧ FrameEnd U o U' L ({ frames := 1, cells := 0, slots := 0, locals := 14 } : Room).cells ({ frames := 1, cells := 0, slots := 0, locals := 14 } : Room).slots) := by
  refine MetFree.of_bodySF (plainFor_of_name pn_0) hisR ?_
  intro p e s m args below meth c s₁ Bd hml0 hP hK
  obtain ⟨rfl, hZ, hh⟩ := hP
  have hx := Bd.exec
  have hby := Bd.bytes
  have hml : c.maxLocals = 2 := hml0
  have hown : s.vm.findClass "java/lang/String" = some m.cls := findClass_of_methodNamed Bd.named
  have hnm := (name_of_methodNamed Bd.named Bd.method).1
  have X0 : Stand p l e ({ frames := 1, cells := 0, slots := 0, locals := 14 } : Room) s m #[(.int fb), (.int fe)] below meth c s₁ [] 0 0 := Stand.of_body Bd
  have e0 : s₁.heap = h0 := by rw [← hh, Bd.state]; rfl
  have N0 := Fr.nil n0
  have hret := Bd.returns
  have hlk : meth.locks = false := Bd.notSynchronized
  show own_E p e below s ({ frames := 1, cells := 0, slots := 0, locals := 14 } : Room).cells ({ frames := 1, cells := 0, slots := 0, locals := 14 } : Room).slots (Q_scki Z fb fe fm h0 n0) s₁ (entryFrame m #[(.int fb), (.int fe)] 2)
  rw [ef_scki m fb fe]
  refine own_st (T' := s₁) (g' := (mkF m 1 #[iv fb, iv fe] [(.int fb)])) (fun _ k_ => XS.iloadN X0.here hx rfl (hb hby d20_0) rfl  k_) ?_
  refine own_st (T' := s₁) (g' := (mkF m 2 #[iv fb, iv fe] [(.int fe), (.int fb)])) (fun _ k_ => XS.iloadN X0.here hx rfl (hb hby d20_1) rfl  k_) ?_
  obtain ⟨T1, X1, e1, st1⟩ := getS2 X0 hx hZ hown (host := "") (Or.inl (wd hw 54 rfl)) Via.refl e0 (SF.ext O0.2) (g := (mkF m 2 #[iv fb, iv fe] [(.int fe), (.int fb)])) rfl (hb hby d20_2)
  refine own_st (T' := T1) (g' := (mkF m 5 #[iv fb, iv fe] [fm, (.int fe), (.int fb)])) st1 ?_
  clear st1
  obtain ⟨_, T2, L2, X2, hQ2, st2⟩ := own_callS X1 hx (y := own_m12) hown (mvT hZ (wd hw 93 rfl)) (mvT hZ (wd hw 94 rfl)) (mvT hZ (wd hw 55 rfl)) (mvT hZ (wd hw 95 rfl)) (by decide) (backOf (W := 0) (rm_cki l Z a0 hw [] fb fe fm h0 n0 O0 hk0 hk1 hfm) hZ (wd hw 95 rfl) (wd hw 55 rfl) (by decide) (by decide)) (g := (mkF m 5 #[iv fb, iv fe] [fm, (.int fe), (.int fb)])) rfl (by rw [hml]; rfl) (argsL := [(.int fb), (.int fe), fm]) (rest := []) (lenOf pd__IILjava_util_function_BiFunction__I rfl) rfl (by show 2 * 0 + _ ≤ _; exact Nat.le_of_eq rfl) (hb hby d20_5) rfl e1 (by decide) (by decide) (c' := 0) (s' := 0) rfl rfl
  obtain ⟨rfl, Nq2, eq2⟩ := hQ2
  have N2 := Fr.app N0 Nq2
  refine own_st (T' := T2) (g' := (mkF m 8 #[iv fb, iv fe] [(.int fb)])) st2 ?_
  clear st2
  refine own_st (T' := T2) (g' := (mkF m 9 #[iv fb, iv fe] [])) (fun _ k_ => XS.pop X2.here hx rfl (hb hby d20_8) rfl rfl k_) ?_
  exact own_retV X2 hx hret hlk (hb hby d20_9) (by decide) (by decide) ⟨rfl, N2, eq2⟩
theorem d19_0 : decode jdk_43_method_2_code 0 = .ok (.iload_n 1, 1) := by decide +kernel
theorem d19_1 : decode jdk_43_method_2_code 1 = .ok (.aload_n 0, 1) := by decide +kernel
theorem d19_2 : decode jdk_43_method_2_code 2 = .ok (.arraylength, 1) := by decide +kernel
theorem d19_3 : decode jdk_43_method_2_code 3 = .ok (.invokestatic 9, 3) := by decide +kernel
theorem d19_6 : decode jdk_43_method_2_code 6 = .ok (.aload_n 0, 1) := by decide +kernel
theorem d19_7 : decode jdk_43_method_2_code 7 = .ok (.iload_n 1, 1) := by decide +kernel
theorem d19_8 : decode jdk_43_method_2_code 8 = .ok (.baload, 1) := by decide +kernel
theorem d19_9 : decode jdk_43_method_2_code 9 = .ok (.sipush 255, 3) := by decide +kernel
theorem d19_12 : decode jdk_43_method_2_code 12 = .ok (.iand, 1) := by decide +kernel
theorem d19_13 : decode jdk_43_method_2_code 13 = .ok (.i2c, 1) := by decide +kernel
theorem d19_14 : decode jdk_43_method_2_code 14 = .ok (.ireturn, 1) := by decide +kernel
theorem ef_l1ch (m : MethodId) (x0 : Addr) (x1 : Int32) : entryFrame m #[(.ref x0), (.int x1)] 2 = mkF m 0 #[rv x0, iv x1] [] := by first | (simp [entryFrame, mkF, argsToLocals, Value.category]; done) | rfl
def Q_l1ch (Z : State) (t : Addr) (kt : ClassId) (cs : List Int32) (jj : Int32) (ii : Nat) (fm : Value) (h0 : Heap) (n0 : Nat) (v : Option Value) (h : Heap) (L : List Loc) : Prop := (v = some (.int (List.getD cs ii 0))) ∧ (Fr n0 L) ∧ (h = h0)
set_option maxRecDepth 65536 in
set_option maxHeartbeats 40000000 in
theorem rm_l1ch (l : Launch) (Z : State) (a0 : Array Value) (hw : ∀ d ∈ tables_1, d.before a0 Z = true) (ws : List Jvm.Cond) (t : Addr) (kt : ClassId) (cs : List Int32) (jj : Int32) (ii : Nat) (fm : Value) (h0 : Heap) (n0 : Nat) (O0 : Old Z n0 h0) (A_x : Arv Z h0 t kt .byte (Int32.ofNat cs.length) ((cs.map StrChars.lo8).map Value.int) (.int (0 : Int32))) (hjj : jj = Int32.ofNat ii) (hii : ii < cs.length) (lcs : cs.length ≤ 4000) (hp : ∀ c ∈ cs, ¬ c < 0 ∧ ¬ (255 : Int32) < c) (SF : Sta Z Z.heap "jdk/internal/util/Preconditions" "SIOOBE_FORMATTER" "Ljava/util/function/BiFunction;" fm) (hfm : fm.isRef = true) :
    MetFree l own_m14 (head1 (Jvm.Cond.code own_m14 jdk_43_method_2_code 2 (some .char) :: ws) ({ frames := 2, cells := 0, slots := 0, locals := 27 } : Room)) (fun ar_ U => ar_ = #[(.ref t), (.int jj)] ∧ Z.Warmed39 U.vm ∧ U.heap = h0) (fun _ _ _ _ _ => True) (fun _ U o U' => ∃ v L, o = .returned v ∧ Q_l1ch Z t kt cs jj ii fm h0 n0 v U'.heap L ∧ FrameEnd U o U' L ({ frames := 2, cells := 0, slots := 0, locals := 27 } : Room).cells ({ frames := 2, cells := 0, slots := 0, locals := 27 } : Room).slots) := by
  refine MetFree.of_bodySF (plainFor_of_name pn_3) hisR ?_
  intro p e s m args below meth c s₁ Bd hml0 hP hK
  obtain ⟨rfl, hZ, hh⟩ := hP
  have hx := Bd.exec
  have hby := Bd.bytes
  have hml : c.maxLocals = 2 := hml0
  have hown : s.vm.findClass "java/lang/StringLatin1" = some m.cls := findClass_of_methodNamed Bd.named
  have hnm := (name_of_methodNamed Bd.named Bd.method).1
  have X0 : Stand p l e ({ frames := 2, cells := 0, slots := 0, locals := 27 } : Room) s m #[(.ref t), (.int jj)] below meth c s₁ [] 0 0 := Stand.of_body Bd
  have e0 : s₁.heap = h0 := by rw [← hh, Bd.state]; rfl
  have N0 := Fr.nil n0
  have hret := Bd.returns
  have hlk : meth.locks = false := Bd.notSynchronized
  show own_E p e below s ({ frames := 2, cells := 0, slots := 0, locals := 27 } : Room).cells ({ frames := 2, cells := 0, slots := 0, locals := 27 } : Room).slots (Q_l1ch Z t kt cs jj ii fm h0 n0) s₁ (entryFrame m #[(.ref t), (.int jj)] 2)
  rw [ef_l1ch m t jj]
  subst hjj
  have qi : ii ≤ 4000 := by omega
  refine own_st (T' := s₁) (g' := (mkF m 1 #[rv t, iv (Int32.ofNat ii)] [(.int (Int32.ofNat ii))])) (fun _ k_ => XS.iloadN X0.here hx rfl (hb hby d19_0) rfl  k_) ?_
  refine own_st (T' := s₁) (g' := (mkF m 2 #[rv t, iv (Int32.ofNat ii)] [(.ref t), (.int (Int32.ofNat ii))])) (fun _ k_ => XS.aloadN X0.here hx rfl (hb hby d19_1) rfl rfl  k_) ?_
  obtain ⟨cl1, Ar1, -, S1, N1, -, -⟩ := id A_x
  refine own_st (T' := s₁) (g' := (mkF m 3 #[rv t, iv (Int32.ofNat ii)] [(.int (Int32.ofNat cs.length)), (.int (Int32.ofNat ii))])) (fun t_ k_ => X0.arraylength hx (by rw [e0]; exact Ar1.1) (State.isArrayOf_alike hZ.alike Ar1.2.1) (g := (mkF m 2 #[rv t, iv (Int32.ofNat ii)] [(.ref t), (.int (Int32.ofNat ii))])) rfl rfl (hb hby d19_2) _ (by rw [len_of S1 N1]; exact k_)) ?_
  obtain ⟨_, T2, L2, X2, hQ2, st2⟩ := own_callS X0 hx (y := own_m13) hown (mvT hZ (wd hw 90 rfl)) (mvT hZ (wd hw 91 rfl)) (mvT hZ (wd hw 11 rfl)) (mvT hZ (wd hw 92 rfl)) (by decide) (backOf (W := 0) (rm_scki l Z a0 hw [] (Int32.ofNat ii) (Int32.ofNat cs.length) fm h0 n0 O0 (own_on0 qi) ((own_olt qi lcs).mpr hii) SF hfm) hZ (wd hw 92 rfl) (wd hw 11 rfl) (by decide) (by decide)) (g := (mkF m 3 #[rv t, iv (Int32.ofNat ii)] [(.int (Int32.ofNat cs.length)), (.int (Int32.ofNat ii))])) rfl (by rw [hml]; rfl) (argsL := [(.int (Int32.ofNat ii)), (.int (Int32.ofNat cs.length))]) (rest := []) (lenOf pd__II_V rfl) rfl (by show 2 * 0 + _ ≤ _; exact Nat.le_of_eq rfl) (hb hby d19_3) rfl e0 (by decide) (by decide) (c' := 0) (s' := 0) rfl rfl
  obtain ⟨rfl, Nq2, eq2⟩ := hQ2
  have N2 := Fr.app N0 Nq2
  refine own_st (T' := T2) (g' := (mkF m 6 #[rv t, iv (Int32.ofNat ii)] [])) st2 ?_
  clear st2
  refine own_st (T' := T2) (g' := (mkF m 7 #[rv t, iv (Int32.ofNat ii)] [(.ref t)])) (fun _ k_ => XS.aloadN X2.here hx rfl (hb hby d19_6) rfl rfl  k_) ?_
  refine own_st (T' := T2) (g' := (mkF m 8 #[rv t, iv (Int32.ofNat ii)] [(.int (Int32.ofNat ii)), (.ref t)])) (fun _ k_ => XS.iloadN X2.here hx rfl (hb hby d19_7) rfl  k_) ?_
  obtain ⟨cl3, Ar3, q3, S3, N3, H3, G3⟩ := id A_x
  have hin3 : ¬ ((Int32.ofNat ii) < 0 ∨ cl3.slots.size ≤ ((Int32.ofNat ii)).toNatClampNeg) := inb_of S3 ⟨own_on0 qi, (own_olt qi lcs).mpr hii⟩
  refine own_st (T' := T2) (g' := (mkF m 9 #[rv t, iv (Int32.ofNat ii)] [(.int (StrChars.lo8 (List.getD cs ii 0)))])) (X2.baloadBytes hx (j := (Int32.ofNat ii)) (v := (.int (StrChars.lo8 (List.getD cs ii 0)))) (by rw [eq2]; exact Ar3.1) (State.isArrayOf_alike hZ.alike Ar3.2.1) Ar3.2.2 hin3 (H3.at hin3 (by rw [own_onN qi]; exact own_chb cs ii hii)) (g := (mkF m 8 #[rv t, iv (Int32.ofNat ii)] [(.int (Int32.ofNat ii)), (.ref t)])) rfl rfl (hb hby d19_8)) ?_
  clear hin3 G3 H3 N3 S3 q3 Ar3 cl3
  refine own_st (T' := T2) (g' := (mkF m 12 #[rv t, iv (Int32.ofNat ii)] [(.int (255 : Int32)), (.int (StrChars.lo8 (List.getD cs ii 0)))])) (fun _ k_ => XS.sipush X2.here hx rfl (hb hby d19_9) k_) ?_
  refine own_st (T' := T2) (g' := (mkF m 13 #[rv t, iv (Int32.ofNat ii)] [(.int ((StrChars.lo8 (List.getD cs ii 0)) &&& (255 : Int32)))])) (fun _ k_ => XS.iand X2.here hx rfl (hb hby d19_12) rfl k_) ?_
  refine own_st (T' := T2) (g' := (mkF m 14 #[rv t, iv (Int32.ofNat ii)] [(.int (((StrChars.lo8 (List.getD cs ii 0)) &&& (255 : Int32)).toUInt32.toUInt16.toUInt32.toInt32))])) (fun _ k_ => XS.i2c X2.here hx rfl (hb hby d19_13) rfl k_) ?_
  exact own_retN X2 hx (t := .char) hret (by simp) hlk (hb hby d19_14) (by decide) (by decide) ⟨congrArg (fun z => some (Value.int z)) ((own_nc _).trans (own_lo255 (hp _ (own_chm cs ii hii)))), N2, eq2⟩
theorem d17_0 : decode jdk_42_method_56_code 0 = .ok (.aload_n 0, 1) := by decide +kernel
theorem d17_1 : decode jdk_42_method_56_code 1 = .ok (.invokevirtual 492, 3) := by decide +kernel
theorem d17_4 : decode jdk_42_method_56_code 4 = .ok (.ifCond .eq 12, 3) := by decide +kernel
theorem d17_7 : decode jdk_42_method_56_code 7 = .ok (.aload_n 0, 1) := by decide +kernel
theorem d17_8 : decode jdk_42_method_56_code 8 = .ok (.getfield 9, 3) := by decide +kernel
theorem d17_11 : decode jdk_42_method_56_code 11 = .ok (.iload_n 1, 1) := by decide +kernel
theorem d17_12 : decode jdk_42_method_56_code 12 = .ok (.invokestatic 495, 3) := by decide +kernel
theorem d17_15 : decode jdk_42_method_56_code 15 = .ok (.ireturn, 1) := by decide +kernel
theorem pd___BI_C : parseMethodDescriptor "([BI)C" = some ⟨[(.array .byte), .int], some .char⟩ := by decide +kernel
theorem ef_chat (m : MethodId) (x0 : Addr) (x1 : Int32) : entryFrame m #[(.ref x0), (.int x1)] 2 = mkF m 0 #[rv x0, iv x1] [] := by first | (simp [entryFrame, mkF, argsToLocals, Value.category]; done) | rfl
def Q_chat (Z : State) (x : Addr) (t : Addr) (kt : ClassId) (cs : List Int32) (jj : Int32) (ii : Nat) (cz : Int32) (fm : Value) (h0 : Heap) (n0 : Nat) (v : Option Value) (h : Heap) (L : List Loc) : Prop := (v = some (.int (List.getD cs ii 0))) ∧ (Fr n0 L) ∧ (h = h0)
set_option maxRecDepth 65536 in
set_option maxHeartbeats 40000000 in
theorem rm_chat (l : Launch) (Z : State) (a0 : Array Value) (hw : ∀ d ∈ tables_1, d.before a0 Z = true) (ws : List Jvm.Cond) (x : Addr) (t : Addr) (kt : ClassId) (cs : List Int32) (jj : Int32) (ii : Nat) (cz : Int32) (fm : Value) (h0 : Heap) (n0 : Nat) (O0 : Old Z n0 h0) (E_x : Exa Z h0 x "java/lang/String") (V_x : Fld Z h0 x "java/lang/String" "value" "[B" (.ref t)) (C_x : Fld Z h0 x "java/lang/String" "coder" "B" (.int (0 : Int32))) (A_x : Arv Z h0 t kt .byte (Int32.ofNat cs.length) ((cs.map StrChars.lo8).map Value.int) (.int (0 : Int32))) (hjj : jj = Int32.ofNat ii) (hii : ii < cs.length) (lcs : cs.length ≤ 4000) (hp : ∀ c ∈ cs, ¬ c < 0 ∧ ¬ (255 : Int32) < c) (SC : Sta Z Z.heap "java/lang/String" "COMPACT_STRINGS" "Z" (.int cz)) (hcz : ¬ cz = (0 : Int32)) (SF : Sta Z Z.heap "jdk/internal/util/Preconditions" "SIOOBE_FORMATTER" "Ljava/util/function/BiFunction;" fm) (hfm : fm.isRef = true) :
    MetFree l own_m15 (head1 (Jvm.Cond.code own_m15 jdk_42_method_56_code 2 (some .char) :: ws) ({ frames := 3, cells := 0, slots := 0, locals := 40 } : Room)) (fun ar_ U => ar_ = #[(.ref x), (.int jj)] ∧ Z.Warmed39 U.vm ∧ U.heap = h0) (fun _ _ _ _ _ => True) (fun _ U o U' => ∃ v L, o = .returned v ∧ Q_chat Z x t kt cs jj ii cz fm h0 n0 v U'.heap L ∧ FrameEnd U o U' L ({ frames := 3, cells := 0, slots := 0, locals := 40 } : Room).cells ({ frames := 3, cells := 0, slots := 0, locals := 40 } : Room).slots) := by
  refine MetFree.of_bodySF (plainFor_of_name pn_0) hisR ?_
  intro p e s m args below meth c s₁ Bd hml0 hP hK
  obtain ⟨rfl, hZ, hh⟩ := hP
  have hx := Bd.exec
  have hby := Bd.bytes
  have hml : c.maxLocals = 2 := hml0
  have hown : s.vm.findClass "java/lang/String" = some m.cls := findClass_of_methodNamed Bd.named
  have hnm := (name_of_methodNamed Bd.named Bd.method).1
  have X0 : Stand p l e ({ frames := 3, cells := 0, slots := 0, locals := 40 } : Room) s m #[(.ref x), (.int jj)] below meth c s₁ [] 0 0 := Stand.of_body Bd
  have e0 : s₁.heap = h0 := by rw [← hh, Bd.state]; rfl
  have N0 := Fr.nil n0
  have hret := Bd.returns
  have hlk : meth.locks = false := Bd.notSynchronized
  show own_E p e below s ({ frames := 3, cells := 0, slots := 0, locals := 40 } : Room).cells ({ frames := 3, cells := 0, slots := 0, locals := 40 } : Room).slots (Q_chat Z x t kt cs jj ii cz fm h0 n0) s₁ (entryFrame m #[(.ref x), (.int jj)] 2)
  rw [ef_chat m x jj]
  subst hjj
  have qi : ii ≤ 4000 := by omega
  refine own_st (T' := s₁) (g' := (mkF m 1 #[rv x, iv (Int32.ofNat ii)] [(.ref x)])) (fun _ k_ => XS.aloadN X0.here hx rfl (hb hby d17_0) rfl rfl  k_) ?_
  obtain ⟨cq1, kq1, q1a, q1b, q1c⟩ := isOf hZ e0 E_x
  obtain ⟨_, T1, L1, X1, hQ1, st1⟩ := own_callV X0 hx (y := own_m2) (z := own_m2) hown (mvT hZ (wd hw 81 rfl)) (mvT hZ (wd hw 82 rfl)) (notFace_of_selects (args := #[]) (mvT hZ (wd hw 84 rfl))) (mvT hZ (wd hw 84 rfl)) (mvT hZ (wd hw 83 rfl)) (by decide) (backOf (W := 0) (rm_isl1 l Z a0 hw [] x cz h0 n0 O0 E_x C_x SC hcz) hZ (wd hw 85 rfl) (wd hw 11 rfl) (by decide) (by decide)) q1a q1c (g := (mkF m 1 #[rv x, iv (Int32.ofNat ii)] [(.ref x)])) rfl (by rw [hml]; rfl) (argsL := []) (rest := []) (lenOf pd___Z rfl) rfl (by show 2 * 0 + _ ≤ _; exact Nat.le_of_eq rfl) (hb hby d17_1) rfl e0 (by decide) (by decide) (c' := 0) (s' := 0) rfl rfl
  clear q1a q1b q1c kq1 cq1
  obtain ⟨rfl, Nq1, eq1⟩ := hQ1
  have N1 := Fr.app N0 Nq1
  refine own_st (T' := T1) (g' := (mkF m 4 #[rv x, iv (Int32.ofNat ii)] [(.int (1 : Int32))])) st1 ?_
  clear st1
  refine own_st (T' := T1) (g' := (mkF m 7 #[rv x, iv (Int32.ofNat ii)] [])) (fun _ k_ => XS.ifNo X1.here hx rfl (hb hby d17_4) rfl ((if0 _ _).trans (feq (by decide : ¬ ((1 : Int32) = (0 : Int32)))).1) k_) ?_
  refine own_st (T' := T1) (g' := (mkF m 8 #[rv x, iv (Int32.ofNat ii)] [(.ref x)])) (fun _ k_ => XS.aloadN X1.here hx rfl (hb hby d17_7) rfl rfl  k_) ?_
  obtain ⟨T2, X2, e2, st2⟩ := getF X1 hx hZ hown (host := "") (Or.inl (wd hw 28 rfl)) Via.refl eq1 V_x (g := (mkF m 8 #[rv x, iv (Int32.ofNat ii)] [(.ref x)])) rfl rfl (hb hby d17_8)
  refine own_st (T' := T2) (g' := (mkF m 11 #[rv x, iv (Int32.ofNat ii)] [(.ref t)])) st2 ?_
  clear st2
  refine own_st (T' := T2) (g' := (mkF m 12 #[rv x, iv (Int32.ofNat ii)] [(.int (Int32.ofNat ii)), (.ref t)])) (fun _ k_ => XS.iloadN X2.here hx rfl (hb hby d17_11) rfl  k_) ?_
  obtain ⟨_, T3, L3, X3, hQ3, st3⟩ := own_callS X2 hx (y := own_m14) hown (mvT hZ (wd hw 86 rfl)) (mvT hZ (wd hw 87 rfl)) (mvT hZ (wd hw 88 rfl)) (mvT hZ (wd hw 89 rfl)) (by decide) (backOf (W := 0) (rm_l1ch l Z a0 hw [] t kt cs (Int32.ofNat ii) ii fm h0 n0 O0 A_x rfl hii lcs hp SF hfm) hZ (wd hw 89 rfl) (wd hw 88 rfl) (by decide) (by decide)) (g := (mkF m 12 #[rv x, iv (Int32.ofNat ii)] [(.int (Int32.ofNat ii)), (.ref t)])) rfl (by rw [hml]; rfl) (argsL := [(.ref t), (.int (Int32.ofNat ii))]) (rest := []) (lenOf pd___BI_C rfl) rfl (by show 2 * 0 + _ ≤ _; exact Nat.le_of_eq rfl) (hb hby d17_12) rfl e2 (by decide) (by decide) (c' := 0) (s' := 0) rfl rfl
  obtain ⟨rfl, Nq3, eq3⟩ := hQ3
  have N3 := Fr.app N1 Nq3
  refine own_st (T' := T3) (g' := (mkF m 15 #[rv x, iv (Int32.ofNat ii)] [(.int (List.getD cs ii 0))])) st3 ?_
  clear st3
  exact own_retN X3 hx (t := .char) hret (by simp) hlk (hb hby d17_15) (by decide) (by decide) ⟨congrArg (fun z => some (Value.int z)) (own_nch (hp _ (own_chm cs ii hii))), N3, eq3⟩
def own_wb (c : Int32) : Bool := c == 32 || c == 9
def own_is : List Int32 → Nat
  | [] => 0
  | c :: r => if own_wb c then own_is r + 1 else 0
theorem own_isL : ∀ cs : List Int32, own_is cs ≤ cs.length
  | [] => Nat.le_refl _
  | c :: r => by have := own_isL r; unfold own_is; split <;> simp only [List.length_cons] <;> omega
theorem own_isA : ∀ (cs : List Int32) (i : Nat), i < own_is cs → own_wb (cs.getD i 0) = true
  | [], i, h => by simp [own_is] at h
  | c :: r, i, h => by
    unfold own_is at h
    split at h
    · cases i with
      | zero => simpa using ‹own_wb c = true›
      | succ i => have := own_isA r i (by omega); simpa using this
    · omega
theorem own_isB : ∀ cs : List Int32, own_is cs < cs.length → own_wb (cs.getD (own_is cs) 0) = false
  | [], h => by simp at h
  | c :: r, h => by
    unfold own_is at h ⊢
    split
    · rename_i q
      rw [if_pos q] at h
      have := own_isB r (by simp only [List.length_cons] at h; omega)
      simpa using this
    · simpa using ‹¬ own_wb c = true›
def own_ie (cs : List Int32) : Nat := if own_is cs = cs.length then cs.length else cs.length - own_is cs.reverse
theorem own_rev (cs : List Int32) (i : Nat) (h : i < cs.length) : cs.reverse.getD i 0 = cs.getD (cs.length - 1 - i) 0 := by
  have q : cs.length - 1 - i < cs.length := by omega
  simp [List.getD_eq_getElem?_getD, List.getElem?_reverse, h, q]
theorem own_ieL (cs : List Int32) : own_ie cs ≤ cs.length := by unfold own_ie; split <;> omega
theorem own_ieA (cs : List Int32) (i : Nat) (h : own_ie cs ≤ i) (q : i < cs.length) : own_wb (cs.getD i 0) = true := by
  unfold own_ie at h
  split at h
  · omega
  · have e := own_isA cs.reverse (cs.length - 1 - i) (by omega)
    rw [own_rev cs _ (by omega), show cs.length - 1 - (cs.length - 1 - i) = i by omega] at e
    exact e
theorem own_ieB (cs : List Int32) (h : own_is cs < cs.length) : own_is cs < own_ie cs ∧ own_wb (cs.getD (own_ie cs - 1) 0) = false := by
  have z := own_isB cs h
  have k : own_is cs < own_ie cs := by
    by_cases q : own_is cs < own_ie cs
    · exact q
    · have := own_ieA cs (own_is cs) (by omega) h; rw [z] at this; cases this
  refine ⟨k, ?_⟩
  have e : own_ie cs = cs.length - own_is cs.reverse := by unfold own_ie; rw [if_neg (by omega)]
  have e2 := own_isL cs.reverse
  rw [List.length_reverse] at e2
  have l := own_ieL cs
  have r := own_isB cs.reverse (by rw [List.length_reverse]; omega)
  rw [own_rev cs _ (by omega)] at r
  rw [e, show cs.length - own_is cs.reverse - 1 = cs.length - 1 - own_is cs.reverse by omega]
  exact r
theorem own_isie (cs : List Int32) : own_is cs ≤ own_ie cs := by
  by_cases q : own_is cs < cs.length
  · exact Nat.le_of_lt (own_ieB cs q).1
  · have := own_isL cs; unfold own_ie; split <;> omega
theorem own_all (cs : List Int32) (h : ¬ own_is cs < own_ie cs) : own_is cs = cs.length ∧ own_ie cs = own_is cs := by
  have := own_isL cs; have := own_ieL cs; have := own_isie cs
  by_cases q : own_is cs < cs.length
  · exact absurd (own_ieB cs q).1 h
  · omega
theorem own_w9 {c : Int32} (h : own_wb c = true) (q : ¬ c = 32) : c = 9 := by
  unfold own_wb at h; simp [q] at h; exact h
theorem own_n32 {c : Int32} (h : own_wb c = false) : ¬ c = 32 := fun q => by subst q; cases h
theorem own_n9 {c : Int32} (h : own_wb c = false) : ¬ c = 9 := fun q => by subst q; cases h
theorem own_on1 {i : Nat} (h : i + 1 ≤ 4000) : Int32.ofNat i + (1 : Int32) = Int32.ofNat (i + 1) := own_oadd (j := 1) h
theorem own_onS {j : Nat} (h : 1 ≤ j) (q : j ≤ 4000) : Int32.ofNat j - (1 : Int32) = Int32.ofNat (j - 1) := own_osub (i := 1) h q
theorem own_onm {j : Nat} (h : 1 ≤ j) (q : j ≤ 4000) : Int32.ofNat j + (-1 : Int32) = Int32.ofNat (j - 1) := by
  rw [← own_onS h q]
  have k := c_isub (Int32.ofNat j) 1
  have k2 := c_iadd (Int32.ofNat j) (-1)
  have z1 : (1 : Int32).toInt = 1 := rfl
  have z2 : (-1 : Int32).toInt = -1 := rfl
  have b1 := (Int32.ofNat j - 1).le_toInt; have b2 := (Int32.ofNat j - 1).toInt_lt
  have b3 := (Int32.ofNat j + (-1)).le_toInt; have b4 := (Int32.ofNat j + (-1)).toInt_lt
  have e := own_on q
  exact Int32.toInt_inj.mp (by omega)

def Q_strip (Z : State) (x : Addr) (t : Addr) (kt : ClassId) (cs : List Int32) (cz : Int32) (fm : Value) (h0 : Heap) (n0 : Nat) (v : Option Value) (h : Heap) (L : List Loc) : Prop := ∃ (r : Addr) (u : Addr) (ku : ClassId), (v = some (.ref r)) ∧ (Fr n0 L) ∧ (Keep h0 h []) ∧ (Exa Z h r "java/lang/String") ∧ (Fld Z h r "java/lang/String" "coder" "B" (.int (0 : Int32))) ∧ (Fld Z h r "java/lang/String" "value" "[B" (.ref u)) ∧ (Arv Z h u ku .byte (Int32.ofNat (own_sub cs (own_is cs) (own_ie cs)).length) (((own_sub cs (own_is cs) (own_ie cs)).map StrChars.lo8).map Value.int) (.int (0 : Int32)))
theorem d6_7 : decode prog_12_method_4_code 7 = .ok (.iload_n 1, 1) := by decide +kernel
theorem d6_8 : decode prog_12_method_4_code 8 = .ok (.iload_n 2, 1) := by decide +kernel
theorem d6_9 : decode prog_12_method_4_code 9 = .ok (.if_icmp .ge 29, 3) := by decide +kernel
theorem d6_12 : decode prog_12_method_4_code 12 = .ok (.aload_n 0, 1) := by decide +kernel
theorem d6_13 : decode prog_12_method_4_code 13 = .ok (.iload_n 1, 1) := by decide +kernel
theorem d6_14 : decode prog_12_method_4_code 14 = .ok (.invokevirtual 51, 3) := by decide +kernel
theorem d6_17 : decode prog_12_method_4_code 17 = .ok (.bipush 32, 2) := by decide +kernel
theorem d6_19 : decode prog_12_method_4_code 19 = .ok (.if_icmp .eq 13, 3) := by decide +kernel
theorem d6_22 : decode prog_12_method_4_code 22 = .ok (.aload_n 0, 1) := by decide +kernel
theorem d6_23 : decode prog_12_method_4_code 23 = .ok (.iload_n 1, 1) := by decide +kernel
theorem d6_24 : decode prog_12_method_4_code 24 = .ok (.invokevirtual 51, 3) := by decide +kernel
theorem d6_27 : decode prog_12_method_4_code 27 = .ok (.bipush 9, 2) := by decide +kernel
theorem d6_29 : decode prog_12_method_4_code 29 = .ok (.if_icmp .ne 9, 3) := by decide +kernel
theorem d6_32 : decode prog_12_method_4_code 32 = .ok (.iinc 1 1, 3) := by decide +kernel
theorem d6_35 : decode prog_12_method_4_code 35 = .ok (.goto (-28), 3) := by decide +kernel
theorem pd__I_C : parseMethodDescriptor "(I)C" = some ⟨[.int], some .char⟩ := by decide +kernel
set_option maxRecDepth 65536 in
set_option maxHeartbeats 40000000 in
theorem seg_l1 {p : Program} {l : Launch} {e : Env} {s : State} {m : MethodId} {args : Array Value} {below : List Frame} {meth : Method} {c : Code} {T0 : State} {locs : List Loc} {Z : State} {a0 : Array Value} {vm0 : Vm} {k0 : Nat} (h0 : Heap) (hB : Heap) (n0 : Nat) (x : Addr) (t : Addr) (kt : ClassId) (cs : List Int32) (i : Nat) (cz : Int32) (fm : Value)
    (X0 : Stand p l e ({ frames := 5, cells := 2, slots := 8, locals := 102 } : Room) (s.setVm vm0) m args below meth c T0 locs 0 0) (hx : p.tables.exec = Jvm.exec) (hZs : Z.Warmed39 s.vm) (hZ : Z.Warmed39 (s.setVm vm0).vm) (hS0 : s.Since vm0 k0) (hk0 : k0 ≤ hB.size) (CR0 : CHr Z consts_1 s.vm h0 vm0 hB) (hw : ∀ d ∈ tables_1, d.before a0 Z = true) (hby : c.code = prog_12_method_4_code) (hml : c.maxLocals = 3) (howns : s.vm.findClass "com/example/sheafgate/sheafgate/http/RequestFields" = some m.cls) (hown : (s.setVm vm0).vm.findClass "com/example/sheafgate/sheafgate/http/RequestFields" = some m.cls) (hnm : meth.name = "strip") (hret : meth.sig.returnType = some (.object "java/lang/String")) (hlk : meth.locks = false) (e0 : T0.heap = hB) (N0 : Fr n0 locs) (O0 : Old Z n0 hB) (E_x : Exa Z hB x "java/lang/String") (V_x : Fld Z hB x "java/lang/String" "value" "[B" (.ref t)) (C_x : Fld Z hB x "java/lang/String" "coder" "B" (.int (0 : Int32))) (A_x : Arv Z hB t kt .byte (Int32.ofNat cs.length) ((cs.map StrChars.lo8).map Value.int) (.int (0 : Int32))) (hp : ∀ c ∈ cs, ¬ c < 0 ∧ ¬ (255 : Int32) < c) (lcs : cs.length ≤ 4) (SC : Sta Z Z.heap "java/lang/String" "COMPACT_STRINGS" "Z" (.int cz)) (hcz : ¬ cz = (0 : Int32)) (SF : Sta Z Z.heap "jdk/internal/util/Preconditions" "SIOOBE_FORMATTER" "Ljava/util/function/BiFunction;" fm) (hfm : fm.isRef = true) (hl1 : own_is cs ≤ cs.length) (hl2 : own_ie cs ≤ cs.length) (hl3 : own_is cs ≤ own_ie cs) (hi_ : i < own_is cs) (K : ∀ (T : State) (locs : List Loc), Stand p l e ({ frames := 5, cells := 2, slots := 8, locals := 102 } : Room) (s.setVm vm0) m args below meth c T locs 0 0 → T.heap = hB → Fr n0 locs → own_W p e below s ({ frames := 5, cells := 2, slots := 8, locals := 102 } : Room).cells ({ frames := 5, cells := 2, slots := 8, locals := 102 } : Room).slots Z consts_1 h0 (Q_strip Z x t kt cs cz fm h0 n0) T (mkF m 7 #[rv x, iv (Int32.ofNat (i + 1)), iv (Int32.ofNat cs.length)] [])) :
    own_W p e below s ({ frames := 5, cells := 2, slots := 8, locals := 102 } : Room).cells ({ frames := 5, cells := 2, slots := 8, locals := 102 } : Room).slots Z consts_1 h0 (Q_strip Z x t kt cs cz fm h0 n0) T0 (mkF m 7 #[rv x, iv (Int32.ofNat i), iv (Int32.ofNat cs.length)] []) := by
  have hEL := own_EW hw
  refine own_stW (T' := T0) (g' := (mkF m 8 #[rv x, iv (Int32.ofNat i), iv (Int32.ofNat cs.length)] [(.int (Int32.ofNat i))])) (fun _ k_ => XS.iloadN X0.here hx rfl (hb hby d6_7) rfl  k_) ?_
  refine own_stW (T' := T0) (g' := (mkF m 9 #[rv x, iv (Int32.ofNat i), iv (Int32.ofNat cs.length)] [(.int (Int32.ofNat cs.length)), (.int (Int32.ofNat i))])) (fun _ k_ => XS.iloadN X0.here hx rfl (hb hby d6_8) rfl  k_) ?_
  refine own_stW (T' := T0) (g' := (mkF m 12 #[rv x, iv (Int32.ofNat i), iv (Int32.ofNat cs.length)] [])) (fun _ k_ => XS.icmpNo X0.here hx rfl (hb hby d6_9) rfl (tlt (((own_olt (by omega) (by omega)).mpr (by omega)) : (Int32.ofNat i) < (Int32.ofNat cs.length))).2.1 k_) ?_
  refine own_stW (T' := T0) (g' := (mkF m 13 #[rv x, iv (Int32.ofNat i), iv (Int32.ofNat cs.length)] [(.ref x)])) (fun _ k_ => XS.aloadN X0.here hx rfl (hb hby d6_12) rfl rfl  k_) ?_
  refine own_stW (T' := T0) (g' := (mkF m 14 #[rv x, iv (Int32.ofNat i), iv (Int32.ofNat cs.length)] [(.int (Int32.ofNat i)), (.ref x)])) (fun _ k_ => XS.iloadN X0.here hx rfl (hb hby d6_13) rfl  k_) ?_
  obtain ⟨cq1, kq1, q1a, q1b, q1c⟩ := isOf hZ e0 E_x
  obtain ⟨_, T1, L1, X1, hQ1, st1⟩ := own_callV X0 hx (y := own_m15) (z := own_m15) hown (mvT hZ (wd hw 76 rfl)) (mvT hZ (wd hw 77 rfl)) (notFace_of_selects (args := #[]) (mvT hZ (wd hw 79 rfl))) (mvT hZ (wd hw 79 rfl)) (mvT hZ (wd hw 78 rfl)) (by decide) (backOf (W := 0) (rm_chat l Z a0 hw [] x t kt cs (Int32.ofNat i) i cz fm hB n0 O0 E_x V_x C_x A_x rfl (by omega) (by omega) hp SC hcz SF hfm) hZ (wd hw 80 rfl) (wd hw 11 rfl) (by decide) (by decide)) q1a q1c (g := (mkF m 14 #[rv x, iv (Int32.ofNat i), iv (Int32.ofNat cs.length)] [(.int (Int32.ofNat i)), (.ref x)])) rfl (by rw [hml]; rfl) (argsL := [(.int (Int32.ofNat i))]) (rest := []) (lenOf pd__I_C rfl) rfl (by show 2 * 0 + _ ≤ _; exact Nat.le_of_eq rfl) (hb hby d6_14) rfl e0 (by decide) (by decide) (c' := 0) (s' := 0) rfl rfl
  clear q1a q1b q1c kq1 cq1
  obtain ⟨rfl, Nq1, eq1⟩ := hQ1
  have N1 := Fr.app N0 Nq1
  refine own_stW (T' := T1) (g' := (mkF m 17 #[rv x, iv (Int32.ofNat i), iv (Int32.ofNat cs.length)] [(.int (List.getD cs i 0))])) st1 ?_
  clear st1
  refine own_stW (T' := T1) (g' := (mkF m 19 #[rv x, iv (Int32.ofNat i), iv (Int32.ofNat cs.length)] [(.int (32 : Int32)), (.int (List.getD cs i 0))])) (fun _ k_ => XS.bipush X1.here hx rfl (hb hby d6_17) k_) ?_
  by_cases hc2 : (List.getD cs i 0) = (32 : Int32)
  · refine own_stW (T' := T1) (g' := (mkF m 32 #[rv x, iv (Int32.ofNat i), iv (Int32.ofNat cs.length)] [])) (fun _ k_ => XS.icmpYes X1.here hx rfl (pc0 := 19) (pc' := 32) rfl (hb hby d6_19) rfl (teq hc2).1 (by decide) (by decide) k_) ?_
    refine own_stW (T' := T1) (g' := (mkF m 35 #[rv x, iv ((Int32.ofNat i) + (1 : Int32)), iv (Int32.ofNat cs.length)] [])) (fun _ k_ => XS.iinc X1.here hx rfl (hb hby d6_32) rfl (l' := #[rv x, iv ((Int32.ofNat i) + (1 : Int32)), iv (Int32.ofNat cs.length)]) rfl k_) ?_
    refine own_stW (T' := T1) (g' := (mkF m 7 #[rv x, iv ((Int32.ofNat i) + (1 : Int32)), iv (Int32.ofNat cs.length)] [])) (fun _ k_ => XS.goto X1.here hx rfl (pc0 := 35) (pc' := 7) rfl (hb hby d6_35) (by decide) (by decide) k_) ?_
    rw [own_on1 (by omega)]
    exact K T1 _ X1 eq1 N1
  · refine own_stW (T' := T1) (g' := (mkF m 22 #[rv x, iv (Int32.ofNat i), iv (Int32.ofNat cs.length)] [])) (fun _ k_ => XS.icmpNo X1.here hx rfl (hb hby d6_19) rfl (feq hc2).1 k_) ?_
    refine own_stW (T' := T1) (g' := (mkF m 23 #[rv x, iv (Int32.ofNat i), iv (Int32.ofNat cs.length)] [(.ref x)])) (fun _ k_ => XS.aloadN X1.here hx rfl (hb hby d6_22) rfl rfl  k_) ?_
    refine own_stW (T' := T1) (g' := (mkF m 24 #[rv x, iv (Int32.ofNat i), iv (Int32.ofNat cs.length)] [(.int (Int32.ofNat i)), (.ref x)])) (fun _ k_ => XS.iloadN X1.here hx rfl (hb hby d6_23) rfl  k_) ?_
    obtain ⟨cq3, kq3, q3a, q3b, q3c⟩ := isOf hZ eq1 E_x
    obtain ⟨_, T3, L3, X3, hQ3, st3⟩ := own_callV X1 hx (y := own_m15) (z := own_m15) hown (mvT hZ (wd hw 76 rfl)) (mvT hZ (wd hw 77 rfl)) (notFace_of_selects (args := #[]) (mvT hZ (wd hw 79 rfl))) (mvT hZ (wd hw 79 rfl)) (mvT hZ (wd hw 78 rfl)) (by decide) (backOf (W := 0) (rm_chat l Z a0 hw [] x t kt cs (Int32.ofNat i) i cz fm hB n0 O0 E_x V_x C_x A_x rfl (by omega) (by omega) hp SC hcz SF hfm) hZ (wd hw 80 rfl) (wd hw 11 rfl) (by decide) (by decide)) q3a q3c (g := (mkF m 24 #[rv x, iv (Int32.ofNat i), iv (Int32.ofNat cs.length)] [(.int (Int32.ofNat i)), (.ref x)])) rfl (by rw [hml]; rfl) (argsL := [(.int (Int32.ofNat i))]) (rest := []) (lenOf pd__I_C rfl) rfl (by show 2 * 0 + _ ≤ _; exact Nat.le_of_eq rfl) (hb hby d6_24) rfl eq1 (by decide) (by decide) (c' := 0) (s' := 0) rfl rfl
    clear q3a q3b q3c kq3 cq3
    obtain ⟨rfl, Nq3, eq3⟩ := hQ3
    have N3 := Fr.app N1 Nq3
    refine own_stW (T' := T3) (g' := (mkF m 27 #[rv x, iv (Int32.ofNat i), iv (Int32.ofNat cs.length)] [(.int (List.getD cs i 0))])) st3 ?_
    clear st3
    refine own_stW (T' := T3) (g' := (mkF m 29 #[rv x, iv (Int32.ofNat i), iv (Int32.ofNat cs.length)] [(.int (9 : Int32)), (.int (List.getD cs i 0))])) (fun _ k_ => XS.bipush X3.here hx rfl (hb hby d6_27) k_) ?_
    refine own_stW (T' := T3) (g' := (mkF m 32 #[rv x, iv (Int32.ofNat i), iv (Int32.ofNat cs.length)] [])) (fun _ k_ => XS.icmpNo X3.here hx rfl (hb hby d6_29) rfl (teq ((own_w9 (own_isA cs i hi_) hc2) : (List.getD cs i 0) = (9 : Int32))).2 k_) ?_
    refine own_stW (T' := T3) (g' := (mkF m 35 #[rv x, iv ((Int32.ofNat i) + (1 : Int32)), iv (Int32.ofNat cs.length)] [])) (fun _ k_ => XS.iinc X3.here hx rfl (hb hby d6_32) rfl (l' := #[rv x, iv ((Int32.ofNat i) + (1 : Int32)), iv (Int32.ofNat cs.length)]) rfl k_) ?_
    refine own_stW (T' := T3) (g' := (mkF m 7 #[rv x, iv ((Int32.ofNat i) + (1 : Int32)), iv (Int32.ofNat cs.length)] [])) (fun _ k_ => XS.goto X3.here hx rfl (pc0 := 35) (pc' := 7) rfl (hb hby d6_35) (by decide) (by decide) k_) ?_
    rw [own_on1 (by omega)]
    exact K T3 _ X3 eq3 N3
set_option maxRecDepth 65536 in
set_option maxHeartbeats 40000000 in
theorem seg_e1 {p : Program} {l : Launch} {e : Env} {s : State} {m : MethodId} {args : Array Value} {below : List Frame} {meth : Method} {c : Code} {T0 : State} {locs : List Loc} {Z : State} {a0 : Array Value} {vm0 : Vm} {k0 : Nat} (h0 : Heap) (hB : Heap) (n0 : Nat) (x : Addr) (t : Addr) (kt : ClassId) (cs : List Int32) (cz : Int32) (fm : Value)
    (X0 : Stand p l e ({ frames := 5, cells := 2, slots := 8, locals := 102 } : Room) (s.setVm vm0) m args below meth c T0 locs 0 0) (hx : p.tables.exec = Jvm.exec) (hZs : Z.Warmed39 s.vm) (hZ : Z.Warmed39 (s.setVm vm0).vm) (hS0 : s.Since vm0 k0) (hk0 : k0 ≤ hB.size) (CR0 : CHr Z consts_1 s.vm h0 vm0 hB) (hw : ∀ d ∈ tables_1, d.before a0 Z = true) (hby : c.code = prog_12_method_4_code) (hml : c.maxLocals = 3) (howns : s.vm.findClass "com/example/sheafgate/sheafgate/http/RequestFields" = some m.cls) (hown : (s.setVm vm0).vm.findClass "com/example/sheafgate/sheafgate/http/RequestFields" = some m.cls) (hnm : meth.name = "strip") (hret : meth.sig.returnType = some (.object "java/lang/String")) (hlk : meth.locks = false) (e0 : T0.heap = hB) (N0 : Fr n0 locs) (O0 : Old Z n0 hB) (E_x : Exa Z hB x "java/lang/String") (V_x : Fld Z hB x "java/lang/String" "value" "[B" (.ref t)) (C_x : Fld Z hB x "java/lang/String" "coder" "B" (.int (0 : Int32))) (A_x : Arv Z hB t kt .byte (Int32.ofNat cs.length) ((cs.map StrChars.lo8).map Value.int) (.int (0 : Int32))) (hp : ∀ c ∈ cs, ¬ c < 0 ∧ ¬ (255 : Int32) < c) (lcs : cs.length ≤ 4) (SC : Sta Z Z.heap "java/lang/String" "COMPACT_STRINGS" "Z" (.int cz)) (hcz : ¬ cz = (0 : Int32)) (SF : Sta Z Z.heap "jdk/internal/util/Preconditions" "SIOOBE_FORMATTER" "Ljava/util/function/BiFunction;" fm) (hfm : fm.isRef = true) (hl1 : own_is cs ≤ cs.length) (hl2 : own_ie cs ≤ cs.length) (hl3 : own_is cs ≤ own_ie cs) (K : ∀ (T : State) (locs : List Loc), Stand p l e ({ frames := 5, cells := 2, slots := 8, locals := 102 } : Room) (s.setVm vm0) m args below meth c T locs 0 0 → T.heap = hB → Fr n0 locs → own_W p e below s ({ frames := 5, cells := 2, slots := 8, locals := 102 } : Room).cells ({ frames := 5, cells := 2, slots := 8, locals := 102 } : Room).slots Z consts_1 h0 (Q_strip Z x t kt cs cz fm h0 n0) T (mkF m 38 #[rv x, iv (Int32.ofNat (own_is cs)), iv (Int32.ofNat cs.length)] [])) :
    own_W p e below s ({ frames := 5, cells := 2, slots := 8, locals := 102 } : Room).cells ({ frames := 5, cells := 2, slots := 8, locals := 102 } : Room).slots Z consts_1 h0 (Q_strip Z x t kt cs cz fm h0 n0) T0 (mkF m 7 #[rv x, iv (Int32.ofNat (own_is cs)), iv (Int32.ofNat cs.length)] []) := by
  have hEL := own_EW hw
  refine own_stW (T' := T0) (g' := (mkF m 8 #[rv x, iv (Int32.ofNat (own_is cs)), iv (Int32.ofNat cs.length)] [(.int (Int32.ofNat (own_is cs)))])) (fun _ k_ => XS.iloadN X0.here hx rfl (hb hby d6_7) rfl  k_) ?_
  refine own_stW (T' := T0) (g' := (mkF m 9 #[rv x, iv (Int32.ofNat (own_is cs)), iv (Int32.ofNat cs.length)] [(.int (Int32.ofNat cs.length)), (.int (Int32.ofNat (own_is cs)))])) (fun _ k_ => XS.iloadN X0.here hx rfl (hb hby d6_8) rfl  k_) ?_
  by_cases hc1 : (Int32.ofNat (own_is cs)) < (Int32.ofNat cs.length)
  · refine own_stW (T' := T0) (g' := (mkF m 12 #[rv x, iv (Int32.ofNat (own_is cs)), iv (Int32.ofNat cs.length)] [])) (fun _ k_ => XS.icmpNo X0.here hx rfl (hb hby d6_9) rfl (tlt hc1).2.1 k_) ?_
    refine own_stW (T' := T0) (g' := (mkF m 13 #[rv x, iv (Int32.ofNat (own_is cs)), iv (Int32.ofNat cs.length)] [(.ref x)])) (fun _ k_ => XS.aloadN X0.here hx rfl (hb hby d6_12) rfl rfl  k_) ?_
    refine own_stW (T' := T0) (g' := (mkF m 14 #[rv x, iv (Int32.ofNat (own_is cs)), iv (Int32.ofNat cs.length)] [(.int (Int32.ofNat (own_is cs))), (.ref x)])) (fun _ k_ => XS.iloadN X0.here hx rfl (hb hby d6_13) rfl  k_) ?_
    obtain ⟨cq2, kq2, q2a, q2b, q2c⟩ := isOf hZ e0 E_x
    obtain ⟨_, T2, L2, X2, hQ2, st2⟩ := own_callV X0 hx (y := own_m15) (z := own_m15) hown (mvT hZ (wd hw 76 rfl)) (mvT hZ (wd hw 77 rfl)) (notFace_of_selects (args := #[]) (mvT hZ (wd hw 79 rfl))) (mvT hZ (wd hw 79 rfl)) (mvT hZ (wd hw 78 rfl)) (by decide) (backOf (W := 0) (rm_chat l Z a0 hw [] x t kt cs (Int32.ofNat (own_is cs)) (own_is cs) cz fm hB n0 O0 E_x V_x C_x A_x rfl (by have hq := (own_olt (by omega) (by omega)).mp hc1; omega) (by omega) hp SC hcz SF hfm) hZ (wd hw 80 rfl) (wd hw 11 rfl) (by decide) (by decide)) q2a q2c (g := (mkF m 14 #[rv x, iv (Int32.ofNat (own_is cs)), iv (Int32.ofNat cs.length)] [(.int (Int32.ofNat (own_is cs))), (.ref x)])) rfl (by rw [hml]; rfl) (argsL := [(.int (Int32.ofNat (own_is cs)))]) (rest := []) (lenOf pd__I_C rfl) rfl (by show 2 * 0 + _ ≤ _; exact Nat.le_of_eq rfl) (hb hby d6_14) rfl e0 (by decide) (by decide) (c' := 0) (s' := 0) rfl rfl
    clear q2a q2b q2c kq2 cq2
    obtain ⟨rfl, Nq2, eq2⟩ := hQ2
    have N2 := Fr.app N0 Nq2
    refine own_stW (T' := T2) (g' := (mkF m 17 #[rv x, iv (Int32.ofNat (own_is cs)), iv (Int32.ofNat cs.length)] [(.int (List.getD cs (own_is cs) 0))])) st2 ?_
    clear st2
    refine own_stW (T' := T2) (g' := (mkF m 19 #[rv x, iv (Int32.ofNat (own_is cs)), iv (Int32.ofNat cs.length)] [(.int (32 : Int32)), (.int (List.getD cs (own_is cs) 0))])) (fun _ k_ => XS.bipush X2.here hx rfl (hb hby d6_17) k_) ?_
    refine own_stW (T' := T2) (g' := (mkF m 22 #[rv x, iv (Int32.ofNat (own_is cs)), iv (Int32.ofNat cs.length)] [])) (fun _ k_ => XS.icmpNo X2.here hx rfl (hb hby d6_19) rfl (feq ((own_n32 (own_isB cs ((own_olt (by omega) (by omega)).mp hc1))) : ¬ ((List.getD cs (own_is cs) 0) = (32 : Int32)))).1 k_) ?_
    refine own_stW (T' := T2) (g' := (mkF m 23 #[rv x, iv (Int32.ofNat (own_is cs)), iv (Int32.ofNat cs.length)] [(.ref x)])) (fun _ k_ => XS.aloadN X2.here hx rfl (hb hby d6_22) rfl rfl  k_) ?_
    refine own_stW (T' := T2) (g' := (mkF m 24 #[rv x, iv (Int32.ofNat (own_is cs)), iv (Int32.ofNat cs.length)] [(.int (Int32.ofNat (own_is cs))), (.ref x)])) (fun _ k_ => XS.iloadN X2.here hx rfl (hb hby d6_23) rfl  k_) ?_
    obtain ⟨cq3, kq3, q3a, q3b, q3c⟩ := isOf hZ eq2 E_x
    obtain ⟨_, T3, L3, X3, hQ3, st3⟩ := own_callV X2 hx (y := own_m15) (z := own_m15) hown (mvT hZ (wd hw 76 rfl)) (mvT hZ (wd hw 77 rfl)) (notFace_of_selects (args := #[]) (mvT hZ (wd hw 79 rfl))) (mvT hZ (wd hw 79 rfl)) (mvT hZ (wd hw 78 rfl)) (by decide) (backOf (W := 0) (rm_chat l Z a0 hw [] x t kt cs (Int32.ofNat (own_is cs)) (own_is cs) cz fm hB n0 O0 E_x V_x C_x A_x rfl (by have hq := (own_olt (by omega) (by omega)).mp hc1; omega) (by omega) hp SC hcz SF hfm) hZ (wd hw 80 rfl) (wd hw 11 rfl) (by decide) (by decide)) q3a q3c (g := (mkF m 24 #[rv x, iv (Int32.ofNat (own_is cs)), iv (Int32.ofNat cs.length)] [(.int (Int32.ofNat (own_is cs))), (.ref x)])) rfl (by rw [hml]; rfl) (argsL := [(.int (Int32.ofNat (own_is cs)))]) (rest := []) (lenOf pd__I_C rfl) rfl (by show 2 * 0 + _ ≤ _; exact Nat.le_of_eq rfl) (hb hby d6_24) rfl eq2 (by decide) (by decide) (c' := 0) (s' := 0) rfl rfl
    clear q3a q3b q3c kq3 cq3
    obtain ⟨rfl, Nq3, eq3⟩ := hQ3
    have N3 := Fr.app N2 Nq3
    refine own_stW (T' := T3) (g' := (mkF m 27 #[rv x, iv (Int32.ofNat (own_is cs)), iv (Int32.ofNat cs.length)] [(.int (List.getD cs (own_is cs) 0))])) st3 ?_
    clear st3
    refine own_stW (T' := T3) (g' := (mkF m 29 #[rv x, iv (Int32.ofNat (own_is cs)), iv (Int32.ofNat cs.length)] [(.int (9 : Int32)), (.int (List.getD cs (own_is cs) 0))])) (fun _ k_ => XS.bipush X3.here hx rfl (hb hby d6_27) k_) ?_
    refine own_stW (T' := T3) (g' := (mkF m 38 #[rv x, iv (Int32.ofNat (own_is cs)), iv (Int32.ofNat cs.length)] [])) (fun _ k_ => XS.icmpYes X3.here hx rfl (pc0 := 29) (pc' := 38) rfl (hb hby d6_29) rfl (feq ((own_n9 (own_isB cs ((own_olt (by omega) (by omega)).mp hc1))) : ¬ ((List.getD cs (own_is cs) 0) = (9 : Int32)))).2 (by decide) (by decide) k_) ?_
    exact K T3 _ X3 eq3 N3
  · refine own_stW (T' := T0) (g' := (mkF m 38 #[rv x, iv (Int32.ofNat (own_is cs)), iv (Int32.ofNat cs.length)] [])) (fun _ k_ => XS.icmpYes X0.here hx rfl (pc0 := 9) (pc' := 38) rfl (hb hby d6_9) rfl (flt hc1).2.1 (by decide) (by decide) k_) ?_
    exact K T0 _ X0 e0 N0
theorem d6_38 : decode prog_12_method_4_code 38 = .ok (.iload_n 2, 1) := by decide +kernel
theorem d6_39 : decode prog_12_method_4_code 39 = .ok (.iload_n 1, 1) := by decide +kernel
theorem d6_40 : decode prog_12_method_4_code 40 = .ok (.if_icmp .le 33, 3) := by decide +kernel
theorem d6_43 : decode prog_12_method_4_code 43 = .ok (.aload_n 0, 1) := by decide +kernel
theorem d6_44 : decode prog_12_method_4_code 44 = .ok (.iload_n 2, 1) := by decide +kernel
theorem d6_45 : decode prog_12_method_4_code 45 = .ok (.iconst 1, 1) := by decide +kernel
theorem d6_46 : decode prog_12_method_4_code 46 = .ok (.isub, 1) := by decide +kernel
theorem d6_47 : decode prog_12_method_4_code 47 = .ok (.invokevirtual 51, 3) := by decide +kernel
theorem d6_50 : decode prog_12_method_4_code 50 = .ok (.bipush 32, 2) := by decide +kernel
theorem d6_52 : decode prog_12_method_4_code 52 = .ok (.if_icmp .eq 15, 3) := by decide +kernel
theorem d6_55 : decode prog_12_method_4_code 55 = .ok (.aload_n 0, 1) := by decide +kernel
theorem d6_56 : decode prog_12_method_4_code 56 = .ok (.iload_n 2, 1) := by decide +kernel
theorem d6_57 : decode prog_12_method_4_code 57 = .ok (.iconst 1, 1) := by decide +kernel
theorem d6_58 : decode prog_12_method_4_code 58 = .ok (.isub, 1) := by decide +kernel
theorem d6_59 : decode prog_12_method_4_code 59 = .ok (.invokevirtual 51, 3) := by decide +kernel
theorem d6_62 : decode prog_12_method_4_code 62 = .ok (.bipush 9, 2) := by decide +kernel
theorem d6_64 : decode prog_12_method_4_code 64 = .ok (.if_icmp .ne 9, 3) := by decide +kernel
theorem d6_67 : decode prog_12_method_4_code 67 = .ok (.iinc 2 (-1), 3) := by decide +kernel
theorem d6_70 : decode prog_12_method_4_code 70 = .ok (.goto (-32), 3) := by decide +kernel
set_option maxRecDepth 65536 in
set_option maxHeartbeats 40000000 in
theorem seg_l2 {p : Program} {l : Launch} {e : Env} {s : State} {m : MethodId} {args : Array Value} {below : List Frame} {meth : Method} {c : Code} {T0 : State} {locs : List Loc} {Z : State} {a0 : Array Value} {vm0 : Vm} {k0 : Nat} (h0 : Heap) (hB : Heap) (n0 : Nat) (x : Addr) (t : Addr) (kt : ClassId) (cs : List Int32) (j : Nat) (cz : Int32) (fm : Value)
    (X0 : Stand p l e ({ frames := 5, cells := 2, slots := 8, locals := 102 } : Room) (s.setVm vm0) m args below meth c T0 locs 0 0) (hx : p.tables.exec = Jvm.exec) (hZs : Z.Warmed39 s.vm) (hZ : Z.Warmed39 (s.setVm vm0).vm) (hS0 : s.Since vm0 k0) (hk0 : k0 ≤ hB.size) (CR0 : CHr Z consts_1 s.vm h0 vm0 hB) (hw : ∀ d ∈ tables_1, d.before a0 Z = true) (hby : c.code = prog_12_method_4_code) (hml : c.maxLocals = 3) (howns : s.vm.findClass "com/example/sheafgate/sheafgate/http/RequestFields" = some m.cls) (hown : (s.setVm vm0).vm.findClass "com/example/sheafgate/sheafgate/http/RequestFields" = some m.cls) (hnm : meth.name = "strip") (hret : meth.sig.returnType = some (.object "java/lang/String")) (hlk : meth.locks = false) (e0 : T0.heap = hB) (N0 : Fr n0 locs) (O0 : Old Z n0 hB) (E_x : Exa Z hB x "java/lang/String") (V_x : Fld Z hB x "java/lang/String" "value" "[B" (.ref t)) (C_x : Fld Z hB x "java/lang/String" "coder" "B" (.int (0 : Int32))) (A_x : Arv Z hB t kt .byte (Int32.ofNat cs.length) ((cs.map StrChars.lo8).map Value.int) (.int (0 : Int32))) (hp : ∀ c ∈ cs, ¬ c < 0 ∧ ¬ (255 : Int32) < c) (lcs : cs.length ≤ 4) (SC : Sta Z Z.heap "java/lang/String" "COMPACT_STRINGS" "Z" (.int cz)) (hcz : ¬ cz = (0 : Int32)) (SF : Sta Z Z.heap "jdk/internal/util/Preconditions" "SIOOBE_FORMATTER" "Ljava/util/function/BiFunction;" fm) (hfm : fm.isRef = true) (hl1 : own_is cs ≤ cs.length) (hl2 : own_ie cs ≤ cs.length) (hl3 : own_is cs ≤ own_ie cs) (hj_ : own_ie cs < j) (hj2 : j ≤ cs.length) (K : ∀ (T : State) (locs : List Loc), Stand p l e ({ frames := 5, cells := 2, slots := 8, locals := 102 } : Room) (s.setVm vm0) m args below meth c T locs 0 0 → T.heap = hB → Fr n0 locs → own_W p e below s ({ frames := 5, cells := 2, slots := 8, locals := 102 } : Room).cells ({ frames := 5, cells := 2, slots := 8, locals := 102 } : Room).slots Z consts_1 h0 (Q_strip Z x t kt cs cz fm h0 n0) T (mkF m 38 #[rv x, iv (Int32.ofNat (own_is cs)), iv (Int32.ofNat (j - 1))] [])) :
    own_W p e below s ({ frames := 5, cells := 2, slots := 8, locals := 102 } : Room).cells ({ frames := 5, cells := 2, slots := 8, locals := 102 } : Room).slots Z consts_1 h0 (Q_strip Z x t kt cs cz fm h0 n0) T0 (mkF m 38 #[rv x, iv (Int32.ofNat (own_is cs)), iv (Int32.ofNat j)] []) := by
  have hEL := own_EW hw
  refine own_stW (T' := T0) (g' := (mkF m 39 #[rv x, iv (Int32.ofNat (own_is cs)), iv (Int32.ofNat j)] [(.int (Int32.ofNat j))])) (fun _ k_ => XS.iloadN X0.here hx rfl (hb hby d6_38) rfl  k_) ?_
  refine own_stW (T' := T0) (g' := (mkF m 40 #[rv x, iv (Int32.ofNat (own_is cs)), iv (Int32.ofNat j)] [(.int (Int32.ofNat (own_is cs))), (.int (Int32.ofNat j))])) (fun _ k_ => XS.iloadN X0.here hx rfl (hb hby d6_39) rfl  k_) ?_
  refine own_stW (T' := T0) (g' := (mkF m 43 #[rv x, iv (Int32.ofNat (own_is cs)), iv (Int32.ofNat j)] [])) (fun _ k_ => XS.icmpNo X0.here hx rfl (hb hby d6_40) rfl (tlt (((own_olt (by omega) (by omega)).mpr (by omega)) : (Int32.ofNat (own_is cs)) < (Int32.ofNat j))).2.2.2 k_) ?_
  refine own_stW (T' := T0) (g' := (mkF m 44 #[rv x, iv (Int32.ofNat (own_is cs)), iv (Int32.ofNat j)] [(.ref x)])) (fun _ k_ => XS.aloadN X0.here hx rfl (hb hby d6_43) rfl rfl  k_) ?_
  refine own_stW (T' := T0) (g' := (mkF m 45 #[rv x, iv (Int32.ofNat (own_is cs)), iv (Int32.ofNat j)] [(.int (Int32.ofNat j)), (.ref x)])) (fun _ k_ => XS.iloadN X0.here hx rfl (hb hby d6_44) rfl  k_) ?_
  refine own_stW (T' := T0) (g' := (mkF m 46 #[rv x, iv (Int32.ofNat (own_is cs)), iv (Int32.ofNat j)] [(.int (1 : Int32)), (.int (Int32.ofNat j)), (.ref x)])) (fun _ k_ => XS.iconst X0.here hx rfl (hb hby d6_45) k_) ?_
  refine own_stW (T' := T0) (g' := (mkF m 47 #[rv x, iv (Int32.ofNat (own_is cs)), iv (Int32.ofNat j)] [(.int ((Int32.ofNat j) - (1 : Int32))), (.ref x)])) (fun _ k_ => XS.isub X0.here hx rfl (hb hby d6_46) rfl k_) ?_
  rw [own_onS (by omega) (by omega)]
  obtain ⟨cq1, kq1, q1a, q1b, q1c⟩ := isOf hZ e0 E_x
  obtain ⟨_, T1, L1, X1, hQ1, st1⟩ := own_callV X0 hx (y := own_m15) (z := own_m15) hown (mvT hZ (wd hw 76 rfl)) (mvT hZ (wd hw 77 rfl)) (notFace_of_selects (args := #[]) (mvT hZ (wd hw 79 rfl))) (mvT hZ (wd hw 79 rfl)) (mvT hZ (wd hw 78 rfl)) (by decide) (backOf (W := 0) (rm_chat l Z a0 hw [] x t kt cs (Int32.ofNat (j - 1)) (j - 1) cz fm hB n0 O0 E_x V_x C_x A_x rfl (by omega) (by omega) hp SC hcz SF hfm) hZ (wd hw 80 rfl) (wd hw 11 rfl) (by decide) (by decide)) q1a q1c (g := (mkF m 47 #[rv x, iv (Int32.ofNat (own_is cs)), iv (Int32.ofNat j)] [(.int (Int32.ofNat (j - 1))), (.ref x)])) rfl (by rw [hml]; rfl) (argsL := [(.int (Int32.ofNat (j - 1)))]) (rest := []) (lenOf pd__I_C rfl) rfl (by show 2 * 0 + _ ≤ _; exact Nat.le_of_eq rfl) (hb hby d6_47) rfl e0 (by decide) (by decide) (c' := 0) (s' := 0) rfl rfl
  clear q1a q1b q1c kq1 cq1
  obtain ⟨rfl, Nq1, eq1⟩ := hQ1
  have N1 := Fr.app N0 Nq1
  refine own_stW (T' := T1) (g' := (mkF m 50 #[rv x, iv (Int32.ofNat (own_is cs)), iv (Int32.ofNat j)] [(.int (List.getD cs (j - 1) 0))])) st1 ?_
  clear st1
  refine own_stW (T' := T1) (g' := (mkF m 52 #[rv x, iv (Int32.ofNat (own_is cs)), iv (Int32.ofNat j)] [(.int (32 : Int32)), (.int (List.getD cs (j - 1) 0))])) (fun _ k_ => XS.bipush X1.here hx rfl (hb hby d6_50) k_) ?_
  by_cases hc2 : (List.getD cs (j - 1) 0) = (32 : Int32)
  · refine own_stW (T' := T1) (g' := (mkF m 67 #[rv x, iv (Int32.ofNat (own_is cs)), iv (Int32.ofNat j)] [])) (fun _ k_ => XS.icmpYes X1.here hx rfl (pc0 := 52) (pc' := 67) rfl (hb hby d6_52) rfl (teq hc2).1 (by decide) (by decide) k_) ?_
    refine own_stW (T' := T1) (g' := (mkF m 70 #[rv x, iv (Int32.ofNat (own_is cs)), iv ((Int32.ofNat j) + (-1 : Int32))] [])) (fun _ k_ => XS.iinc X1.here hx rfl (hb hby d6_67) rfl (l' := #[rv x, iv (Int32.ofNat (own_is cs)), iv ((Int32.ofNat j) + (-1 : Int32))]) rfl k_) ?_
    refine own_stW (T' := T1) (g' := (mkF m 38 #[rv x, iv (Int32.ofNat (own_is cs)), iv ((Int32.ofNat j) + (-1 : Int32))] [])) (fun _ k_ => XS.goto X1.here hx rfl (pc0 := 70) (pc' := 38) rfl (hb hby d6_70) (by decide) (by decide) k_) ?_
    rw [own_onm (by omega) (by omega)]
    exact K T1 _ X1 eq1 N1
  · refine own_stW (T' := T1) (g' := (mkF m 55 #[rv x, iv (Int32.ofNat (own_is cs)), iv (Int32.ofNat j)] [])) (fun _ k_ => XS.icmpNo X1.here hx rfl (hb hby d6_52) rfl (feq hc2).1 k_) ?_
    refine own_stW (T' := T1) (g' := (mkF m 56 #[rv x, iv (Int32.ofNat (own_is cs)), iv (Int32.ofNat j)] [(.ref x)])) (fun _ k_ => XS.aloadN X1.here hx rfl (hb hby d6_55) rfl rfl  k_) ?_
    refine own_stW (T' := T1) (g' := (mkF m 57 #[rv x, iv (Int32.ofNat (own_is cs)), iv (Int32.ofNat j)] [(.int (Int32.ofNat j)), (.ref x)])) (fun _ k_ => XS.iloadN X1.here hx rfl (hb hby d6_56) rfl  k_) ?_
    refine own_stW (T' := T1) (g' := (mkF m 58 #[rv x, iv (Int32.ofNat (own_is cs)), iv (Int32.ofNat j)] [(.int (1 : Int32)), (.int (Int32.ofNat j)), (.ref x)])) (fun _ k_ => XS.iconst X1.here hx rfl (hb hby d6_57) k_) ?_
    refine own_stW (T' := T1) (g' := (mkF m 59 #[rv x, iv (Int32.ofNat (own_is cs)), iv (Int32.ofNat j)] [(.int ((Int32.ofNat j) - (1 : Int32))), (.ref x)])) (fun _ k_ => XS.isub X1.here hx rfl (hb hby d6_58) rfl k_) ?_
    rw [own_onS (by omega) (by omega)]
    obtain ⟨cq3, kq3, q3a, q3b, q3c⟩ := isOf hZ eq1 E_x
    obtain ⟨_, T3, L3, X3, hQ3, st3⟩ := own_callV X1 hx (y := own_m15) (z := own_m15) hown (mvT hZ (wd hw 76 rfl)) (mvT hZ (wd hw 77 rfl)) (notFace_of_selects (args := #[]) (mvT hZ (wd hw 79 rfl))) (mvT hZ (wd hw 79 rfl)) (mvT hZ (wd hw 78 rfl)) (by decide) (backOf (W := 0) (rm_chat l Z a0 hw [] x t kt cs (Int32.ofNat (j - 1)) (j - 1) cz fm hB n0 O0 E_x V_x C_x A_x rfl (by omega) (by omega) hp SC hcz SF hfm) hZ (wd hw 80 rfl) (wd hw 11 rfl) (by decide) (by decide)) q3a q3c (g := (mkF m 59 #[rv x, iv (Int32.ofNat (own_is cs)), iv (Int32.ofNat j)] [(.int (Int32.ofNat (j - 1))), (.ref x)])) rfl (by rw [hml]; rfl) (argsL := [(.int (Int32.ofNat (j - 1)))]) (rest := []) (lenOf pd__I_C rfl) rfl (by show 2 * 0 + _ ≤ _; exact Nat.le_of_eq rfl) (hb hby d6_59) rfl eq1 (by decide) (by decide) (c' := 0) (s' := 0) rfl rfl
    clear q3a q3b q3c kq3 cq3
    obtain ⟨rfl, Nq3, eq3⟩ := hQ3
    have N3 := Fr.app N1 Nq3
    refine own_stW (T' := T3) (g' := (mkF m 62 #[rv x, iv (Int32.ofNat (own_is cs)), iv (Int32.ofNat j)] [(.int (List.getD cs (j - 1) 0))])) st3 ?_
    clear st3
    refine own_stW (T' := T3) (g' := (mkF m 64 #[rv x, iv (Int32.ofNat (own_is cs)), iv (Int32.ofNat j)] [(.int (9 : Int32)), (.int (List.getD cs (j - 1) 0))])) (fun _ k_ => XS.bipush X3.here hx rfl (hb hby d6_62) k_) ?_
    refine own_stW (T' := T3) (g' := (mkF m 67 #[rv x, iv (Int32.ofNat (own_is cs)), iv (Int32.ofNat j)] [])) (fun _ k_ => XS.icmpNo X3.here hx rfl (hb hby d6_64) rfl (teq ((own_w9 (own_ieA cs (j - 1) (by omega) (by omega)) hc2) : (List.getD cs (j - 1) 0) = (9 : Int32))).2 k_) ?_
    refine own_stW (T' := T3) (g' := (mkF m 70 #[rv x, iv (Int32.ofNat (own_is cs)), iv ((Int32.ofNat j) + (-1 : Int32))] [])) (fun _ k_ => XS.iinc X3.here hx rfl (hb hby d6_67) rfl (l' := #[rv x, iv (Int32.ofNat (own_is cs)), iv ((Int32.ofNat j) + (-1 : Int32))]) rfl k_) ?_
    refine own_stW (T' := T3) (g' := (mkF m 38 #[rv x, iv (Int32.ofNat (own_is cs)), iv ((Int32.ofNat j) + (-1 : Int32))] [])) (fun _ k_ => XS.goto X3.here hx rfl (pc0 := 70) (pc' := 38) rfl (hb hby d6_70) (by decide) (by decide) k_) ?_
    rw [own_onm (by omega) (by omega)]
    exact K T3 _ X3 eq3 N3
set_option maxRecDepth 65536 in
set_option maxHeartbeats 40000000 in
theorem seg_e2 {p : Program} {l : Launch} {e : Env} {s : State} {m : MethodId} {args : Array Value} {below : List Frame} {meth : Method} {c : Code} {T0 : State} {locs : List Loc} {Z : State} {a0 : Array Value} {vm0 : Vm} {k0 : Nat} (h0 : Heap) (hB : Heap) (n0 : Nat) (x : Addr) (t : Addr) (kt : ClassId) (cs : List Int32) (cz : Int32) (fm : Value)
    (X0 : Stand p l e ({ frames := 5, cells := 2, slots := 8, locals := 102 } : Room) (s.setVm vm0) m args below meth c T0 locs 0 0) (hx : p.tables.exec = Jvm.exec) (hZs : Z.Warmed39 s.vm) (hZ : Z.Warmed39 (s.setVm vm0).vm) (hS0 : s.Since vm0 k0) (hk0 : k0 ≤ hB.size) (CR0 : CHr Z consts_1 s.vm h0 vm0 hB) (hw : ∀ d ∈ tables_1, d.before a0 Z = true) (hby : c.code = prog_12_method_4_code) (hml : c.maxLocals = 3) (howns : s.vm.findClass "com/example/sheafgate/sheafgate/http/RequestFields" = some m.cls) (hown : (s.setVm vm0).vm.findClass "com/example/sheafgate/sheafgate/http/RequestFields" = some m.cls) (hnm : meth.name = "strip") (hret : meth.sig.returnType = some (.object "java/lang/String")) (hlk : meth.locks = false) (e0 : T0.heap = hB) (N0 : Fr n0 locs) (O0 : Old Z n0 hB) (E_x : Exa Z hB x "java/lang/String") (V_x : Fld Z hB x "java/lang/String" "value" "[B" (.ref t)) (C_x : Fld Z hB x "java/lang/String" "coder" "B" (.int (0 : Int32))) (A_x : Arv Z hB t kt .byte (Int32.ofNat cs.length) ((cs.map StrChars.lo8).map Value.int) (.int (0 : Int32))) (hp : ∀ c ∈ cs, ¬ c < 0 ∧ ¬ (255 : Int32) < c) (lcs : cs.length ≤ 4) (SC : Sta Z Z.heap "java/lang/String" "COMPACT_STRINGS" "Z" (.int cz)) (hcz : ¬ cz = (0 : Int32)) (SF : Sta Z Z.heap "jdk/internal/util/Preconditions" "SIOOBE_FORMATTER" "Ljava/util/function/BiFunction;" fm) (hfm : fm.isRef = true) (hl1 : own_is cs ≤ cs.length) (hl2 : own_ie cs ≤ cs.length) (hl3 : own_is cs ≤ own_ie cs) (K : ∀ (T : State) (locs : List Loc), Stand p l e ({ frames := 5, cells := 2, slots := 8, locals := 102 } : Room) (s.setVm vm0) m args below meth c T locs 0 0 → T.heap = hB → Fr n0 locs → own_W p e below s ({ frames := 5, cells := 2, slots := 8, locals := 102 } : Room).cells ({ frames := 5, cells := 2, slots := 8, locals := 102 } : Room).slots Z consts_1 h0 (Q_strip Z x t kt cs cz fm h0 n0) T (mkF m 73 #[rv x, iv (Int32.ofNat (own_is cs)), iv (Int32.ofNat (own_ie cs))] [])) :
    own_W p e below s ({ frames := 5, cells := 2, slots := 8, locals := 102 } : Room).cells ({ frames := 5, cells := 2, slots := 8, locals := 102 } : Room).slots Z consts_1 h0 (Q_strip Z x t kt cs cz fm h0 n0) T0 (mkF m 38 #[rv x, iv (Int32.ofNat (own_is cs)), iv (Int32.ofNat (own_ie cs))] []) := by
  have hEL := own_EW hw
  refine own_stW (T' := T0) (g' := (mkF m 39 #[rv x, iv (Int32.ofNat (own_is cs)), iv (Int32.ofNat (own_ie cs))] [(.int (Int32.ofNat (own_ie cs)))])) (fun _ k_ => XS.iloadN X0.here hx rfl (hb hby d6_38) rfl  k_) ?_
  refine own_stW (T' := T0) (g' := (mkF m 40 #[rv x, iv (Int32.ofNat (own_is cs)), iv (Int32.ofNat (own_ie cs))] [(.int (Int32.ofNat (own_is cs))), (.int (Int32.ofNat (own_ie cs)))])) (fun _ k_ => XS.iloadN X0.here hx rfl (hb hby d6_39) rfl  k_) ?_
  by_cases hc1 : (Int32.ofNat (own_is cs)) < (Int32.ofNat (own_ie cs))
  · refine own_stW (T' := T0) (g' := (mkF m 43 #[rv x, iv (Int32.ofNat (own_is cs)), iv (Int32.ofNat (own_ie cs))] [])) (fun _ k_ => XS.icmpNo X0.here hx rfl (hb hby d6_40) rfl (tlt hc1).2.2.2 k_) ?_
    refine own_stW (T' := T0) (g' := (mkF m 44 #[rv x, iv (Int32.ofNat (own_is cs)), iv (Int32.ofNat (own_ie cs))] [(.ref x)])) (fun _ k_ => XS.aloadN X0.here hx rfl (hb hby d6_43) rfl rfl  k_) ?_
    refine own_stW (T' := T0) (g' := (mkF m 45 #[rv x, iv (Int32.ofNat (own_is cs)), iv (Int32.ofNat (own_ie cs))] [(.int (Int32.ofNat (own_ie cs))), (.ref x)])) (fun _ k_ => XS.iloadN X0.here hx rfl (hb hby d6_44) rfl  k_) ?_
    refine own_stW (T' := T0) (g' := (mkF m 46 #[rv x, iv (Int32.ofNat (own_is cs)), iv (Int32.ofNat (own_ie cs))] [(.int (1 : Int32)), (.int (Int32.ofNat (own_ie cs))), (.ref x)])) (fun _ k_ => XS.iconst X0.here hx rfl (hb hby d6_45) k_) ?_
    refine own_stW (T' := T0) (g' := (mkF m 47 #[rv x, iv (Int32.ofNat (own_is cs)), iv (Int32.ofNat (own_ie cs))] [(.int ((Int32.ofNat (own_ie cs)) - (1 : Int32))), (.ref x)])) (fun _ k_ => XS.isub X0.here hx rfl (hb hby d6_46) rfl k_) ?_
    rw [own_onS (by have hq := (own_olt (by omega) (by omega)).mp hc1; omega) (by omega)]
    obtain ⟨cq2, kq2, q2a, q2b, q2c⟩ := isOf hZ e0 E_x
    obtain ⟨_, T2, L2, X2, hQ2, st2⟩ := own_callV X0 hx (y := own_m15) (z := own_m15) hown (mvT hZ (wd hw 76 rfl)) (mvT hZ (wd hw 77 rfl)) (notFace_of_selects (args := #[]) (mvT hZ (wd hw 79 rfl))) (mvT hZ (wd hw 79 rfl)) (mvT hZ (wd hw 78 rfl)) (by decide) (backOf (W := 0) (rm_chat l Z a0 hw [] x t kt cs (Int32.ofNat ((own_ie cs) - 1)) ((own_ie cs) - 1) cz fm hB n0 O0 E_x V_x C_x A_x rfl (by have hq := (own_olt (by omega) (by omega)).mp hc1; omega) (by omega) hp SC hcz SF hfm) hZ (wd hw 80 rfl) (wd hw 11 rfl) (by decide) (by decide)) q2a q2c (g := (mkF m 47 #[rv x, iv (Int32.ofNat (own_is cs)), iv (Int32.ofNat (own_ie cs))] [(.int (Int32.ofNat ((own_ie cs) - 1))), (.ref x)])) rfl (by rw [hml]; rfl) (argsL := [(.int (Int32.ofNat ((own_ie cs) - 1)))]) (rest := []) (lenOf pd__I_C rfl) rfl (by show 2 * 0 + _ ≤ _; exact Nat.le_of_eq rfl) (hb hby d6_47) rfl e0 (by decide) (by decide) (c' := 0) (s' := 0) rfl rfl
    clear q2a q2b q2c kq2 cq2
    obtain ⟨rfl, Nq2, eq2⟩ := hQ2
    have N2 := Fr.app N0 Nq2
    refine own_stW (T' := T2) (g' := (mkF m 50 #[rv x, iv (Int32.ofNat (own_is cs)), iv (Int32.ofNat (own_ie cs))] [(.int (List.getD cs ((own_ie cs) - 1) 0))])) st2 ?_
    clear st2
    refine own_stW (T' := T2) (g' := (mkF m 52 #[rv x, iv (Int32.ofNat (own_is cs)), iv (Int32.ofNat (own_ie cs))] [(.int (32 : Int32)), (.int (List.getD cs ((own_ie cs) - 1) 0))])) (fun _ k_ => XS.bipush X2.here hx rfl (hb hby d6_50) k_) ?_
    refine own_stW (T' := T2) (g' := (mkF m 55 #[rv x, iv (Int32.ofNat (own_is cs)), iv (Int32.ofNat (own_ie cs))] [])) (fun _ k_ => XS.icmpNo X2.here hx rfl (hb hby d6_52) rfl (feq ((own_n32 (own_ieB cs (by have hq := (own_olt (by omega) (by omega)).mp hc1; omega)).2) : ¬ ((List.getD cs ((own_ie cs) - 1) 0) = (32 : Int32)))).1 k_) ?_
    refine own_stW (T' := T2) (g' := (mkF m 56 #[rv x, iv (Int32.ofNat (own_is cs)), iv (Int32.ofNat (own_ie cs))] [(.ref x)])) (fun _ k_ => XS.aloadN X2.here hx rfl (hb hby d6_55) rfl rfl  k_) ?_
    refine own_stW (T' := T2) (g' := (mkF m 57 #[rv x, iv (Int32.ofNat (own_is cs)), iv (Int32.ofNat (own_ie cs))] [(.int (Int32.ofNat (own_ie cs))), (.ref x)])) (fun _ k_ => XS.iloadN X2.here hx rfl (hb hby d6_56) rfl  k_) ?_
    refine own_stW (T' := T2) (g' := (mkF m 58 #[rv x, iv (Int32.ofNat (own_is cs)), iv (Int32.ofNat (own_ie cs))] [(.int (1 : Int32)), (.int (Int32.ofNat (own_ie cs))), (.ref x)])) (fun _ k_ => XS.iconst X2.here hx rfl (hb hby d6_57) k_) ?_
    refine own_stW (T' := T2) (g' := (mkF m 59 #[rv x, iv (Int32.ofNat (own_is cs)), iv (Int32.ofNat (own_ie cs))] [(.int ((Int32.ofNat (own_ie cs)) - (1 : Int32))), (.ref x)])) (fun _ k_ => XS.isub X2.here hx rfl (hb hby d6_58) rfl k_) ?_
    rw [own_onS (by have hq := (own_olt (by omega) (by omega)).mp hc1; omega) (by omega)]
    obtain ⟨cq3, kq3, q3a, q3b, q3c⟩ := isOf hZ eq2 E_x
    obtain ⟨_, T3, L3, X3, hQ3, st3⟩ := own_callV X2 hx (y := own_m15) (z := own_m15) hown (mvT hZ (wd hw 76 rfl)) (mvT hZ (wd hw 77 rfl)) (notFace_of_selects (args := #[]) (mvT hZ (wd hw 79 rfl))) (mvT hZ (wd hw 79 rfl)) (mvT hZ (wd hw 78 rfl)) (by decide) (backOf (W := 0) (rm_chat l Z a0 hw [] x t kt cs (Int32.ofNat ((own_ie cs) - 1)) ((own_ie cs) - 1) cz fm hB n0 O0 E_x V_x C_x A_x rfl (by have hq := (own_olt (by omega) (by omega)).mp hc1; omega) (by omega) hp SC hcz SF hfm) hZ (wd hw 80 rfl) (wd hw 11 rfl) (by decide) (by decide)) q3a q3c (g := (mkF m 59 #[rv x, iv (Int32.ofNat (own_is cs)), iv (Int32.ofNat (own_ie cs))] [(.int (Int32.ofNat ((own_ie cs) - 1))), (.ref x)])) rfl (by rw [hml]; rfl) (argsL := [(.int (Int32.ofNat ((own_ie cs) - 1)))]) (rest := []) (lenOf pd__I_C rfl) rfl (by show 2 * 0 + _ ≤ _; exact Nat.le_of_eq rfl) (hb hby d6_59) rfl eq2 (by decide) (by decide) (c' := 0) (s' := 0) rfl rfl
    clear q3a q3b q3c kq3 cq3
    obtain ⟨rfl, Nq3, eq3⟩ := hQ3
    have N3 := Fr.app N2 Nq3
    refine own_stW (T' := T3) (g' := (mkF m 62 #[rv x, iv (Int32.ofNat (own_is cs)), iv (Int32.ofNat (own_ie cs))] [(.int (List.getD cs ((own_ie cs) - 1) 0))])) st3 ?_
    clear st3
    refine own_stW (T' := T3) (g' := (mkF m 64 #[rv x, iv (Int32.ofNat (own_is cs)), iv (Int32.ofNat (own_ie cs))] [(.int (9 : Int32)), (.int (List.getD cs ((own_ie cs) - 1) 0))])) (fun _ k_ => XS.bipush X3.here hx rfl (hb hby d6_62) k_) ?_
    refine own_stW (T' := T3) (g' := (mkF m 73 #[rv x, iv (Int32.ofNat (own_is cs)), iv (Int32.ofNat (own_ie cs))] [])) (fun _ k_ => XS.icmpYes X3.here hx rfl (pc0 := 64) (pc' := 73) rfl (hb hby d6_64) rfl (feq ((own_n9 (own_ieB cs (by have hq := (own_olt (by omega) (by omega)).mp hc1; omega)).2) : ¬ ((List.getD cs ((own_ie cs) - 1) 0) = (9 : Int32)))).2 (by decide) (by decide) k_) ?_
    exact K T3 _ X3 eq3 N3
  · refine own_stW (T' := T0) (g' := (mkF m 73 #[rv x, iv (Int32.ofNat (own_is cs)), iv (Int32.ofNat (own_ie cs))] [])) (fun _ k_ => XS.icmpYes X0.here hx rfl (pc0 := 40) (pc' := 73) rfl (hb hby d6_40) rfl (flt hc1).2.2.2 (by decide) (by decide) k_) ?_
    exact K T0 _ X0 e0 N0
theorem d6_73 : decode prog_12_method_4_code 73 = .ok (.aload_n 0, 1) := by decide +kernel
theorem d6_74 : decode prog_12_method_4_code 74 = .ok (.iload_n 1, 1) := by decide +kernel
theorem d6_75 : decode prog_12_method_4_code 75 = .ok (.iload_n 2, 1) := by decide +kernel
theorem d6_76 : decode prog_12_method_4_code 76 = .ok (.invokevirtual 55, 3) := by decide +kernel
theorem d6_79 : decode prog_12_method_4_code 79 = .ok (.areturn, 1) := by decide +kernel
theorem pd__II_Ljava_lang_String_ : parseMethodDescriptor "(II)Ljava/lang/String;" = some ⟨[.int, .int], some (.object "java/lang/String")⟩ := by decide +kernel
set_option maxRecDepth 65536 in
set_option maxHeartbeats 40000000 in
theorem seg_s73 {p : Program} {l : Launch} {e : Env} {s : State} {m : MethodId} {args : Array Value} {below : List Frame} {meth : Method} {c : Code} {T0 : State} {locs : List Loc} {Z : State} {a0 : Array Value} {vm0 : Vm} {k0 : Nat} (h0 : Heap) (hB : Heap) (n0 : Nat) (x : Addr) (t : Addr) (kt : ClassId) (cs : List Int32) (cz : Int32) (fm : Value)
    (X0 : Stand p l e ({ frames := 5, cells := 2, slots := 8, locals := 102 } : Room) (s.setVm vm0) m args below meth c T0 locs 0 0) (hx : p.tables.exec = Jvm.exec) (hZs : Z.Warmed39 s.vm) (hZ : Z.Warmed39 (s.setVm vm0).vm) (hS0 : s.Since vm0 k0) (hk0 : k0 ≤ hB.size) (CR0 : CHr Z consts_1 s.vm h0 vm0 hB) (hw : ∀ d ∈ tables_1, d.before a0 Z = true) (hby : c.code = prog_12_method_4_code) (hml : c.maxLocals = 3) (howns : s.vm.findClass "com/example/sheafgate/sheafgate/http/RequestFields" = some m.cls) (hown : (s.setVm vm0).vm.findClass "com/example/sheafgate/sheafgate/http/RequestFields" = some m.cls) (hnm : meth.name = "strip") (hret : meth.sig.returnType = some (.object "java/lang/String")) (hlk : meth.locks = false) (e0 : T0.heap = hB) (N0 : Fr n0 locs) (O0 : Old Z n0 hB) (E_x : Exa Z hB x "java/lang/String") (V_x : Fld Z hB x "java/lang/String" "value" "[B" (.ref t)) (C_x : Fld Z hB x "java/lang/String" "coder" "B" (.int (0 : Int32))) (A_x : Arv Z hB t kt .byte (Int32.ofNat cs.length) ((cs.map StrChars.lo8).map Value.int) (.int (0 : Int32))) (hp : ∀ c ∈ cs, ¬ c < 0 ∧ ¬ (255 : Int32) < c) (lcs : cs.length ≤ 4) (SC : Sta Z Z.heap "java/lang/String" "COMPACT_STRINGS" "Z" (.int cz)) (hcz : ¬ cz = (0 : Int32)) (SF : Sta Z Z.heap "jdk/internal/util/Preconditions" "SIOOBE_FORMATTER" "Ljava/util/function/BiFunction;" fm) (hfm : fm.isRef = true) (hl1 : own_is cs ≤ cs.length) (hl2 : own_ie cs ≤ cs.length) (hl3 : own_is cs ≤ own_ie cs) (KP : Keep h0 hB []) :
    own_W p e below s ({ frames := 5, cells := 2, slots := 8, locals := 102 } : Room).cells ({ frames := 5, cells := 2, slots := 8, locals := 102 } : Room).slots Z consts_1 h0 (Q_strip Z x t kt cs cz fm h0 n0) T0 (mkF m 73 #[rv x, iv (Int32.ofNat (own_is cs)), iv (Int32.ofNat (own_ie cs))] []) := by
  have hEL := own_EW hw
  refine own_stW (T' := T0) (g' := (mkF m 74 #[rv x, iv (Int32.ofNat (own_is cs)), iv (Int32.ofNat (own_ie cs))] [(.ref x)])) (fun _ k_ => XS.aloadN X0.here hx rfl (hb hby d6_73) rfl rfl  k_) ?_
  refine own_stW (T' := T0) (g' := (mkF m 75 #[rv x, iv (Int32.ofNat (own_is cs)), iv (Int32.ofNat (own_ie cs))] [(.int (Int32.ofNat (own_is cs))), (.ref x)])) (fun _ k_ => XS.iloadN X0.here hx rfl (hb hby d6_74) rfl  k_) ?_
  refine own_stW (T' := T0) (g' := (mkF m 76 #[rv x, iv (Int32.ofNat (own_is cs)), iv (Int32.ofNat (own_ie cs))] [(.int (Int32.ofNat (own_ie cs))), (.int (Int32.ofNat (own_is cs))), (.ref x)])) (fun _ k_ => XS.iloadN X0.here hx rfl (hb hby d6_75) rfl  k_) ?_
  by_cases hwh : own_is cs = 0 ∧ own_ie cs = cs.length
  · obtain ⟨cq1, kq1, q1a, q1b, q1c⟩ := isOf hZ e0 E_x
    obtain ⟨_, T1, L1, X1, hQ1, st1⟩ := own_callV X0 hx (y := own_m11) (z := own_m11) hown (mvT hZ (wd hw 45 rfl)) (mvT hZ (wd hw 46 rfl)) (notFace_of_selects (args := #[]) (mvT hZ (wd hw 48 rfl))) (mvT hZ (wd hw 48 rfl)) (mvT hZ (wd hw 47 rfl)) (by decide) (backOf (W := 0) (rm_subw l Z a0 hw [] x t kt cs (Int32.ofNat (own_is cs)) (Int32.ofNat (own_ie cs)) (own_is cs) (own_ie cs) cz fm hB n0 O0 E_x V_x C_x A_x SC hcz SF hfm rfl rfl hl3 hl2 lcs hwh.1 hwh.2) hZ (wd hw 49 rfl) (wd hw 11 rfl) (by decide) (by decide)) q1a q1c (g := (mkF m 76 #[rv x, iv (Int32.ofNat (own_is cs)), iv (Int32.ofNat (own_ie cs))] [(.int (Int32.ofNat (own_ie cs))), (.int (Int32.ofNat (own_is cs))), (.ref x)])) rfl (by rw [hml]; rfl) (argsL := [(.int (Int32.ofNat (own_is cs))), (.int (Int32.ofNat (own_ie cs)))]) (rest := []) (lenOf pd__II_Ljava_lang_String_ rfl) rfl (by show 2 * 0 + _ ≤ _; exact Nat.le_of_eq rfl) (hb hby d6_76) rfl e0 (by decide) (by decide) (c' := 0) (s' := 0) rfl rfl
    clear q1a q1b q1c kq1 cq1
    obtain ⟨rfl, Nq1, eq1⟩ := hQ1
    have N1 := Fr.app N0 Nq1
    refine own_stW (T' := T1) (g' := (mkF m 79 #[rv x, iv (Int32.ofNat (own_is cs)), iv (Int32.ofNat (own_ie cs))] [(.ref x)])) st1 ?_
    clear st1
    exact own_retAW X1 hZ hS0 (by rw [eq1]; exact hk0) hEL (by rw [eq1]; exact CR0) hx hret rfl rfl hlk (hb hby d6_79) (by decide) (by decide) (by rw [eq1]; exact ⟨x, t, kt, rfl, N1, KP, E_x, C_x, V_x, (by rw [hwh.1, hwh.2, own_subW]; exact A_x)⟩)
  · by_cases hlt : own_is cs < own_ie cs
    · obtain ⟨cq2, kq2, q2a, q2b, q2c⟩ := isOf hZ e0 E_x
      obtain ⟨_, T2, L2, X2, hQ2, st2⟩ := own_callV X0 hx (y := own_m11) (z := own_m11) hown (mvT hZ (wd hw 45 rfl)) (mvT hZ (wd hw 46 rfl)) (notFace_of_selects (args := #[]) (mvT hZ (wd hw 48 rfl))) (mvT hZ (wd hw 48 rfl)) (mvT hZ (wd hw 47 rfl)) (by decide) (backOf (W := 0) (rm_subp l Z a0 hw [] x t kt cs (Int32.ofNat (own_is cs)) (Int32.ofNat (own_ie cs)) (own_is cs) (own_ie cs) cz fm hB n0 O0 E_x V_x C_x A_x SC hcz SF hfm rfl rfl hl3 hl2 lcs hwh hlt) hZ (wd hw 49 rfl) (wd hw 11 rfl) (by decide) (by decide)) q2a q2c (g := (mkF m 76 #[rv x, iv (Int32.ofNat (own_is cs)), iv (Int32.ofNat (own_ie cs))] [(.int (Int32.ofNat (own_ie cs))), (.int (Int32.ofNat (own_is cs))), (.ref x)])) rfl (by rw [hml]; rfl) (argsL := [(.int (Int32.ofNat (own_is cs))), (.int (Int32.ofNat (own_ie cs)))]) (rest := []) (lenOf pd__II_Ljava_lang_String_ rfl) rfl (by show 2 * 0 + _ ≤ _; exact Nat.le_of_eq rfl) (hb hby d6_76) rfl e0 (by decide) (by decide) (c' := 2) (s' := 8) rfl rfl
      clear q2a q2b q2c kq2 cq2
      obtain ⟨b2, u2, ku2, rfl, Nq2, K2, fq2_0, fq2_1, fq2_2, fq2_3, xq2_fresh_b⟩ := hQ2
      have N2 := Fr.app N0 Nq2
      have CR3 : CHr Z consts_1 s.vm h0 vm0 T2.heap := CR0.trans (CHr.keep K2 sf0 CR0.1)
      refine own_stW (T' := T2) (g' := (mkF m 79 #[rv x, iv (Int32.ofNat (own_is cs)), iv (Int32.ofNat (own_ie cs))] [(.ref b2)])) st2 ?_
      clear st2
      have f4 : Keep h0 T2.heap [] := KP.trans K2 all0
      exact own_retAW X2 hZ hS0 (Nat.le_trans hk0 K2.1) hEL CR3 hx hret rfl rfl hlk (hb hby d6_79) (by decide) (by decide) ⟨b2, u2, ku2, rfl, N2, f4, fq2_0, fq2_1, fq2_2, fq2_3⟩
    · obtain ⟨cq5, kq5, q5a, q5b, q5c⟩ := isOf hZ e0 E_x
      obtain ⟨_, T5, L5, X5, hS5, hQ5, ch5, st5⟩ := own_callVW X0 hx (y := own_m11) (z := own_m11) hown (mvT hZ (wd hw 45 rfl)) (mvT hZ (wd hw 46 rfl)) (notFace_of_selects (args := #[]) (mvT hZ (wd hw 48 rfl))) (mvT hZ (wd hw 48 rfl)) (mvT hZ (wd hw 47 rfl)) (by decide) (own_backW (W := 0) (rm_sub0 l Z a0 hw [] x t kt cs (Int32.ofNat (own_is cs)) (Int32.ofNat (own_ie cs)) (own_is cs) cz fm hB n0 O0 E_x V_x C_x A_x SC hcz SF hfm rfl (by rw [(own_all cs hlt).2]) hl1 lcs (fun q => hwh ⟨q, by have z := own_all cs hlt; omega⟩)) hZ (wd hw 49 rfl) (wd hw 11 rfl) (by decide) (by decide) hEL CR0.1 sf0 all0) q5a q5c (g := (mkF m 76 #[rv x, iv (Int32.ofNat (own_is cs)), iv (Int32.ofNat (own_ie cs))] [(.int (Int32.ofNat (own_ie cs))), (.int (Int32.ofNat (own_is cs))), (.ref x)])) rfl (by rw [hml]; rfl) (argsL := [(.int (Int32.ofNat (own_is cs))), (.int (Int32.ofNat (own_ie cs)))]) (rest := []) (lenOf pd__II_Ljava_lang_String_ rfl) rfl (by show 2 * 0 + _ ≤ _; exact Nat.le_of_eq rfl) (hb hby d6_76) rfl e0 (by decide) (by decide) (c' := 2) (s' := 4) rfl rfl hS0 hk0
      clear q5a q5b q5c kq5 cq5
      obtain ⟨b5, u5, ku5, rfl, Nq5, K5, fq5_0, fq5_1, fq5_2, fq5_3⟩ := hQ5
      have N5 := Fr.app N0 Nq5
      have CR6 : CHr Z consts_1 s.vm h0 T5.vm T5.heap := CR0.trans ch5
      have hZ5 : Z.Warmed39 (s.setVm T5.vm).vm := own_hZ hZs hS5
      have hown5 : (s.setVm T5.vm).vm.findClass "com/example/sheafgate/sheafgate/http/RequestFields" = some m.cls := own_hown howns hS5
      refine own_stW (T' := T5) (g' := (mkF m 79 #[rv x, iv (Int32.ofNat (own_is cs)), iv (Int32.ofNat (own_ie cs))] [(.ref b5)])) st5 ?_
      clear st5
      have f7 : Keep h0 T5.heap [] := KP.trans K5 all0
      exact own_retAW X5 hZ5 hS5 (Nat.le_refl _) hEL CR6 hx hret rfl rfl hlk (hb hby d6_79) (by decide) (by decide) ⟨b5, u5, ku5, rfl, N5, f7, fq5_0, fq5_1, fq5_2, (by rw [(own_all cs hlt).2]; exact fq5_3)⟩
theorem own_lp2 {p : Program} {l : Launch} {e : Env} {s : State} {m : MethodId} {args : Array Value} {below : List Frame} {meth : Method} {c : Code} {Z : State} {a0 : Array Value} {vm0 : Vm} {k0 : Nat} (h0 hB : Heap) (n0 : Nat) (x : Addr) (t : Addr) (kt : ClassId) (cs : List Int32) (cz : Int32) (fm : Value) (hx : p.tables.exec = Jvm.exec) (hZs : Z.Warmed39 s.vm) (hZ : Z.Warmed39 (s.setVm vm0).vm) (hS0 : s.Since vm0 k0) (hk0 : k0 ≤ hB.size) (CR0 : CHr Z consts_1 s.vm h0 vm0 hB) (hw : ∀ d ∈ tables_1, d.before a0 Z = true) (hby : c.code = prog_12_method_4_code) (hml : c.maxLocals = 3) (howns : s.vm.findClass "com/example/sheafgate/sheafgate/http/RequestFields" = some m.cls) (hown : (s.setVm vm0).vm.findClass "com/example/sheafgate/sheafgate/http/RequestFields" = some m.cls) (hnm : meth.name = "strip") (hret : meth.sig.returnType = some (.object "java/lang/String")) (hlk : meth.locks = false) (O0 : Old Z n0 hB) (E_x : Exa Z hB x "java/lang/String") (V_x : Fld Z hB x "java/lang/String" "value" "[B" (.ref t)) (C_x : Fld Z hB x "java/lang/String" "coder" "B" (.int (0 : Int32))) (A_x : Arv Z hB t kt .byte (Int32.ofNat cs.length) ((cs.map StrChars.lo8).map Value.int) (.int (0 : Int32))) (hp : ∀ c ∈ cs, ¬ c < 0 ∧ ¬ (255 : Int32) < c) (lcs : cs.length ≤ 4) (SC : Sta Z Z.heap "java/lang/String" "COMPACT_STRINGS" "Z" (.int cz)) (hcz : ¬ cz = (0 : Int32)) (SF : Sta Z Z.heap "jdk/internal/util/Preconditions" "SIOOBE_FORMATTER" "Ljava/util/function/BiFunction;" fm) (hfm : fm.isRef = true) (KP : Keep h0 hB []) : ∀ (d j : Nat), j - own_ie cs = d → own_ie cs ≤ j → j ≤ cs.length → ∀ (T0 : State) (locs : List Loc), Stand p l e ({ frames := 5, cells := 2, slots := 8, locals := 102 } : Room) (s.setVm vm0) m args below meth c T0 locs 0 0 → T0.heap = hB → Fr n0 locs → own_W p e below s ({ frames := 5, cells := 2, slots := 8, locals := 102 } : Room).cells ({ frames := 5, cells := 2, slots := 8, locals := 102 } : Room).slots Z consts_1 h0 (Q_strip Z x t kt cs cz fm h0 n0) T0 (mkF m 38 #[rv x, iv (Int32.ofNat (own_is cs)), iv (Int32.ofNat j)] []) := by
  intro d
  induction d with
  | zero => intro j h1 h2 h3 T0 locs X0 e0 N0; have : j = own_ie cs := by omega
            subst this
            exact seg_e2 h0 hB n0 x t kt cs cz fm X0 hx hZs hZ hS0 hk0 CR0 hw hby hml howns hown hnm hret hlk e0 N0 O0 E_x V_x C_x A_x hp lcs SC hcz SF hfm (own_isL cs) (own_ieL cs) (own_isie cs) (fun T0 locs X0 e0 N0 => seg_s73 h0 hB n0 x t kt cs cz fm X0 hx hZs hZ hS0 hk0 CR0 hw hby hml howns hown hnm hret hlk e0 N0 O0 E_x V_x C_x A_x hp lcs SC hcz SF hfm (own_isL cs) (own_ieL cs) (own_isie cs) KP)
  | succ d ih => intro j h1 h2 h3 T0 locs X0 e0 N0; exact seg_l2 h0 hB n0 x t kt cs j cz fm X0 hx hZs hZ hS0 hk0 CR0 hw hby hml howns hown hnm hret hlk e0 N0 O0 E_x V_x C_x A_x hp lcs SC hcz SF hfm (own_isL cs) (own_ieL cs) (own_isie cs) (by omega) h3 (ih (j - 1) (by omega) (by omega) (by omega))
theorem own_lp1 {p : Program} {l : Launch} {e : Env} {s : State} {m : MethodId} {args : Array Value} {below : List Frame} {meth : Method} {c : Code} {Z : State} {a0 : Array Value} {vm0 : Vm} {k0 : Nat} (h0 hB : Heap) (n0 : Nat) (x : Addr) (t : Addr) (kt : ClassId) (cs : List Int32) (cz : Int32) (fm : Value) (hx : p.tables.exec = Jvm.exec) (hZs : Z.Warmed39 s.vm) (hZ : Z.Warmed39 (s.setVm vm0).vm) (hS0 : s.Since vm0 k0) (hk0 : k0 ≤ hB.size) (CR0 : CHr Z consts_1 s.vm h0 vm0 hB) (hw : ∀ d ∈ tables_1, d.before a0 Z = true) (hby : c.code = prog_12_method_4_code) (hml : c.maxLocals = 3) (howns : s.vm.findClass "com/example/sheafgate/sheafgate/http/RequestFields" = some m.cls) (hown : (s.setVm vm0).vm.findClass "com/example/sheafgate/sheafgate/http/RequestFields" = some m.cls) (hnm : meth.name = "strip") (hret : meth.sig.returnType = some (.object "java/lang/String")) (hlk : meth.locks = false) (O0 : Old Z n0 hB) (E_x : Exa Z hB x "java/lang/String") (V_x : Fld Z hB x "java/lang/String" "value" "[B" (.ref t)) (C_x : Fld Z hB x "java/lang/String" "coder" "B" (.int (0 : Int32))) (A_x : Arv Z hB t kt .byte (Int32.ofNat cs.length) ((cs.map StrChars.lo8).map Value.int) (.int (0 : Int32))) (hp : ∀ c ∈ cs, ¬ c < 0 ∧ ¬ (255 : Int32) < c) (lcs : cs.length ≤ 4) (SC : Sta Z Z.heap "java/lang/String" "COMPACT_STRINGS" "Z" (.int cz)) (hcz : ¬ cz = (0 : Int32)) (SF : Sta Z Z.heap "jdk/internal/util/Preconditions" "SIOOBE_FORMATTER" "Ljava/util/function/BiFunction;" fm) (hfm : fm.isRef = true) (KP : Keep h0 hB []) : ∀ (d i : Nat), own_is cs - i = d → i ≤ own_is cs → ∀ (T0 : State) (locs : List Loc), Stand p l e ({ frames := 5, cells := 2, slots := 8, locals := 102 } : Room) (s.setVm vm0) m args below meth c T0 locs 0 0 → T0.heap = hB → Fr n0 locs → own_W p e below s ({ frames := 5, cells := 2, slots := 8, locals := 102 } : Room).cells ({ frames := 5, cells := 2, slots := 8, locals := 102 } : Room).slots Z consts_1 h0 (Q_strip Z x t kt cs cz fm h0 n0) T0 (mkF m 7 #[rv x, iv (Int32.ofNat i), iv (Int32.ofNat cs.length)] []) := by
  intro d
  induction d with
  | zero => intro i h1 h2 T0 locs X0 e0 N0; have : i = own_is cs := by omega
            subst this
            exact seg_e1 h0 hB n0 x t kt cs cz fm X0 hx hZs hZ hS0 hk0 CR0 hw hby hml howns hown hnm hret hlk e0 N0 O0 E_x V_x C_x A_x hp lcs SC hcz SF hfm (own_isL cs) (own_ieL cs) (own_isie cs) (own_lp2 h0 hB n0 x t kt cs cz fm hx hZs hZ hS0 hk0 CR0 hw hby hml howns hown hnm hret hlk O0 E_x V_x C_x A_x hp lcs SC hcz SF hfm KP _ cs.length rfl (own_ieL cs) (Nat.le_refl _))
  | succ d ih => intro i h1 h2 T0 locs X0 e0 N0; exact seg_l1 h0 hB n0 x t kt cs i cz fm X0 hx hZs hZ hS0 hk0 CR0 hw hby hml howns hown hnm hret hlk e0 N0 O0 E_x V_x C_x A_x hp lcs SC hcz SF hfm (own_isL cs) (own_ieL cs) (own_isie cs) (by omega) (ih (i + 1) (by omega) (by omega))
theorem d6_0 : decode prog_12_method_4_code 0 = .ok (.iconst 0, 1) := by decide +kernel
theorem d6_1 : decode prog_12_method_4_code 1 = .ok (.istore_n 1, 1) := by decide +kernel
theorem d6_2 : decode prog_12_method_4_code 2 = .ok (.aload_n 0, 1) := by decide +kernel
theorem d6_3 : decode prog_12_method_4_code 3 = .ok (.invokevirtual 45, 3) := by decide +kernel
theorem d6_6 : decode prog_12_method_4_code 6 = .ok (.istore_n 2, 1) := by decide +kernel
theorem pn_4 : plainName "com/example/sheafgate/sheafgate/http/RequestFields" = true := by first | (simp [plainName, overriddenIn]; done) | decide +kernel
theorem ef_strip (m : MethodId) (x0 : Addr) : entryFrame m #[(.ref x0)] 3 = mkF m 0 #[rv x0, .unset, .unset] [] := by first | (simp [entryFrame, mkF, argsToLocals, Value.category]; done) | rfl
set_option maxRecDepth 65536 in
set_option maxHeartbeats 40000000 in
theorem rm_strip (l : Launch) (Z : State) (a0 : Array Value) (hw : ∀ d ∈ tables_1, d.before a0 Z = true) (ws : List Jvm.Cond) (x : Addr) (t : Addr) (kt : ClassId) (cs : List Int32) (cz : Int32) (fm : Value) (h0 : Heap) (n0 : Nat) (O0 : Old Z n0 h0) (E_x : Exa Z h0 x "java/lang/String") (V_x : Fld Z h0 x "java/lang/String" "value" "[B" (.ref t)) (C_x : Fld Z h0 x "java/lang/String" "coder" "B" (.int (0 : Int32))) (A_x : Arv Z h0 t kt .byte (Int32.ofNat cs.length) ((cs.map StrChars.lo8).map Value.int) (.int (0 : Int32))) (hp : ∀ c ∈ cs, ¬ c < 0 ∧ ¬ (255 : Int32) < c) (lcs : cs.length ≤ 4) (SC : Sta Z Z.heap "java/lang/String" "COMPACT_STRINGS" "Z" (.int cz)) (hcz : ¬ cz = (0 : Int32)) (SF : Sta Z Z.heap "jdk/internal/util/Preconditions" "SIOOBE_FORMATTER" "Ljava/util/function/BiFunction;" fm) (hfm : fm.isRef = true) :
    MetFree l own_m16 (head1 (Jvm.Cond.code own_m16 prog_12_method_4_code 3 (some (.object "java/lang/String")) :: ws) ({ frames := 5, cells := 2, slots := 8, locals := 102 } : Room)) (fun ar_ U => ar_ = #[(.ref x)] ∧ Z.Warmed39 U.vm ∧ U.heap = h0 ∧ CHv Z consts_1 U.vm h0 ∧ ∀ x ∈ ([] : List Addr), Safe Z consts_1 U.vm h0 x) (fun _ _ _ _ _ => True) (fun _ U o U' => ∃ v L, o = .returned v ∧ Q_strip Z x t kt cs cz fm h0 n0 v U'.heap L ∧ CHr Z consts_1 U.vm U.heap U'.vm U'.heap ∧ ReturnedEndW U o U' L ({ frames := 5, cells := 2, slots := 8, locals := 102 } : Room).cells ({ frames := 5, cells := 2, slots := 8, locals := 102 } : Room).slots) := by
  refine MetFree.of_bodySF (plainFor_of_name pn_4) hisR ?_
  intro p e s m args below meth c s₁ Bd hml0 hP hK
  obtain ⟨rfl, hZ, hh, CH0, SF0⟩ := hP
  have hx := Bd.exec
  have hby := Bd.bytes
  have hml : c.maxLocals = 3 := hml0
  have hown : s.vm.findClass "com/example/sheafgate/sheafgate/http/RequestFields" = some m.cls := findClass_of_methodNamed Bd.named
  have hnm := (name_of_methodNamed Bd.named Bd.method).1
  have X0 : Stand p l e ({ frames := 5, cells := 2, slots := 8, locals := 102 } : Room) (s.setVm s.vm) m #[(.ref x)] below meth c s₁ [] 0 0 := Stand.of_body Bd
  have e0 : s₁.heap = h0 := by rw [← hh, Bd.state]; rfl
  have N0 := Fr.nil n0
  have hret := Bd.returns
  have hlk : meth.locks = false := Bd.notSynchronized
  have hEL := own_EW hw
  have hZs := hZ
  have howns := hown
  have hS0 : s.Since s.vm s.heap.size := (State.WarmedH.refl s).since _
  have hk0 : s.heap.size ≤ h0.size := Nat.le_of_eq (by rw [hh])
  have CR0 := CHr.refl CH0
  refine own_W0 hh ?_
  show own_W p e below s ({ frames := 5, cells := 2, slots := 8, locals := 102 } : Room).cells ({ frames := 5, cells := 2, slots := 8, locals := 102 } : Room).slots Z consts_1 h0 (Q_strip Z x t kt cs cz fm h0 n0) s₁ (entryFrame m #[(.ref x)] 3)
  rw [ef_strip m x]
  refine own_stW (T' := s₁) (g' := (mkF m 1 #[rv x, .unset, .unset] [(.int (0 : Int32))])) (fun _ k_ => XS.iconst X0.here hx rfl (hb hby d6_0) k_) ?_
  refine own_stW (T' := s₁) (g' := (mkF m 2 #[rv x, iv (0 : Int32), .unset] [])) (fun _ k_ => XS.istoreN X0.here hx rfl (hb hby d6_1) rfl (l' := #[rv x, iv (0 : Int32), .unset]) rfl k_) ?_
  refine own_stW (T' := s₁) (g' := (mkF m 3 #[rv x, iv (0 : Int32), .unset] [(.ref x)])) (fun _ k_ => XS.aloadN X0.here hx rfl (hb hby d6_2) rfl rfl  k_) ?_
  obtain ⟨cq1, kq1, q1a, q1b, q1c⟩ := isOf hZ e0 E_x
  obtain ⟨_, T1, L1, X1, hQ1, st1⟩ := own_callV X0 hx (y := own_m1) (z := own_m1) hown (mvT hZ (wd hw 34 rfl)) (mvT hZ (wd hw 35 rfl)) (notFace_of_selects (args := #[]) (mvT hZ (wd hw 37 rfl))) (mvT hZ (wd hw 37 rfl)) (mvT hZ (wd hw 36 rfl)) (by decide) (backOf (W := 0) (rm_len l Z a0 hw [] x t kt (Int32.ofNat cs.length) ((cs.map StrChars.lo8).map Value.int) cz h0 n0 O0 E_x V_x C_x A_x SC hcz) hZ (wd hw 38 rfl) (wd hw 11 rfl) (by decide) (by decide)) q1a q1c (g := (mkF m 3 #[rv x, iv (0 : Int32), .unset] [(.ref x)])) rfl (by rw [hml]; rfl) (argsL := []) (rest := []) (lenOf pd___I rfl) rfl (by show 2 * 0 + _ ≤ _; exact Nat.le_of_eq rfl) (hb hby d6_3) rfl e0 (by decide) (by decide) (c' := 0) (s' := 0) rfl rfl
  clear q1a q1b q1c kq1 cq1
  obtain ⟨rfl, Nq1, eq1⟩ := hQ1
  have N1 := Fr.app N0 Nq1
  refine own_stW (T' := T1) (g' := (mkF m 6 #[rv x, iv (0 : Int32), .unset] [(.int (Int32.ofNat cs.length))])) st1 ?_
  clear st1
  refine own_stW (T' := T1) (g' := (mkF m 7 #[rv x, iv (0 : Int32), iv (Int32.ofNat cs.length)] [])) (fun _ k_ => XS.istoreN X1.here hx rfl (hb hby d6_6) rfl (l' := #[rv x, iv (0 : Int32), iv (Int32.ofNat cs.length)]) rfl k_) ?_
  exact own_lp1 h0 h0 n0 x t kt cs cz fm hx hZs hZ hS0 hk0 CR0 hw hby hml howns hown hnm hret hlk O0 E_x V_x C_x A_x hp lcs SC hcz SF hfm (Keep.refl h0 []) _ 0 rfl (Nat.zero_le _) T1 _ X1 eq1 N1
theorem d4_0 : decode jdk_42_method_149_code 0 = .ok (.aload_n 0, 1) := by decide +kernel
theorem d4_1 : decode jdk_42_method_149_code 1 = .ok (.invokespecial 1, 3) := by decide +kernel
theorem d4_4 : decode jdk_42_method_149_code 4 = .ok (.iload_n 3, 1) := by decide +kernel
theorem d4_5 : decode jdk_42_method_149_code 5 = .ok (.ifCond .ne 22, 3) := by decide +kernel
theorem d4_8 : decode jdk_42_method_149_code 8 = .ok (.aload_n 0, 1) := by decide +kernel
theorem d4_9 : decode jdk_42_method_149_code 9 = .ok (.ldc 7, 2) := by decide +kernel
theorem d4_11 : decode jdk_42_method_149_code 11 = .ok (.getfield 9, 3) := by decide +kernel
theorem d4_14 : decode jdk_42_method_149_code 14 = .ok (.putfield 9, 3) := by decide +kernel
theorem d4_17 : decode jdk_42_method_149_code 17 = .ok (.aload_n 0, 1) := by decide +kernel
theorem d4_18 : decode jdk_42_method_149_code 18 = .ok (.ldc 7, 2) := by decide +kernel
theorem d4_20 : decode jdk_42_method_149_code 20 = .ok (.getfield 15, 3) := by decide +kernel
theorem d4_23 : decode jdk_42_method_149_code 23 = .ok (.putfield 15, 3) := by decide +kernel
theorem d4_26 : decode jdk_42_method_149_code 26 = .ok (.return_, 1) := by decide +kernel
theorem ef_ini4_0 (m : MethodId) (x0 : Addr) (x1 : Addr) (x2 : Int32) (x3 : Int32) : entryFrame m #[(.ref x0), (.ref x1), (.int x2), (.int x3), .null] 6 = mkF m 0 #[rv x0, rv x1, iv x2, iv x3, .val .null, .unset] [] := by first | (simp [entryFrame, mkF, argsToLocals, Value.category]; done) | rfl
def Q_ini4_0 (Z : State) (a : Addr) (va : Addr) (kc : ClassId) (h0 : Heap) (n0 : Nat) (v : Option Value) (h : Heap) (L : List Loc) : Prop := ∃ (t : Addr) (kb : ClassId), (v = none) ∧ (Fr n0 L) ∧ (Keep h0 h [a]) ∧ (Exa Z h a "java/lang/String") ∧ (Fld Z h a "java/lang/String" "coder" "B" (.int (0 : Int32))) ∧ (Fld Z h a "java/lang/String" "value" "[B" (.ref t)) ∧ (Arv Z h t kb .byte (0 : Int32) [] (.int (0 : Int32)))
set_option maxRecDepth 65536 in
set_option maxHeartbeats 40000000 in
theorem rm_ini4_0 (l : Launch) (Z : State) (a0 : Array Value) (hw : ∀ d ∈ tables_1, d.before a0 Z = true) (ws : List Jvm.Cond) (a : Addr) (va : Addr) (kc : ClassId) (h0 : Heap) (n0 : Nat) (O0 : Old Z n0 h0) (EA : Exa Z h0 a "java/lang/String") (FV : Fld Z h0 a "java/lang/String" "value" "[B" .null) (FC : Fld Z h0 a "java/lang/String" "coder" "B" (.int (0 : Int32))) (fa : n0 ≤ a) (VA : Arv Z h0 va kc .char (0 : Int32) [] (.int (0 : Int32))) :
    MetFree l own_m17 (head1 (Jvm.Cond.code own_m17 jdk_42_method_149_code 6 none :: ws) ({ frames := 1, cells := 4, slots := 8, locals := 12 } : Room)) (fun ar_ U => ar_ = #[(.ref a), (.ref va), (.int (0 : Int32)), (.int (0 : Int32)), .null] ∧ Z.Warmed39 U.vm ∧ U.heap = h0 ∧ CHv Z consts_1 U.vm h0 ∧ ∀ x ∈ ([a] : List Addr), Safe Z consts_1 U.vm h0 x) (fun _ _ _ _ _ => True) (fun _ U o U' => ∃ v L, o = .returned v ∧ Q_ini4_0 Z a va kc h0 n0 v U'.heap L ∧ CHr Z consts_1 U.vm U.heap U'.vm U'.heap ∧ ReturnedEndW U o U' L ({ frames := 1, cells := 4, slots := 8, locals := 12 } : Room).cells ({ frames := 1, cells := 4, slots := 8, locals := 12 } : Room).slots) := by
  refine MetFree.of_bodySF (plainFor_of_name pn_0) hisR ?_
  intro p e s m args below meth c s₁ Bd hml0 hP hK
  obtain ⟨rfl, hZ, hh, CH0, SF0⟩ := hP
  have hx := Bd.exec
  have hby := Bd.bytes
  have hml : c.maxLocals = 6 := hml0
  have hown : s.vm.findClass "java/lang/String" = some m.cls := findClass_of_methodNamed Bd.named
  have hnm := (name_of_methodNamed Bd.named Bd.method).1
  have X0 : Stand p l e ({ frames := 1, cells := 4, slots := 8, locals := 12 } : Room) (s.setVm s.vm) m #[(.ref a), (.ref va), (.int (0 : Int32)), (.int (0 : Int32)), .null] below meth c s₁ [] 0 0 := Stand.of_body Bd
  have e0 : s₁.heap = h0 := by rw [← hh, Bd.state]; rfl
  have N0 := Fr.nil n0
  have hret := Bd.returns
  have hlk : meth.locks = false := Bd.notSynchronized
  have hEL := own_EW hw
  have hZs := hZ
  have howns := hown
  have hS0 : s.Since s.vm s.heap.size := (State.WarmedH.refl s).since _
  have hk0 : s.heap.size ≤ h0.size := Nat.le_of_eq (by rw [hh])
  have CR0 := CHr.refl CH0
  have sf_a := SF0 _ (List.mem_of_getElem? (i := 0) rfl)
  refine own_W0 hh ?_
  show own_W p e below s ({ frames := 1, cells := 4, slots := 8, locals := 12 } : Room).cells ({ frames := 1, cells := 4, slots := 8, locals := 12 } : Room).slots Z consts_1 h0 (Q_ini4_0 Z a va kc h0 n0) s₁ (entryFrame m #[(.ref a), (.ref va), (.int (0 : Int32)), (.int (0 : Int32)), .null] 6)
  rw [ef_ini4_0 m a va (0 : Int32) (0 : Int32)]
  refine own_stW (T' := s₁) (g' := (mkF m 1 #[rv a, rv va, iv (0 : Int32), iv (0 : Int32), .val .null, .unset] [(.ref a)])) (fun _ k_ => XS.aloadN X0.here hx rfl (hb hby d4_0) rfl rfl  k_) ?_
  obtain ⟨T1, X1, e1, st1⟩ := initO X0 hx hZ hown (wd hw 19 rfl) (wd hw 20 rfl) (wd hw 21 rfl) e0 (g := (mkF m 1 #[rv a, rv va, iv (0 : Int32), iv (0 : Int32), .val .null, .unset] [(.ref a)])) rfl (by rw [hml]; rfl) rfl (hb hby d4_1) (by decide) (W := 0) (by show 2 * 0 + _ ≤ _; exact Nat.le_of_eq rfl) (by decide)
  refine own_stW (T' := T1) (g' := (mkF m 4 #[rv a, rv va, iv (0 : Int32), iv (0 : Int32), .val .null, .unset] [])) st1 ?_
  clear st1
  refine own_stW (T' := T1) (g' := (mkF m 5 #[rv a, rv va, iv (0 : Int32), iv (0 : Int32), .val .null, .unset] [(.int (0 : Int32))])) (fun _ k_ => XS.iloadN X1.here hx rfl (hb hby d4_4) rfl  k_) ?_
  refine own_stW (T' := T1) (g' := (mkF m 8 #[rv a, rv va, iv (0 : Int32), iv (0 : Int32), .val .null, .unset] [])) (fun _ k_ => XS.ifNo X1.here hx rfl (hb hby d4_5) rfl ((if0 _ _).trans (teq (rfl : (0 : Int32) = (0 : Int32))).2) k_) ?_
  refine own_stW (T' := T1) (g' := (mkF m 9 #[rv a, rv va, iv (0 : Int32), iv (0 : Int32), .val .null, .unset] [(.ref a)])) (fun _ k_ => XS.aloadN X1.here hx rfl (hb hby d4_8) rfl rfl  k_) ?_
  obtain ⟨a2, T2, h2, k2, b2, kb2, X2, e2, E2, hS2, hk2, hZ2, hown2, A2, C2, V2, R2, la2, lb2, ch2, Lt2, nl2, st2⟩ := ldcCH X1 hx hZ hown (wd hw 22 rfl) (own_wS hw) e1 hS0 hk0 hEL (List.mem_of_getElem? (i := 0) rfl) CR0.1 (vs := []) (z := (0 : Int32)) ⟨by decide, by decide⟩ (by decide) (by decide) (g := (mkF m 9 #[rv a, rv va, iv (0 : Int32), iv (0 : Int32), .val .null, .unset] [(.ref a)])) rfl (hb hby d4_9) (n := 0) (by decide) (by decide) (by decide) (by decide)
  have CR3 : CHr Z consts_1 s.vm h0 T2.vm h2 := CR0.trans ch2
  have sf4 : Safe Z consts_1 T2.vm h2 a := ch2.safe EA.lt sf_a
  refine own_stW (T' := T2) (g' := (mkF m 11 #[rv a, rv va, iv (0 : Int32), iv (0 : Int32), .val .null, .unset] [(.ref a2), (.ref a)])) st2 ?_
  clear st2
  obtain ⟨T5, X5, e5, st5⟩ := getF X2 hx hZ2 hown2 (host := "") (Or.inl (wd hw 28 rfl)) Via.refl e2 V2 (g := (mkF m 11 #[rv a, rv va, iv (0 : Int32), iv (0 : Int32), .val .null, .unset] [(.ref a2), (.ref a)])) rfl rfl (hb hby d4_11)
  refine own_stW (T' := T5) (g' := (mkF m 14 #[rv a, rv va, iv (0 : Int32), iv (0 : Int32), .val .null, .unset] [(.ref b2), (.ref a)])) st5 ?_
  clear st5
  have f6 : Exa Z h2 a "java/lang/String" := EA.ext E2
  have f7 : Fld Z h2 a "java/lang/String" "value" "[B" .null := FV.ext E2
  obtain ⟨T8, h8, X8, e8, W8, st8⟩ := putF X5 hx hZ2 hown2 (host := "") (Or.inl (wd hw 28 rfl)) Via.refl e5 f7 f6 (Or.inr ⟨(wd hw 24 rfl), rfl, hnm⟩) (wd hw 10 rfl) (ty := (.array .byte)) (by decide) rfl rfl (g := (mkF m 14 #[rv a, rv va, iv (0 : Int32), iv (0 : Int32), .val .null, .unset] [(.ref b2), (.ref a)])) rfl rfl (hb hby d4_14)
  have CR9 : CHr Z consts_1 s.vm h0 T2.vm h8 := CR3.trans (CHr.wr W8 sf4 CR3.1)
  have sf10 : Safe Z consts_1 T2.vm h8 a := Safe.wr W8 sf4 CR3.1 sf4
  have Fw8 : Fld Z h8 a "java/lang/String" "value" "[B" (.ref b2) := Fld.same W8 f7
  have N8 := Fr.snoc X8 N0 fa
  refine own_stW (T' := T8) (g' := (mkF m 17 #[rv a, rv va, iv (0 : Int32), iv (0 : Int32), .val .null, .unset] [])) st8 ?_
  clear st8
  refine own_stW (T' := T8) (g' := (mkF m 18 #[rv a, rv va, iv (0 : Int32), iv (0 : Int32), .val .null, .unset] [(.ref a)])) (fun _ k_ => XS.aloadN X8.here hx rfl (hb hby d4_17) rfl rfl  k_) ?_
  obtain ⟨a11, T11, h11, k11, b11, kb11, X11, e11, E11, hS11, hk11, hZ11, hown11, A11, C11, V11, R11, la11, lb11, ch11, Lt11, nl11, st11⟩ := ldcCH X8 hx hZ2 hown2 (wd hw 22 rfl) (own_wS hw) e8 hS2 (Nat.le_trans hk2 (Nat.le_of_eq (Wr.size W8).symm)) hEL (List.mem_of_getElem? (i := 0) rfl) CR9.1 (vs := []) (z := (0 : Int32)) ⟨by decide, by decide⟩ (by decide) (by decide) (g := (mkF m 18 #[rv a, rv va, iv (0 : Int32), iv (0 : Int32), .val .null, .unset] [(.ref a)])) rfl (hb hby d4_18) (n := 0) (by decide) (by decide) (by decide) (by decide)
  have CR12 : CHr Z consts_1 s.vm h0 T11.vm h11 := CR9.trans ch11
  have sf13 : Safe Z consts_1 T11.vm h11 a := ch11.safe (Nat.lt_of_lt_of_le (Nat.lt_of_lt_of_le EA.lt E2.1) (Nat.le_of_eq (Wr.size W8).symm)) sf10
  refine own_stW (T' := T11) (g' := (mkF m 20 #[rv a, rv va, iv (0 : Int32), iv (0 : Int32), .val .null, .unset] [(.ref a11), (.ref a)])) st11 ?_
  clear st11
  obtain ⟨T14, X14, e14, st14⟩ := getF X11 hx hZ11 hown11 (host := "") (Or.inl (wd hw 29 rfl)) Via.refl e11 C11 (g := (mkF m 20 #[rv a, rv va, iv (0 : Int32), iv (0 : Int32), .val .null, .unset] [(.ref a11), (.ref a)])) rfl rfl (hb hby d4_20)
  refine own_stW (T' := T14) (g' := (mkF m 23 #[rv a, rv va, iv (0 : Int32), iv (0 : Int32), .val .null, .unset] [(.int (0 : Int32)), (.ref a)])) st14 ?_
  clear st14
  have f15 : Exa Z h8 a "java/lang/String" := f6.wr W8
  have f16 : Exa Z h11 a "java/lang/String" := f15.ext E11
  have f17 : Fld Z h2 a "java/lang/String" "coder" "B" (.int (0 : Int32)) := FC.ext E2
  have f18 : Fld Z h8 a "java/lang/String" "coder" "B" (.int (0 : Int32)) := f17.other W8 (Or.inr (slot_ne (Or.inr (wd hw 25 rfl)) (Or.inr (wd hw 24 rfl)) (by decide) (t := .byte) (t' := (.array .byte)) (by decide) (by decide)))
  have f19 : Fld Z h11 a "java/lang/String" "coder" "B" (.int (0 : Int32)) := f18.ext E11
  obtain ⟨T20, h20, X20, e20, W20, st20⟩ := putFN X14 hx hZ11 hown11 (wd hw 29 rfl) Via.refl e14 f19 f16 (Or.inr ⟨(wd hw 25 rfl), rfl, hnm⟩) (wd hw 10 rfl) (ty := .byte) (v' := (.int (0 : Int32))) (by decide) rfl (by decide) (g := (mkF m 23 #[rv a, rv va, iv (0 : Int32), iv (0 : Int32), .val .null, .unset] [(.int (0 : Int32)), (.ref a)])) rfl rfl (hb hby d4_23)
  have CR21 : CHr Z consts_1 s.vm h0 T11.vm h20 := CR12.trans (CHr.wr W20 sf13 CR12.1)
  have sf22 : Safe Z consts_1 T11.vm h20 a := Safe.wr W20 sf13 CR12.1 sf13
  have Fw20 : Fld Z h20 a "java/lang/String" "coder" "B" (.int (0 : Int32)) := Fld.same W20 f19
  have N20 := Fr.snoc X20 N8 fa
  refine own_stW (T' := T20) (g' := (mkF m 26 #[rv a, rv va, iv (0 : Int32), iv (0 : Int32), .val .null, .unset] [])) st20 ?_
  clear st20
  have f23 : Keep h0 h2 [a] := (Keep.refl h0 [a]).ext E2
  have f24 : Keep h0 h8 [a] := f23.wr W8 (Or.inl (List.mem_of_getElem? (i := 0) rfl))
  have f25 : Keep h0 h11 [a] := f24.ext E11
  have f26 : Keep h0 h20 [a] := f25.wr W20 (Or.inl (List.mem_of_getElem? (i := 0) rfl))
  have f27 : Exa Z h20 a "java/lang/String" := f16.wr W20
  have f28 : Fld Z h11 a "java/lang/String" "value" "[B" (.ref b2) := Fw8.ext E11
  have f29 : Fld Z h20 a "java/lang/String" "value" "[B" (.ref b2) := f28.other W20 (Or.inr (slot_ne (Or.inr (wd hw 24 rfl)) (Or.inr (wd hw 25 rfl)) (by decide) (t := (.array .byte)) (t' := .byte) (by decide) (by decide)))
  have f30 : Arv Z h8 b2 kb2 .byte (0 : Int32) [] (.int (0 : Int32)) := R2.other W8 (Ne.symm (nl2 _ sf4).2)
  have f31 : Arv Z h11 b2 kb2 .byte (0 : Int32) [] (.int (0 : Int32)) := f30.ext E11
  have f32 : Arv Z h20 b2 kb2 .byte (0 : Int32) [] (.int (0 : Int32)) := f31.other W20 (Ne.symm (nl2 _ sf4).2)
  exact own_retVW X20 hZ11 hS11 (by rw [e20]; exact (Nat.le_trans hk11 (Nat.le_of_eq (Wr.size W20).symm))) hEL (by rw [e20]; exact CR21) hx hret hlk (hb hby d4_26) (by decide) (by decide) (by rw [e20]; exact ⟨b2, kb2, rfl, N20, f26, f27, Fw20, f29, f32⟩)
theorem d3_0 : decode jdk_42_method_3_code 0 = .ok (.aload_n 0, 1) := by decide +kernel
theorem d3_1 : decode jdk_42_method_3_code 1 = .ok (.aload_n 1, 1) := by decide +kernel
theorem d3_2 : decode jdk_42_method_3_code 2 = .ok (.iconst 0, 1) := by decide +kernel
theorem d3_3 : decode jdk_42_method_3_code 3 = .ok (.aload_n 1, 1) := by decide +kernel
theorem d3_4 : decode jdk_42_method_3_code 4 = .ok (.arraylength, 1) := by decide +kernel
theorem d3_5 : decode jdk_42_method_3_code 5 = .ok (.aconst_null, 1) := by decide +kernel
theorem d3_6 : decode jdk_42_method_3_code 6 = .ok (.invokespecial 27, 3) := by decide +kernel
theorem d3_9 : decode jdk_42_method_3_code 9 = .ok (.return_, 1) := by decide +kernel
theorem pd___CIILjava_lang_Void__V : parseMethodDescriptor "([CIILjava/lang/Void;)V" = some ⟨[(.array .char), .int, .int, (.object "java/lang/Void")], none⟩ := by decide +kernel
theorem ef_ini1_0 (m : MethodId) (x0 : Addr) (x1 : Addr) : entryFrame m #[(.ref x0), (.ref x1)] 2 = mkF m 0 #[rv x0, rv x1] [] := by first | (simp [entryFrame, mkF, argsToLocals, Value.category]; done) | rfl
def Q_ini1_0 (Z : State) (a : Addr) (va : Addr) (kc : ClassId) (h0 : Heap) (n0 : Nat) (v : Option Value) (h : Heap) (L : List Loc) : Prop := ∃ (t : Addr) (kb : ClassId), (v = none) ∧ (Fr n0 L) ∧ (Keep h0 h [a]) ∧ (Exa Z h a "java/lang/String") ∧ (Fld Z h a "java/lang/String" "coder" "B" (.int (0 : Int32))) ∧ (Fld Z h a "java/lang/String" "value" "[B" (.ref t)) ∧ (Arv Z h t kb .byte (0 : Int32) [] (.int (0 : Int32)))
set_option maxRecDepth 65536 in
set_option maxHeartbeats 40000000 in
theorem rm_ini1_0 (l : Launch) (Z : State) (a0 : Array Value) (hw : ∀ d ∈ tables_1, d.before a0 Z = true) (ws : List Jvm.Cond) (a : Addr) (va : Addr) (kc : ClassId) (h0 : Heap) (n0 : Nat) (O0 : Old Z n0 h0) (EA : Exa Z h0 a "java/lang/String") (FV : Fld Z h0 a "java/lang/String" "value" "[B" .null) (FC : Fld Z h0 a "java/lang/String" "coder" "B" (.int (0 : Int32))) (fa : n0 ≤ a) (VA : Arv Z h0 va kc .char (0 : Int32) [] (.int (0 : Int32))) :
    MetFree l own_m18 (head1 (Jvm.Cond.code own_m18 jdk_42_method_3_code 2 none :: ws) ({ frames := 2, cells := 4, slots := 8, locals := 29 } : Room)) (fun ar_ U => ar_ = #[(.ref a), (.ref va)] ∧ Z.Warmed39 U.vm ∧ U.heap = h0 ∧ CHv Z consts_1 U.vm h0 ∧ ∀ x ∈ ([a] : List Addr), Safe Z consts_1 U.vm h0 x) (fun _ _ _ _ _ => True) (fun _ U o U' => ∃ v L, o = .returned v ∧ Q_ini1_0 Z a va kc h0 n0 v U'.heap L ∧ CHr Z consts_1 U.vm U.heap U'.vm U'.heap ∧ ReturnedEndW U o U' L ({ frames := 2, cells := 4, slots := 8, locals := 29 } : Room).cells ({ frames := 2, cells := 4, slots := 8, locals := 29 } : Room).slots) := by
  refine MetFree.of_bodySF (plainFor_of_name pn_0) hisR ?_
  intro p e s m args below meth c s₁ Bd hml0 hP hK
  obtain ⟨rfl, hZ, hh, CH0, SF0⟩ := hP
  have hx := Bd.exec
  have hby := Bd.bytes
  have hml : c.maxLocals = 2 := hml0
  have hown : s.vm.findClass "java/lang/String" = some m.cls := findClass_of_methodNamed Bd.named
  have hnm := (name_of_methodNamed Bd.named Bd.method).1
  have X0 : Stand p l e ({ frames := 2, cells := 4, slots := 8, locals := 29 } : Room) (s.setVm s.vm) m #[(.ref a), (.ref va)] below meth c s₁ [] 0 0 := Stand.of_body Bd
  have e0 : s₁.heap = h0 := by rw [← hh, Bd.state]; rfl
  have N0 := Fr.nil n0
  have hret := Bd.returns
  have hlk : meth.locks = false := Bd.notSynchronized
  have hEL := own_EW hw
  have hZs := hZ
  have howns := hown
  have hS0 : s.Since s.vm s.heap.size := (State.WarmedH.refl s).since _
  have hk0 : s.heap.size ≤ h0.size := Nat.le_of_eq (by rw [hh])
  have CR0 := CHr.refl CH0
  have sf_a := SF0 _ (List.mem_of_getElem? (i := 0) rfl)
  refine own_W0 hh ?_
  show own_W p e below s ({ frames := 2, cells := 4, slots := 8, locals := 29 } : Room).cells ({ frames := 2, cells := 4, slots := 8, locals := 29 } : Room).slots Z consts_1 h0 (Q_ini1_0 Z a va kc h0 n0) s₁ (entryFrame m #[(.ref a), (.ref va)] 2)
  rw [ef_ini1_0 m a va]
  refine own_stW (T' := s₁) (g' := (mkF m 1 #[rv a, rv va] [(.ref a)])) (fun _ k_ => XS.aloadN X0.here hx rfl (hb hby d3_0) rfl rfl  k_) ?_
  refine own_stW (T' := s₁) (g' := (mkF m 2 #[rv a, rv va] [(.ref va), (.ref a)])) (fun _ k_ => XS.aloadN X0.here hx rfl (hb hby d3_1) rfl rfl  k_) ?_
  refine own_stW (T' := s₁) (g' := (mkF m 3 #[rv a, rv va] [(.int (0 : Int32)), (.ref va), (.ref a)])) (fun _ k_ => XS.iconst X0.here hx rfl (hb hby d3_2) k_) ?_
  refine own_stW (T' := s₁) (g' := (mkF m 4 #[rv a, rv va] [(.ref va), (.int (0 : Int32)), (.ref va), (.ref a)])) (fun _ k_ => XS.aloadN X0.here hx rfl (hb hby d3_3) rfl rfl  k_) ?_
  obtain ⟨cl1, Ar1, -, S1, N1, -, -⟩ := id VA
  refine own_stW (T' := s₁) (g' := (mkF m 5 #[rv a, rv va] [(.int (0 : Int32)), (.int (0 : Int32)), (.ref va), (.ref a)])) (fun t_ k_ => X0.arraylength hx (by rw [e0]; exact Ar1.1) (State.isArrayOf_alike hZ.alike Ar1.2.1) (g := (mkF m 4 #[rv a, rv va] [(.ref va), (.int (0 : Int32)), (.ref va), (.ref a)])) rfl rfl (hb hby d3_4) _ (by rw [len_of S1 N1]; exact k_)) ?_
  refine own_stW (T' := s₁) (g' := (mkF m 6 #[rv a, rv va] [.null, (.int (0 : Int32)), (.int (0 : Int32)), (.ref va), (.ref a)])) (fun _ k_ => XS.aconstNull X0.here hx rfl (hb hby d3_5) k_) ?_
  obtain ⟨_, T2, L2, X2, hS2, hQ2, ch2, st2⟩ := own_callIW X0 hx (y := own_m17) rfl hown (mvT hZ (wd hw 15 rfl)) (mvT hZ (wd hw 16 rfl)) (mvT hZ (wd hw 18 rfl)) (by decide) (own_backW (W := 0) (rm_ini4_0 l Z a0 hw [] a va kc h0 n0 O0 EA FV FC fa VA) hZ (wd hw 18 rfl) (wd hw 11 rfl) (by decide) (by decide) hEL CR0.1 (sfS sf_a sf0) (allS EA.lt all0)) (g := (mkF m 6 #[rv a, rv va] [.null, (.int (0 : Int32)), (.int (0 : Int32)), (.ref va), (.ref a)])) rfl (by rw [hml]; rfl) (a := a) (argsL := [(.ref va), (.int (0 : Int32)), (.int (0 : Int32)), .null]) (rest := []) (lenOf pd___CIILjava_lang_Void__V rfl) rfl (by show 2 * 0 + _ ≤ _; exact Nat.le_of_eq rfl) (hb hby d3_6) rfl e0 (by decide) (by decide) (c' := 4) (s' := 8) rfl rfl hS0 hk0
  obtain ⟨t2, kb2, rfl, Nq2, K2, fq2_0, fq2_1, fq2_2, fq2_3⟩ := hQ2
  have N2 := Fr.app N0 Nq2
  have CR3 : CHr Z consts_1 s.vm h0 T2.vm T2.heap := CR0.trans ch2
  have sf4 : Safe Z consts_1 T2.vm T2.heap a := ch2.safe EA.lt sf_a
  have hZ2 : Z.Warmed39 (s.setVm T2.vm).vm := own_hZ hZs hS2
  have hown2 : (s.setVm T2.vm).vm.findClass "java/lang/String" = some m.cls := own_hown howns hS2
  refine own_stW (T' := T2) (g' := (mkF m 9 #[rv a, rv va] [])) st2 ?_
  clear st2
  have f5 : Keep h0 T2.heap [a] := (Keep.refl h0 [a]).trans K2 (allS (Or.inl (List.mem_of_getElem? (i := 0) rfl)) all0)
  exact own_retVW X2 hZ2 hS2 (Nat.le_refl _) hEL CR3 hx hret hlk (hb hby d3_9) (by decide) (by decide) ⟨t2, kb2, rfl, N2, f5, fq2_0, fq2_1, fq2_2, fq2_3⟩
theorem d15_0 : decode jdk_52_method_21_code 0 = .ok (.iconst 0, 1) := by decide +kernel
theorem d15_1 : decode jdk_52_method_21_code 1 = .ok (.istore 5, 2) := by decide +kernel
theorem d15_3 : decode jdk_52_method_21_code 3 = .ok (.iload 5, 2) := by decide +kernel
theorem d15_5 : decode jdk_52_method_21_code 5 = .ok (.iload 4, 2) := by decide +kernel
theorem d15_7 : decode jdk_52_method_21_code 7 = .ok (.if_icmp .ge 37, 3) := by decide +kernel
theorem d15_10 : decode jdk_52_method_21_code 10 = .ok (.aload_n 0, 1) := by decide +kernel
theorem d15_11 : decode jdk_52_method_21_code 11 = .ok (.iload_n 1, 1) := by decide +kernel
theorem d15_12 : decode jdk_52_method_21_code 12 = .ok (.caload, 1) := by decide +kernel
theorem d15_13 : decode jdk_52_method_21_code 13 = .ok (.istore 6, 2) := by decide +kernel
theorem d15_15 : decode jdk_52_method_21_code 15 = .ok (.iload 6, 2) := by decide +kernel
theorem d15_17 : decode jdk_52_method_21_code 17 = .ok (.sipush 255, 3) := by decide +kernel
theorem d15_20 : decode jdk_52_method_21_code 20 = .ok (.if_icmp .le 6, 3) := by decide +kernel
theorem d15_26 : decode jdk_52_method_21_code 26 = .ok (.aload_n 2, 1) := by decide +kernel
theorem d15_27 : decode jdk_52_method_21_code 27 = .ok (.iload_n 3, 1) := by decide +kernel
theorem d15_28 : decode jdk_52_method_21_code 28 = .ok (.iload 6, 2) := by decide +kernel
theorem d15_30 : decode jdk_52_method_21_code 30 = .ok (.i2b, 1) := by decide +kernel
theorem d15_31 : decode jdk_52_method_21_code 31 = .ok (.bastore, 1) := by decide +kernel
theorem d15_32 : decode jdk_52_method_21_code 32 = .ok (.iinc 1 1, 3) := by decide +kernel
theorem d15_35 : decode jdk_52_method_21_code 35 = .ok (.iinc 3 1, 3) := by decide +kernel
theorem d15_38 : decode jdk_52_method_21_code 38 = .ok (.iinc 5 1, 3) := by decide +kernel
theorem d15_41 : decode jdk_52_method_21_code 41 = .ok (.goto (-38), 3) := by decide +kernel
theorem d15_44 : decode jdk_52_method_21_code 44 = .ok (.iload 4, 2) := by decide +kernel
theorem d15_46 : decode jdk_52_method_21_code 46 = .ok (.ireturn, 1) := by decide +kernel
theorem pn_5 : plainName "java/lang/StringUTF16" = true := by first | (simp [plainName, overriddenIn]; done) | decide +kernel
theorem ef_cmp5_1 (m : MethodId) (x0 : Addr) (x1 : Int32) (x2 : Addr) (x3 : Int32) (x4 : Int32) : entryFrame m #[(.ref x0), (.int x1), (.ref x2), (.int x3), (.int x4)] 7 = mkF m 0 #[rv x0, iv x1, rv x2, iv x3, iv x4, .unset, .unset] [] := by first | (simp [entryFrame, mkF, argsToLocals, Value.category]; done) | rfl
def Q_cmp5_1 (Z : State) (va : Addr) (da : Addr) (kc : ClassId) (kd : ClassId) (c0 : Int32) (h0 : Heap) (n0 : Nat) (v : Option Value) (h : Heap) (L : List Loc) : Prop := (v = some (.int (1 : Int32))) ∧ (Fr n0 L) ∧ (Keep h0 h [da]) ∧ (Arv Z h da kd .byte (1 : Int32) [(.int (c0.toInt8.toInt32))] (.int (0 : Int32)))
set_option maxRecDepth 65536 in
set_option maxHeartbeats 40000000 in
theorem rm_cmp5_1 (l : Launch) (Z : State) (a0 : Array Value) (hw : ∀ d ∈ tables_1, d.before a0 Z = true) (ws : List Jvm.Cond) (va : Addr) (da : Addr) (kc : ClassId) (kd : ClassId) (c0 : Int32) (h0 : Heap) (n0 : Nat) (O0 : Old Z n0 h0) (VA : Arv Z h0 va kc .char (1 : Int32) [(.int c0)] (.int (0 : Int32))) (VD : Arv Z h0 da kd .byte (1 : Int32) [(.int (0 : Int32))] (.int (0 : Int32))) (nad : va ≠ da) (fda : n0 ≤ da) (hp0 : ¬ (255 : Int32) < c0) :
    MetFree l own_m19 (head1 (Jvm.Cond.code own_m19 jdk_52_method_21_code 7 (some .int) :: ws) ({ frames := 0, cells := 0, slots := 0, locals := 0 } : Room)) (fun ar_ U => ar_ = #[(.ref va), (.int (0 : Int32)), (.ref da), (.int (0 : Int32)), (.int (1 : Int32))] ∧ Z.Warmed39 U.vm ∧ U.heap = h0) (fun _ _ _ _ _ => True) (fun _ U o U' => ∃ v L, o = .returned v ∧ Q_cmp5_1 Z va da kc kd c0 h0 n0 v U'.heap L ∧ FrameEnd U o U' L ({ frames := 0, cells := 0, slots := 0, locals := 0 } : Room).cells ({ frames := 0, cells := 0, slots := 0, locals := 0 } : Room).slots) := by
  refine MetFree.of_bodySF (plainFor_of_name pn_5) hisR ?_
  intro p e s m args below meth c s₁ Bd hml0 hP hK
  obtain ⟨rfl, hZ, hh⟩ := hP
  have hx := Bd.exec
  have hby := Bd.bytes
  have hml : c.maxLocals = 7 := hml0
  have hown : s.vm.findClass "java/lang/StringUTF16" = some m.cls := findClass_of_methodNamed Bd.named
  have hnm := (name_of_methodNamed Bd.named Bd.method).1
  have X0 : Stand p l e ({ frames := 0, cells := 0, slots := 0, locals := 0 } : Room) s m #[(.ref va), (.int (0 : Int32)), (.ref da), (.int (0 : Int32)), (.int (1 : Int32))] below meth c s₁ [] 0 0 := Stand.of_body Bd
  have e0 : s₁.heap = h0 := by rw [← hh, Bd.state]; rfl
  have N0 := Fr.nil n0
  have hret := Bd.returns
  have hlk : meth.locks = false := Bd.notSynchronized
  show own_E p e below s ({ frames := 0, cells := 0, slots := 0, locals := 0 } : Room).cells ({ frames := 0, cells := 0, slots := 0, locals := 0 } : Room).slots (Q_cmp5_1 Z va da kc kd c0 h0 n0) s₁ (entryFrame m #[(.ref va), (.int (0 : Int32)), (.ref da), (.int (0 : Int32)), (.int (1 : Int32))] 7)
  rw [ef_cmp5_1 m va (0 : Int32) da (0 : Int32) (1 : Int32)]
  refine own_st (T' := s₁) (g' := (mkF m 1 #[rv va, iv (0 : Int32), rv da, iv (0 : Int32), iv (1 : Int32), .unset, .unset] [(.int (0 : Int32))])) (fun _ k_ => XS.iconst X0.here hx rfl (hb hby d15_0) k_) ?_
  refine own_st (T' := s₁) (g' := (mkF m 3 #[rv va, iv (0 : Int32), rv da, iv (0 : Int32), iv (1 : Int32), iv (0 : Int32), .unset] [])) (fun _ k_ => XS.istore X0.here hx rfl (hb hby d15_1) rfl (l' := #[rv va, iv (0 : Int32), rv da, iv (0 : Int32), iv (1 : Int32), iv (0 : Int32), .unset]) rfl k_) ?_
  refine own_st (T' := s₁) (g' := (mkF m 5 #[rv va, iv (0 : Int32), rv da, iv (0 : Int32), iv (1 : Int32), iv (0 : Int32), .unset] [(.int (0 : Int32))])) (fun _ k_ => XS.iload X0.here hx rfl (hb hby d15_3) rfl  k_) ?_
  refine own_st (T' := s₁) (g' := (mkF m 7 #[rv va, iv (0 : Int32), rv da, iv (0 : Int32), iv (1 : Int32), iv (0 : Int32), .unset] [(.int (1 : Int32)), (.int (0 : Int32))])) (fun _ k_ => XS.iload X0.here hx rfl (hb hby d15_5) rfl  k_) ?_
  refine own_st (T' := s₁) (g' := (mkF m 10 #[rv va, iv (0 : Int32), rv da, iv (0 : Int32), iv (1 : Int32), iv (0 : Int32), .unset] [])) (fun _ k_ => XS.icmpNo X0.here hx rfl (hb hby d15_7) rfl (tlt (by decide : (0 : Int32) < (1 : Int32))).2.1 k_) ?_
  refine own_st (T' := s₁) (g' := (mkF m 11 #[rv va, iv (0 : Int32), rv da, iv (0 : Int32), iv (1 : Int32), iv (0 : Int32), .unset] [(.ref va)])) (fun _ k_ => XS.aloadN X0.here hx rfl (hb hby d15_10) rfl rfl  k_) ?_
  refine own_st (T' := s₁) (g' := (mkF m 12 #[rv va, iv (0 : Int32), rv da, iv (0 : Int32), iv (1 : Int32), iv (0 : Int32), .unset] [(.int (0 : Int32)), (.ref va)])) (fun _ k_ => XS.iloadN X0.here hx rfl (hb hby d15_11) rfl  k_) ?_
  obtain ⟨cl1, Ar1, q1, S1, N1, H1, G1⟩ := id VA
  have hin1 : ¬ ((0 : Int32) < 0 ∨ cl1.slots.size ≤ ((0 : Int32)).toNatClampNeg) := inb_of S1 ⟨by decide, by decide⟩
  refine own_st (T' := s₁) (g' := (mkF m 13 #[rv va, iv (0 : Int32), rv da, iv (0 : Int32), iv (1 : Int32), iv (0 : Int32), .unset] [(.int c0)])) (X0.caload hx (j := (0 : Int32)) (v := (.int c0)) (by rw [e0]; exact Ar1.1) (State.isArrayOf_alike hZ.alike Ar1.2.1) Ar1.2.2 hin1 (H1.at hin1 rfl) (g := (mkF m 12 #[rv va, iv (0 : Int32), rv da, iv (0 : Int32), iv (1 : Int32), iv (0 : Int32), .unset] [(.int (0 : Int32)), (.ref va)])) rfl rfl (hb hby d15_12)) ?_
  clear hin1 G1 H1 N1 S1 q1 Ar1 cl1
  refine own_st (T' := s₁) (g' := (mkF m 15 #[rv va, iv (0 : Int32), rv da, iv (0 : Int32), iv (1 : Int32), iv (0 : Int32), iv c0] [])) (fun _ k_ => XS.istore X0.here hx rfl (hb hby d15_13) rfl (l' := #[rv va, iv (0 : Int32), rv da, iv (0 : Int32), iv (1 : Int32), iv (0 : Int32), iv c0]) rfl k_) ?_
  refine own_st (T' := s₁) (g' := (mkF m 17 #[rv va, iv (0 : Int32), rv da, iv (0 : Int32), iv (1 : Int32), iv (0 : Int32), iv c0] [(.int c0)])) (fun _ k_ => XS.iload X0.here hx rfl (hb hby d15_15) rfl  k_) ?_
  refine own_st (T' := s₁) (g' := (mkF m 20 #[rv va, iv (0 : Int32), rv da, iv (0 : Int32), iv (1 : Int32), iv (0 : Int32), iv c0] [(.int (255 : Int32)), (.int c0)])) (fun _ k_ => XS.sipush X0.here hx rfl (hb hby d15_17) k_) ?_
  refine own_st (T' := s₁) (g' := (mkF m 26 #[rv va, iv (0 : Int32), rv da, iv (0 : Int32), iv (1 : Int32), iv (0 : Int32), iv c0] [])) (fun _ k_ => XS.icmpYes X0.here hx rfl (pc0 := 20) (pc' := 26) rfl (hb hby d15_20) rfl (flt (hp0 : ¬ ((255 : Int32) < c0))).2.2.2 (by decide) (by decide) k_) ?_
  refine own_st (T' := s₁) (g' := (mkF m 27 #[rv va, iv (0 : Int32), rv da, iv (0 : Int32), iv (1 : Int32), iv (0 : Int32), iv c0] [(.ref da)])) (fun _ k_ => XS.aloadN X0.here hx rfl (hb hby d15_26) rfl rfl  k_) ?_
  refine own_st (T' := s₁) (g' := (mkF m 28 #[rv va, iv (0 : Int32), rv da, iv (0 : Int32), iv (1 : Int32), iv (0 : Int32), iv c0] [(.int (0 : Int32)), (.ref da)])) (fun _ k_ => XS.iloadN X0.here hx rfl (hb hby d15_27) rfl  k_) ?_
  refine own_st (T' := s₁) (g' := (mkF m 30 #[rv va, iv (0 : Int32), rv da, iv (0 : Int32), iv (1 : Int32), iv (0 : Int32), iv c0] [(.int c0), (.int (0 : Int32)), (.ref da)])) (fun _ k_ => XS.iload X0.here hx rfl (hb hby d15_28) rfl  k_) ?_
  refine own_st (T' := s₁) (g' := (mkF m 31 #[rv va, iv (0 : Int32), rv da, iv (0 : Int32), iv (1 : Int32), iv (0 : Int32), iv c0] [(.int (c0.toInt8.toInt32)), (.int (0 : Int32)), (.ref da)])) (fun _ k_ => XS.i2b X0.here hx rfl (hb hby d15_30) rfl k_) ?_
  obtain ⟨cl2, Ar2, q2, S2, N2, H2, G2⟩ := id VD
  have hin2 : ¬ ((0 : Int32) < 0 ∨ cl2.slots.size ≤ ((0 : Int32)).toNatClampNeg) := inb_of S2 ⟨by decide, by decide⟩
  obtain ⟨T3, h3, X3, e3, W3, st3⟩ := stB X0 hx hZ e0 Ar2 (j := (0 : Int32)) hin2 (g := (mkF m 31 #[rv va, iv (0 : Int32), rv da, iv (0 : Int32), iv (1 : Int32), iv (0 : Int32), iv c0] [(.int (c0.toInt8.toInt32)), (.int (0 : Int32)), (.ref da)])) rfl rfl (hb hby d15_31)
  have V3 : Arv Z h3 da kd .byte (1 : Int32) [(.int (nar .byte (c0.toInt8.toInt32)))] (.int (0 : Int32)) := Arv.set Ar2 q2 S2 N2 H2 G2 (fits_nar_byte _) W3 0 rfl (Nat.le_of_ble_eq_true rfl)
  have Vn3 : Arv Z h3 da kd .byte (1 : Int32) [(.int (c0.toInt8.toInt32))] (.int (0 : Int32)) := by simpa only [own_bb] using V3
  have Nx3 := Fr.snoc X3 N0 fda
  refine own_st (T' := T3) (g' := (mkF m 32 #[rv va, iv (0 : Int32), rv da, iv (0 : Int32), iv (1 : Int32), iv (0 : Int32), iv c0] [])) st3 ?_
  clear hin2 G2 H2 N2 S2 q2 Ar2 cl2 st3
  refine own_st (T' := T3) (g' := (mkF m 35 #[rv va, iv (1 : Int32), rv da, iv (0 : Int32), iv (1 : Int32), iv (0 : Int32), iv c0] [])) (fun _ k_ => XS.iinc X3.here hx rfl (hb hby d15_32) rfl (l' := #[rv va, iv (1 : Int32), rv da, iv (0 : Int32), iv (1 : Int32), iv (0 : Int32), iv c0]) rfl k_) ?_
  refine own_st (T' := T3) (g' := (mkF m 38 #[rv va, iv (1 : Int32), rv da, iv (1 : Int32), iv (1 : Int32), iv (0 : Int32), iv c0] [])) (fun _ k_ => XS.iinc X3.here hx rfl (hb hby d15_35) rfl (l' := #[rv va, iv (1 : Int32), rv da, iv (1 : Int32), iv (1 : Int32), iv (0 : Int32), iv c0]) rfl k_) ?_
  refine own_st (T' := T3) (g' := (mkF m 41 #[rv va, iv (1 : Int32), rv da, iv (1 : Int32), iv (1 : Int32), iv (1 : Int32), iv c0] [])) (fun _ k_ => XS.iinc X3.here hx rfl (hb hby d15_38) rfl (l' := #[rv va, iv (1 : Int32), rv da, iv (1 : Int32), iv (1 : Int32), iv (1 : Int32), iv c0]) rfl k_) ?_
  refine own_st (T' := T3) (g' := (mkF m 3 #[rv va, iv (1 : Int32), rv da, iv (1 : Int32), iv (1 : Int32), iv (1 : Int32), iv c0] [])) (fun _ k_ => XS.goto X3.here hx rfl (pc0 := 41) (pc' := 3) rfl (hb hby d15_41) (by decide) (by decide) k_) ?_
  refine own_st (T' := T3) (g' := (mkF m 5 #[rv va, iv (1 : Int32), rv da, iv (1 : Int32), iv (1 : Int32), iv (1 : Int32), iv c0] [(.int (1 : Int32))])) (fun _ k_ => XS.iload X3.here hx rfl (hb hby d15_3) rfl  k_) ?_
  refine own_st (T' := T3) (g' := (mkF m 7 #[rv va, iv (1 : Int32), rv da, iv (1 : Int32), iv (1 : Int32), iv (1 : Int32), iv c0] [(.int (1 : Int32)), (.int (1 : Int32))])) (fun _ k_ => XS.iload X3.here hx rfl (hb hby d15_5) rfl  k_) ?_
  refine own_st (T' := T3) (g' := (mkF m 44 #[rv va, iv (1 : Int32), rv da, iv (1 : Int32), iv (1 : Int32), iv (1 : Int32), iv c0] [])) (fun _ k_ => XS.icmpYes X3.here hx rfl (pc0 := 7) (pc' := 44) rfl (hb hby d15_7) rfl (flt (by decide : ¬ ((1 : Int32) < (1 : Int32)))).2.1 (by decide) (by decide) k_) ?_
  refine own_st (T' := T3) (g' := (mkF m 46 #[rv va, iv (1 : Int32), rv da, iv (1 : Int32), iv (1 : Int32), iv (1 : Int32), iv c0] [(.int (1 : Int32))])) (fun _ k_ => XS.iload X3.here hx rfl (hb hby d15_44) rfl  k_) ?_
  have f4 : Keep h0 h3 [da] := (Keep.refl h0 [da]).wr W3 (Or.inl (List.mem_of_getElem? (i := 0) rfl))
  exact own_retI X3 hx hret hlk (hb hby d15_46) (by decide) (by decide) (by rw [e3]; exact ⟨rfl, Nx3, f4, Vn3⟩)
theorem d14_0 : decode jdk_52_method_16_code 0 = .ok (.iload_n 2, 1) := by decide +kernel
theorem d14_1 : decode jdk_52_method_16_code 1 = .ok (.newarray .byte, 2) := by decide +kernel
theorem d14_3 : decode jdk_52_method_16_code 3 = .ok (.astore_n 3, 1) := by decide +kernel
theorem d14_4 : decode jdk_52_method_16_code 4 = .ok (.aload_n 0, 1) := by decide +kernel
theorem d14_5 : decode jdk_52_method_16_code 5 = .ok (.iload_n 1, 1) := by decide +kernel
theorem d14_6 : decode jdk_52_method_16_code 6 = .ok (.aload_n 3, 1) := by decide +kernel
theorem d14_7 : decode jdk_52_method_16_code 7 = .ok (.iconst 0, 1) := by decide +kernel
theorem d14_8 : decode jdk_52_method_16_code 8 = .ok (.iload_n 2, 1) := by decide +kernel
theorem d14_9 : decode jdk_52_method_16_code 9 = .ok (.invokestatic 115, 3) := by decide +kernel
theorem d14_12 : decode jdk_52_method_16_code 12 = .ok (.istore 4, 2) := by decide +kernel
theorem d14_14 : decode jdk_52_method_16_code 14 = .ok (.iload 4, 2) := by decide +kernel
theorem d14_16 : decode jdk_52_method_16_code 16 = .ok (.iload_n 2, 1) := by decide +kernel
theorem d14_17 : decode jdk_52_method_16_code 17 = .ok (.if_icmp .eq 40, 3) := by decide +kernel
theorem d14_57 : decode jdk_52_method_16_code 57 = .ok (.aload_n 3, 1) := by decide +kernel
theorem d14_58 : decode jdk_52_method_16_code 58 = .ok (.areturn, 1) := by decide +kernel
theorem pd___CI_BII_I : parseMethodDescriptor "([CI[BII)I" = some ⟨[(.array .char), .int, (.array .byte), .int, .int], some .int⟩ := by decide +kernel
theorem ef_cmp3_1 (m : MethodId) (x0 : Addr) (x1 : Int32) (x2 : Int32) : entryFrame m #[(.ref x0), (.int x1), (.int x2)] 6 = mkF m 0 #[rv x0, iv x1, iv x2, .unset, .unset, .unset] [] := by first | (simp [entryFrame, mkF, argsToLocals, Value.category]; done) | rfl
def Q_cmp3_1 (Z : State) (va : Addr) (kc : ClassId) (c0 : Int32) (h0 : Heap) (n0 : Nat) (v : Option Value) (h : Heap) (L : List Loc) : Prop := ∃ (t : Addr) (kb : ClassId), (v = some (.ref t)) ∧ (Fr n0 L) ∧ (Keep h0 h []) ∧ (Arv Z h t kb .byte (1 : Int32) [(.int (c0.toInt8.toInt32))] (.int (0 : Int32))) ∧ (h0.size ≤ t)
set_option maxRecDepth 65536 in
set_option maxHeartbeats 40000000 in
theorem rm_cmp3_1 (l : Launch) (Z : State) (a0 : Array Value) (hw : ∀ d ∈ tables_1, d.before a0 Z = true) (ws : List Jvm.Cond) (va : Addr) (kc : ClassId) (c0 : Int32) (h0 : Heap) (n0 : Nat) (O0 : Old Z n0 h0) (VA : Arv Z h0 va kc .char (1 : Int32) [(.int c0)] (.int (0 : Int32))) (hp0 : ¬ (255 : Int32) < c0) :
    MetFree l own_m20 (head1 (Jvm.Cond.code own_m20 jdk_52_method_16_code 6 (some (.array .byte)) :: ws) ({ frames := 1, cells := 1, slots := 1, locals := 18 } : Room)) (fun ar_ U => ar_ = #[(.ref va), (.int (0 : Int32)), (.int (1 : Int32))] ∧ Z.Warmed39 U.vm ∧ U.heap = h0) (fun _ _ _ _ _ => True) (fun _ U o U' => ∃ v L, o = .returned v ∧ Q_cmp3_1 Z va kc c0 h0 n0 v U'.heap L ∧ FrameEnd U o U' L ({ frames := 1, cells := 1, slots := 1, locals := 18 } : Room).cells ({ frames := 1, cells := 1, slots := 1, locals := 18 } : Room).slots) := by
  refine MetFree.of_bodySF (plainFor_of_name pn_5) hisR ?_
  intro p e s m args below meth c s₁ Bd hml0 hP hK
  obtain ⟨rfl, hZ, hh⟩ := hP
  have hx := Bd.exec
  have hby := Bd.bytes
  have hml : c.maxLocals = 6 := hml0
  have hown : s.vm.findClass "java/lang/StringUTF16" = some m.cls := findClass_of_methodNamed Bd.named
  have hnm := (name_of_methodNamed Bd.named Bd.method).1
  have X0 : Stand p l e ({ frames := 1, cells := 1, slots := 1, locals := 18 } : Room) s m #[(.ref va), (.int (0 : Int32)), (.int (1 : Int32))] below meth c s₁ [] 0 0 := Stand.of_body Bd
  have e0 : s₁.heap = h0 := by rw [← hh, Bd.state]; rfl
  have N0 := Fr.nil n0
  have hret := Bd.returns
  have hlk : meth.locks = false := Bd.notSynchronized
  show own_E p e below s ({ frames := 1, cells := 1, slots := 1, locals := 18 } : Room).cells ({ frames := 1, cells := 1, slots := 1, locals := 18 } : Room).slots (Q_cmp3_1 Z va kc c0 h0 n0) s₁ (entryFrame m #[(.ref va), (.int (0 : Int32)), (.int (1 : Int32))] 6)
  rw [ef_cmp3_1 m va (0 : Int32) (1 : Int32)]
  refine own_st (T' := s₁) (g' := (mkF m 1 #[rv va, iv (0 : Int32), iv (1 : Int32), .unset, .unset, .unset] [(.int (1 : Int32))])) (fun _ k_ => XS.iloadN X0.here hx rfl (hb hby d14_0) rfl  k_) ?_
  obtain ⟨T1, h1, k1, X1, e1, E1, A1, st1⟩ := newP X0 hx hZ (wd hw 23 rfl) e0 (g := (mkF m 1 #[rv va, iv (0 : Int32), iv (1 : Int32), .unset, .unset, .unset] [(.int (1 : Int32))])) rfl (hb hby d14_1) rfl (by decide) (cap := 1) (by decide) (by decide) (by decide) (by decide)
  obtain ⟨b1, g1⟩ : ∃ z, z = h0.size := ⟨_, rfl⟩
  rw [← g1] at A1 st1
  have fr1 : n0 ≤ b1 := Nat.le_trans (own_z O0) (Nat.le_of_eq g1.symm)
  have sz1 : h0.size ≤ b1 := Nat.le_trans (Keep.refl h0 []).1 (Nat.le_of_eq g1.symm)
  have V1 : Arv Z h1 b1 k1 .byte (1 : Int32) [(.int (0 : Int32))] (.int (0 : Int32)) := (Arv.new A1 (by decide)).pad (pad_rep [] (.int (0 : Int32)) 1)
  refine own_st (T' := T1) (g' := (mkF m 3 #[rv va, iv (0 : Int32), iv (1 : Int32), .unset, .unset, .unset] [(.ref b1)])) st1 ?_
  clear st1
  refine own_st (T' := T1) (g' := (mkF m 4 #[rv va, iv (0 : Int32), iv (1 : Int32), rv b1, .unset, .unset] [])) (fun _ k_ => XS.astoreN X1.here hx rfl (hb hby d14_3) rfl rfl (l' := #[rv va, iv (0 : Int32), iv (1 : Int32), rv b1, .unset, .unset]) rfl k_) ?_
  refine own_st (T' := T1) (g' := (mkF m 5 #[rv va, iv (0 : Int32), iv (1 : Int32), rv b1, .unset, .unset] [(.ref va)])) (fun _ k_ => XS.aloadN X1.here hx rfl (hb hby d14_4) rfl rfl  k_) ?_
  refine own_st (T' := T1) (g' := (mkF m 6 #[rv va, iv (0 : Int32), iv (1 : Int32), rv b1, .unset, .unset] [(.int (0 : Int32)), (.ref va)])) (fun _ k_ => XS.iloadN X1.here hx rfl (hb hby d14_5) rfl  k_) ?_
  refine own_st (T' := T1) (g' := (mkF m 7 #[rv va, iv (0 : Int32), iv (1 : Int32), rv b1, .unset, .unset] [(.ref b1), (.int (0 : Int32)), (.ref va)])) (fun _ k_ => XS.aloadN X1.here hx rfl (hb hby d14_6) rfl rfl  k_) ?_
  refine own_st (T' := T1) (g' := (mkF m 8 #[rv va, iv (0 : Int32), iv (1 : Int32), rv b1, .unset, .unset] [(.int (0 : Int32)), (.ref b1), (.int (0 : Int32)), (.ref va)])) (fun _ k_ => XS.iconst X1.here hx rfl (hb hby d14_7) k_) ?_
  refine own_st (T' := T1) (g' := (mkF m 9 #[rv va, iv (0 : Int32), iv (1 : Int32), rv b1, .unset, .unset] [(.int (1 : Int32)), (.int (0 : Int32)), (.ref b1), (.int (0 : Int32)), (.ref va)])) (fun _ k_ => XS.iloadN X1.here hx rfl (hb hby d14_8) rfl  k_) ?_
  have f2 : Arv Z h1 va kc .char (1 : Int32) [(.int c0)] (.int (0 : Int32)) := VA.ext E1
  have ne3 : va ≠ b1 := Nat.ne_of_lt (Nat.lt_of_lt_of_le VA.lt (Nat.le_of_eq g1.symm))
  have f4 : Old Z n0 h1 := O0.ext E1
  obtain ⟨_, T5, L5, X5, hQ5, st5⟩ := own_callS X1 hx (y := own_m19) hown (mvT hZ (wd hw 70 rfl)) (mvT hZ (wd hw 71 rfl)) (mvT hZ (wd hw 68 rfl)) (mvT hZ (wd hw 72 rfl)) (by decide) (backOf (W := 0) (rm_cmp5_1 l Z a0 hw [] va b1 kc k1 c0 h1 n0 f4 f2 V1 ne3 fr1 hp0) hZ (wd hw 72 rfl) (wd hw 68 rfl) (by decide) (by decide)) (g := (mkF m 9 #[rv va, iv (0 : Int32), iv (1 : Int32), rv b1, .unset, .unset] [(.int (1 : Int32)), (.int (0 : Int32)), (.ref b1), (.int (0 : Int32)), (.ref va)])) rfl (by rw [hml]; rfl) (argsL := [(.ref va), (.int (0 : Int32)), (.ref b1), (.int (0 : Int32)), (.int (1 : Int32))]) (rest := []) (lenOf pd___CI_BII_I rfl) rfl (by show 2 * 0 + _ ≤ _; exact Nat.le_of_eq rfl) (hb hby d14_9) rfl e1 (by decide) (by decide) (c' := 1) (s' := 1) rfl rfl
  obtain ⟨rfl, Nq5, K5, fq5_0⟩ := hQ5
  have N5 := Fr.app N0 Nq5
  refine own_st (T' := T5) (g' := (mkF m 12 #[rv va, iv (0 : Int32), iv (1 : Int32), rv b1, .unset, .unset] [(.int (1 : Int32))])) st5 ?_
  clear st5
  refine own_st (T' := T5) (g' := (mkF m 14 #[rv va, iv (0 : Int32), iv (1 : Int32), rv b1, iv (1 : Int32), .unset] [])) (fun _ k_ => XS.istore X5.here hx rfl (hb hby d14_12) rfl (l' := #[rv va, iv (0 : Int32), iv (1 : Int32), rv b1, iv (1 : Int32), .unset]) rfl k_) ?_
  refine own_st (T' := T5) (g' := (mkF m 16 #[rv va, iv (0 : Int32), iv (1 : Int32), rv b1, iv (1 : Int32), .unset] [(.int (1 : Int32))])) (fun _ k_ => XS.iload X5.here hx rfl (hb hby d14_14) rfl  k_) ?_
  refine own_st (T' := T5) (g' := (mkF m 17 #[rv va, iv (0 : Int32), iv (1 : Int32), rv b1, iv (1 : Int32), .unset] [(.int (1 : Int32)), (.int (1 : Int32))])) (fun _ k_ => XS.iloadN X5.here hx rfl (hb hby d14_16) rfl  k_) ?_
  refine own_st (T' := T5) (g' := (mkF m 57 #[rv va, iv (0 : Int32), iv (1 : Int32), rv b1, iv (1 : Int32), .unset] [])) (fun _ k_ => XS.icmpYes X5.here hx rfl (pc0 := 17) (pc' := 57) rfl (hb hby d14_17) rfl (teq (rfl : (1 : Int32) = (1 : Int32))).1 (by decide) (by decide) k_) ?_
  refine own_st (T' := T5) (g' := (mkF m 58 #[rv va, iv (0 : Int32), iv (1 : Int32), rv b1, iv (1 : Int32), .unset] [(.ref b1)])) (fun _ k_ => XS.aloadN X5.here hx rfl (hb hby d14_57) rfl rfl  k_) ?_
  have f6 : Keep h0 h1 [] := (Keep.refl h0 []).ext E1
  have f7 : Keep h0 T5.heap [] := f6.trans K5 (allS (Or.inr sz1) all0)
  exact own_retA X5 hx hret rfl rfl hlk (hb hby d14_58) (by decide) (by decide) ⟨b1, k1, rfl, N5, f7, fq5_0, sz1⟩
theorem d16_0 : decode jdk_52_method_15_code 0 = .ok (.iload_n 1, 1) := by decide +kernel
theorem d16_1 : decode jdk_52_method_15_code 1 = .ok (.aload_n 0, 1) := by decide +kernel
theorem d16_2 : decode jdk_52_method_15_code 2 = .ok (.arraylength, 1) := by decide +kernel
theorem d16_3 : decode jdk_52_method_15_code 3 = .ok (.isub, 1) := by decide +kernel
theorem d16_4 : decode jdk_52_method_15_code 4 = .ok (.bipush 31, 2) := by decide +kernel
theorem d16_6 : decode jdk_52_method_15_code 6 = .ok (.iushr, 1) := by decide +kernel
theorem d16_7 : decode jdk_52_method_15_code 7 = .ok (.i2b, 1) := by decide +kernel
theorem d16_8 : decode jdk_52_method_15_code 8 = .ok (.ireturn, 1) := by decide +kernel
theorem ef_cdr_1 (m : MethodId) (x0 : Addr) (x1 : Int32) : entryFrame m #[(.ref x0), (.int x1)] 2 = mkF m 0 #[rv x0, iv x1] [] := by first | (simp [entryFrame, mkF, argsToLocals, Value.category]; done) | rfl
def Q_cdr_1 (Z : State) (t : Addr) (kb : ClassId) (vs : List Value) (h0 : Heap) (n0 : Nat) (v : Option Value) (h : Heap) (L : List Loc) : Prop := (v = some (.int (0 : Int32))) ∧ (Fr n0 L) ∧ (h = h0)
set_option maxRecDepth 65536 in
set_option maxHeartbeats 40000000 in
theorem rm_cdr_1 (l : Launch) (Z : State) (a0 : Array Value) (hw : ∀ d ∈ tables_1, d.before a0 Z = true) (ws : List Jvm.Cond) (t : Addr) (kb : ClassId) (vs : List Value) (h0 : Heap) (n0 : Nat) (O0 : Old Z n0 h0) (VT : Arv Z h0 t kb .byte (1 : Int32) vs (.int (0 : Int32))) :
    MetFree l own_m21 (head1 (Jvm.Cond.code own_m21 jdk_52_method_15_code 2 (some .byte) :: ws) ({ frames := 0, cells := 0, slots := 0, locals := 0 } : Room)) (fun ar_ U => ar_ = #[(.ref t), (.int (1 : Int32))] ∧ Z.Warmed39 U.vm ∧ U.heap = h0) (fun _ _ _ _ _ => True) (fun _ U o U' => ∃ v L, o = .returned v ∧ Q_cdr_1 Z t kb vs h0 n0 v U'.heap L ∧ FrameEnd U o U' L ({ frames := 0, cells := 0, slots := 0, locals := 0 } : Room).cells ({ frames := 0, cells := 0, slots := 0, locals := 0 } : Room).slots) := by
  refine MetFree.of_bodySF (plainFor_of_name pn_5) hisR ?_
  intro p e s m args below meth c s₁ Bd hml0 hP hK
  obtain ⟨rfl, hZ, hh⟩ := hP
  have hx := Bd.exec
  have hby := Bd.bytes
  have hml : c.maxLocals = 2 := hml0
  have hown : s.vm.findClass "java/lang/StringUTF16" = some m.cls := findClass_of_methodNamed Bd.named
  have hnm := (name_of_methodNamed Bd.named Bd.method).1
  have X0 : Stand p l e ({ frames := 0, cells := 0, slots := 0, locals := 0 } : Room) s m #[(.ref t), (.int (1 : Int32))] below meth c s₁ [] 0 0 := Stand.of_body Bd
  have e0 : s₁.heap = h0 := by rw [← hh, Bd.state]; rfl
  have N0 := Fr.nil n0
  have hret := Bd.returns
  have hlk : meth.locks = false := Bd.notSynchronized
  show own_E p e below s ({ frames := 0, cells := 0, slots := 0, locals := 0 } : Room).cells ({ frames := 0, cells := 0, slots := 0, locals := 0 } : Room).slots (Q_cdr_1 Z t kb vs h0 n0) s₁ (entryFrame m #[(.ref t), (.int (1 : Int32))] 2)
  rw [ef_cdr_1 m t (1 : Int32)]
  refine own_st (T' := s₁) (g' := (mkF m 1 #[rv t, iv (1 : Int32)] [(.int (1 : Int32))])) (fun _ k_ => XS.iloadN X0.here hx rfl (hb hby d16_0) rfl  k_) ?_
  refine own_st (T' := s₁) (g' := (mkF m 2 #[rv t, iv (1 : Int32)] [(.ref t), (.int (1 : Int32))])) (fun _ k_ => XS.aloadN X0.here hx rfl (hb hby d16_1) rfl rfl  k_) ?_
  obtain ⟨cl1, Ar1, -, S1, N1, -, -⟩ := id VT
  refine own_st (T' := s₁) (g' := (mkF m 3 #[rv t, iv (1 : Int32)] [(.int (1 : Int32)), (.int (1 : Int32))])) (fun t_ k_ => X0.arraylength hx (by rw [e0]; exact Ar1.1) (State.isArrayOf_alike hZ.alike Ar1.2.1) (g := (mkF m 2 #[rv t, iv (1 : Int32)] [(.ref t), (.int (1 : Int32))])) rfl rfl (hb hby d16_2) _ (by rw [len_of S1 N1]; exact k_)) ?_
  refine own_st (T' := s₁) (g' := (mkF m 4 #[rv t, iv (1 : Int32)] [(.int (0 : Int32))])) (fun _ k_ => XS.isub X0.here hx rfl (hb hby d16_3) rfl k_) ?_
  refine own_st (T' := s₁) (g' := (mkF m 6 #[rv t, iv (1 : Int32)] [(.int (31 : Int32)), (.int (0 : Int32))])) (fun _ k_ => XS.bipush X0.here hx rfl (hb hby d16_4) k_) ?_
  refine own_st (T' := s₁) (g' := (mkF m 7 #[rv t, iv (1 : Int32)] [(.int (((0 : Int32).toUInt32 >>> ((31 : Int32) &&& 31).toUInt32).toInt32))])) (fun _ k_ => XS.iushr X0.here hx rfl (hb hby d16_6) rfl k_) ?_
  refine own_st (T' := s₁) (g' := (mkF m 8 #[rv t, iv (1 : Int32)] [(.int ((((0 : Int32).toUInt32 >>> ((31 : Int32) &&& 31).toUInt32).toInt32).toInt8.toInt32))])) (fun _ k_ => XS.i2b X0.here hx rfl (hb hby d16_7) rfl k_) ?_
  exact own_retN X0 hx (t := .byte) hret (by simp) hlk (hb hby d16_8) (by decide) (by decide) ⟨(by decide), N0, e0⟩
theorem d4_27 : decode jdk_42_method_149_code 27 = .ok (.getstatic 38, 3) := by decide +kernel
theorem d4_30 : decode jdk_42_method_149_code 30 = .ok (.ifCond .eq 28, 3) := by decide +kernel
theorem d4_33 : decode jdk_42_method_149_code 33 = .ok (.aload_n 1, 1) := by decide +kernel
theorem d4_34 : decode jdk_42_method_149_code 34 = .ok (.iload_n 2, 1) := by decide +kernel
theorem d4_35 : decode jdk_42_method_149_code 35 = .ok (.iload_n 3, 1) := by decide +kernel
theorem d4_36 : decode jdk_42_method_149_code 36 = .ok (.invokestatic 177, 3) := by decide +kernel
theorem d4_39 : decode jdk_42_method_149_code 39 = .ok (.astore 5, 2) := by decide +kernel
theorem d4_41 : decode jdk_42_method_149_code 41 = .ok (.aload_n 0, 1) := by decide +kernel
theorem d4_42 : decode jdk_42_method_149_code 42 = .ok (.aload 5, 2) := by decide +kernel
theorem d4_44 : decode jdk_42_method_149_code 44 = .ok (.iload_n 3, 1) := by decide +kernel
theorem d4_45 : decode jdk_42_method_149_code 45 = .ok (.invokestatic 47, 3) := by decide +kernel
theorem d4_48 : decode jdk_42_method_149_code 48 = .ok (.putfield 15, 3) := by decide +kernel
theorem d4_51 : decode jdk_42_method_149_code 51 = .ok (.aload_n 0, 1) := by decide +kernel
theorem d4_52 : decode jdk_42_method_149_code 52 = .ok (.aload 5, 2) := by decide +kernel
theorem d4_54 : decode jdk_42_method_149_code 54 = .ok (.putfield 9, 3) := by decide +kernel
theorem d4_57 : decode jdk_42_method_149_code 57 = .ok (.return_, 1) := by decide +kernel
theorem pd___CII__B : parseMethodDescriptor "([CII)[B" = some ⟨[(.array .char), .int, .int], some (.array .byte)⟩ := by decide +kernel
theorem pd___BI_B : parseMethodDescriptor "([BI)B" = some ⟨[(.array .byte), .int], some .byte⟩ := by decide +kernel
theorem ef_ini4_1 (m : MethodId) (x0 : Addr) (x1 : Addr) (x2 : Int32) (x3 : Int32) : entryFrame m #[(.ref x0), (.ref x1), (.int x2), (.int x3), .null] 6 = mkF m 0 #[rv x0, rv x1, iv x2, iv x3, .val .null, .unset] [] := by first | (simp [entryFrame, mkF, argsToLocals, Value.category]; done) | rfl
def Q_ini4_1 (Z : State) (a : Addr) (va : Addr) (kc : ClassId) (cz : Int32) (c0 : Int32) (h0 : Heap) (n0 : Nat) (v : Option Value) (h : Heap) (L : List Loc) : Prop := ∃ (t : Addr) (kb : ClassId), (v = none) ∧ (Fr n0 L) ∧ (Keep h0 h [a]) ∧ (Exa Z h a "java/lang/String") ∧ (Fld Z h a "java/lang/String" "coder" "B" (.int (0 : Int32))) ∧ (Fld Z h a "java/lang/String" "value" "[B" (.ref t)) ∧ (Arv Z h t kb .byte (1 : Int32) [(.int (c0.toInt8.toInt32))] (.int (0 : Int32))) ∧ (h0.size ≤ t)
set_option maxRecDepth 65536 in
set_option maxHeartbeats 40000000 in
theorem rm_ini4_1 (l : Launch) (Z : State) (a0 : Array Value) (hw : ∀ d ∈ tables_1, d.before a0 Z = true) (ws : List Jvm.Cond) (a : Addr) (va : Addr) (kc : ClassId) (cz : Int32) (c0 : Int32) (h0 : Heap) (n0 : Nat) (O0 : Old Z n0 h0) (EA : Exa Z h0 a "java/lang/String") (FV : Fld Z h0 a "java/lang/String" "value" "[B" .null) (FC : Fld Z h0 a "java/lang/String" "coder" "B" (.int (0 : Int32))) (fa : n0 ≤ a) (VA : Arv Z h0 va kc .char (1 : Int32) [(.int c0)] (.int (0 : Int32))) (SC : Sta Z Z.heap "java/lang/String" "COMPACT_STRINGS" "Z" (.int cz)) (hcz : ¬ cz = (0 : Int32)) (hp0 : ¬ (255 : Int32) < c0) :
    MetFree l own_m17 (head1 (Jvm.Cond.code own_m17 jdk_42_method_149_code 6 none :: ws) ({ frames := 2, cells := 1, slots := 1, locals := 35 } : Room)) (fun ar_ U => ar_ = #[(.ref a), (.ref va), (.int (0 : Int32)), (.int (1 : Int32)), .null] ∧ Z.Warmed39 U.vm ∧ U.heap = h0) (fun _ _ _ _ _ => True) (fun _ U o U' => ∃ v L, o = .returned v ∧ Q_ini4_1 Z a va kc cz c0 h0 n0 v U'.heap L ∧ FrameEnd U o U' L ({ frames := 2, cells := 1, slots := 1, locals := 35 } : Room).cells ({ frames := 2, cells := 1, slots := 1, locals := 35 } : Room).slots) := by
  refine MetFree.of_bodySF (plainFor_of_name pn_0) hisR ?_
  intro p e s m args below meth c s₁ Bd hml0 hP hK
  obtain ⟨rfl, hZ, hh⟩ := hP
  have hx := Bd.exec
  have hby := Bd.bytes
  have hml : c.maxLocals = 6 := hml0
  have hown : s.vm.findClass "java/lang/String" = some m.cls := findClass_of_methodNamed Bd.named
  have hnm := (name_of_methodNamed Bd.named Bd.method).1
  have X0 : Stand p l e ({ frames := 2, cells := 1, slots := 1, locals := 35 } : Room) s m #[(.ref a), (.ref va), (.int (0 : Int32)), (.int (1 : Int32)), .null] below meth c s₁ [] 0 0 := Stand.of_body Bd
  have e0 : s₁.heap = h0 := by rw [← hh, Bd.state]; rfl
  have N0 := Fr.nil n0
  have hret := Bd.returns
  have hlk : meth.locks = false := Bd.notSynchronized
  show own_E p e below s ({ frames := 2, cells := 1, slots := 1, locals := 35 } : Room).cells ({ frames := 2, cells := 1, slots := 1, locals := 35 } : Room).slots (Q_ini4_1 Z a va kc cz c0 h0 n0) s₁ (entryFrame m #[(.ref a), (.ref va), (.int (0 : Int32)), (.int (1 : Int32)), .null] 6)
  rw [ef_ini4_1 m a va (0 : Int32) (1 : Int32)]
  refine own_st (T' := s₁) (g' := (mkF m 1 #[rv a, rv va, iv (0 : Int32), iv (1 : Int32), .val .null, .unset] [(.ref a)])) (fun _ k_ => XS.aloadN X0.here hx rfl (hb hby d4_0) rfl rfl  k_) ?_
  obtain ⟨T1, X1, e1, st1⟩ := initO X0 hx hZ hown (wd hw 19 rfl) (wd hw 20 rfl) (wd hw 21 rfl) e0 (g := (mkF m 1 #[rv a, rv va, iv (0 : Int32), iv (1 : Int32), .val .null, .unset] [(.ref a)])) rfl (by rw [hml]; rfl) rfl (hb hby d4_1) (by decide) (W := 0) (by show 2 * 0 + _ ≤ _; exact Nat.le_of_eq rfl) (by decide)
  refine own_st (T' := T1) (g' := (mkF m 4 #[rv a, rv va, iv (0 : Int32), iv (1 : Int32), .val .null, .unset] [])) st1 ?_
  clear st1
  refine own_st (T' := T1) (g' := (mkF m 5 #[rv a, rv va, iv (0 : Int32), iv (1 : Int32), .val .null, .unset] [(.int (1 : Int32))])) (fun _ k_ => XS.iloadN X1.here hx rfl (hb hby d4_4) rfl  k_) ?_
  refine own_st (T' := T1) (g' := (mkF m 27 #[rv a, rv va, iv (0 : Int32), iv (1 : Int32), .val .null, .unset] [])) (fun _ k_ => XS.ifYes X1.here hx rfl (pc0 := 5) (pc' := 27) rfl (hb hby d4_5) rfl ((if0 _ _).trans (feq (by decide : ¬ ((1 : Int32) = (0 : Int32)))).2) (by decide) (by decide) k_) ?_
  obtain ⟨T2, X2, e2, st2⟩ := getS2 X1 hx hZ hown (host := "") (Or.inl (wd hw 44 rfl)) Via.refl e1 (SC.ext O0.2) (g := (mkF m 27 #[rv a, rv va, iv (0 : Int32), iv (1 : Int32), .val .null, .unset] [])) rfl (hb hby d4_27)
  refine own_st (T' := T2) (g' := (mkF m 30 #[rv a, rv va, iv (0 : Int32), iv (1 : Int32), .val .null, .unset] [(.int cz)])) st2 ?_
  clear st2
  refine own_st (T' := T2) (g' := (mkF m 33 #[rv a, rv va, iv (0 : Int32), iv (1 : Int32), .val .null, .unset] [])) (fun _ k_ => XS.ifNo X2.here hx rfl (hb hby d4_30) rfl ((if0 _ _).trans (feq (hcz : ¬ (cz = (0 : Int32)))).1) k_) ?_
  refine own_st (T' := T2) (g' := (mkF m 34 #[rv a, rv va, iv (0 : Int32), iv (1 : Int32), .val .null, .unset] [(.ref va)])) (fun _ k_ => XS.aloadN X2.here hx rfl (hb hby d4_33) rfl rfl  k_) ?_
  refine own_st (T' := T2) (g' := (mkF m 35 #[rv a, rv va, iv (0 : Int32), iv (1 : Int32), .val .null, .unset] [(.int (0 : Int32)), (.ref va)])) (fun _ k_ => XS.iloadN X2.here hx rfl (hb hby d4_34) rfl  k_) ?_
  refine own_st (T' := T2) (g' := (mkF m 36 #[rv a, rv va, iv (0 : Int32), iv (1 : Int32), .val .null, .unset] [(.int (1 : Int32)), (.int (0 : Int32)), (.ref va)])) (fun _ k_ => XS.iloadN X2.here hx rfl (hb hby d4_35) rfl  k_) ?_
  obtain ⟨_, T3, L3, X3, hQ3, st3⟩ := own_callS X2 hx (y := own_m20) hown (mvT hZ (wd hw 66 rfl)) (mvT hZ (wd hw 67 rfl)) (mvT hZ (wd hw 68 rfl)) (mvT hZ (wd hw 69 rfl)) (by decide) (backOf (W := 0) (rm_cmp3_1 l Z a0 hw [] va kc c0 h0 n0 O0 VA hp0) hZ (wd hw 69 rfl) (wd hw 68 rfl) (by decide) (by decide)) (g := (mkF m 36 #[rv a, rv va, iv (0 : Int32), iv (1 : Int32), .val .null, .unset] [(.int (1 : Int32)), (.int (0 : Int32)), (.ref va)])) rfl (by rw [hml]; rfl) (argsL := [(.ref va), (.int (0 : Int32)), (.int (1 : Int32))]) (rest := []) (lenOf pd___CII__B rfl) rfl (by show 2 * 0 + _ ≤ _; exact Nat.le_of_eq rfl) (hb hby d4_36) rfl e2 (by decide) (by decide) (c' := 1) (s' := 1) rfl rfl
  obtain ⟨t3, kb3, rfl, Nq3, K3, fq3_0, xq3_fresh_t⟩ := hQ3
  have N3 := Fr.app N0 Nq3
  refine own_st (T' := T3) (g' := (mkF m 39 #[rv a, rv va, iv (0 : Int32), iv (1 : Int32), .val .null, .unset] [(.ref t3)])) st3 ?_
  clear st3
  refine own_st (T' := T3) (g' := (mkF m 41 #[rv a, rv va, iv (0 : Int32), iv (1 : Int32), .val .null, rv t3] [])) (fun _ k_ => XS.astore X3.here hx rfl (hb hby d4_39) rfl rfl (l' := #[rv a, rv va, iv (0 : Int32), iv (1 : Int32), .val .null, rv t3]) rfl k_) ?_
  refine own_st (T' := T3) (g' := (mkF m 42 #[rv a, rv va, iv (0 : Int32), iv (1 : Int32), .val .null, rv t3] [(.ref a)])) (fun _ k_ => XS.aloadN X3.here hx rfl (hb hby d4_41) rfl rfl  k_) ?_
  refine own_st (T' := T3) (g' := (mkF m 44 #[rv a, rv va, iv (0 : Int32), iv (1 : Int32), .val .null, rv t3] [(.ref t3), (.ref a)])) (fun _ k_ => XS.aload X3.here hx rfl (hb hby d4_42) rfl rfl  k_) ?_
  refine own_st (T' := T3) (g' := (mkF m 45 #[rv a, rv va, iv (0 : Int32), iv (1 : Int32), .val .null, rv t3] [(.int (1 : Int32)), (.ref t3), (.ref a)])) (fun _ k_ => XS.iloadN X3.here hx rfl (hb hby d4_44) rfl  k_) ?_
  have f4 : Old Z n0 T3.heap := O0.keep K3 all0
  obtain ⟨_, T5, L5, X5, hQ5, st5⟩ := own_callS X3 hx (y := own_m21) hown (mvT hZ (wd hw 73 rfl)) (mvT hZ (wd hw 74 rfl)) (mvT hZ (wd hw 68 rfl)) (mvT hZ (wd hw 75 rfl)) (by decide) (backOf (W := 1) (rm_cdr_1 l Z a0 hw [] t3 kb3 [(.int (c0.toInt8.toInt32))] T3.heap n0 f4 fq3_0) hZ (wd hw 75 rfl) (wd hw 68 rfl) (by decide) (by decide)) (g := (mkF m 45 #[rv a, rv va, iv (0 : Int32), iv (1 : Int32), .val .null, rv t3] [(.int (1 : Int32)), (.ref t3), (.ref a)])) rfl (by rw [hml]; rfl) (argsL := [(.ref t3), (.int (1 : Int32))]) (rest := [(.ref a)]) (lenOf pd___BI_B rfl) rfl (by show 2 * 0 + _ ≤ _; exact Nat.le_of_eq rfl) (hb hby d4_45) rfl rfl (by decide) (by decide) (c' := 1) (s' := 1) rfl rfl
  obtain ⟨rfl, Nq5, eq5⟩ := hQ5
  have N5 := Fr.app N3 Nq5
  refine own_st (T' := T5) (g' := (mkF m 48 #[rv a, rv va, iv (0 : Int32), iv (1 : Int32), .val .null, rv t3] [(.int (0 : Int32)), (.ref a)])) st5 ?_
  clear st5
  have f6 : Exa Z T3.heap a "java/lang/String" := EA.keep K3
  have f7 : Fld Z T3.heap a "java/lang/String" "coder" "B" (.int (0 : Int32)) := FC.keep K3 nin0
  obtain ⟨T8, h8, X8, e8, W8, st8⟩ := putFN X5 hx hZ hown (wd hw 29 rfl) Via.refl eq5 f7 f6 (Or.inr ⟨(wd hw 25 rfl), rfl, hnm⟩) (wd hw 10 rfl) (ty := .byte) (v' := (.int (0 : Int32))) (by decide) rfl (by decide) (g := (mkF m 48 #[rv a, rv va, iv (0 : Int32), iv (1 : Int32), .val .null, rv t3] [(.int (0 : Int32)), (.ref a)])) rfl rfl (hb hby d4_48)
  have Fw8 : Fld Z h8 a "java/lang/String" "coder" "B" (.int (0 : Int32)) := Fld.same W8 f7
  have N8 := Fr.snoc X8 N5 fa
  refine own_st (T' := T8) (g' := (mkF m 51 #[rv a, rv va, iv (0 : Int32), iv (1 : Int32), .val .null, rv t3] [])) st8 ?_
  clear st8
  refine own_st (T' := T8) (g' := (mkF m 52 #[rv a, rv va, iv (0 : Int32), iv (1 : Int32), .val .null, rv t3] [(.ref a)])) (fun _ k_ => XS.aloadN X8.here hx rfl (hb hby d4_51) rfl rfl  k_) ?_
  refine own_st (T' := T8) (g' := (mkF m 54 #[rv a, rv va, iv (0 : Int32), iv (1 : Int32), .val .null, rv t3] [(.ref t3), (.ref a)])) (fun _ k_ => XS.aload X8.here hx rfl (hb hby d4_52) rfl rfl  k_) ?_
  have f9 : Exa Z h8 a "java/lang/String" := f6.wr W8
  have f10 : Fld Z T3.heap a "java/lang/String" "value" "[B" .null := FV.keep K3 nin0
  have f11 : Fld Z h8 a "java/lang/String" "value" "[B" .null := f10.other W8 (Or.inr (slot_ne (Or.inr (wd hw 24 rfl)) (Or.inr (wd hw 25 rfl)) (by decide) (t := (.array .byte)) (t' := .byte) (by decide) (by decide)))
  obtain ⟨T12, h12, X12, e12, W12, st12⟩ := putF X8 hx hZ hown (host := "") (Or.inl (wd hw 28 rfl)) Via.refl e8 f11 f9 (Or.inr ⟨(wd hw 24 rfl), rfl, hnm⟩) (wd hw 10 rfl) (ty := (.array .byte)) (by decide) rfl rfl (g := (mkF m 54 #[rv a, rv va, iv (0 : Int32), iv (1 : Int32), .val .null, rv t3] [(.ref t3), (.ref a)])) rfl rfl (hb hby d4_54)
  have Fw12 : Fld Z h12 a "java/lang/String" "value" "[B" (.ref t3) := Fld.same W12 f11
  have N12 := Fr.snoc X12 N8 fa
  refine own_st (T' := T12) (g' := (mkF m 57 #[rv a, rv va, iv (0 : Int32), iv (1 : Int32), .val .null, rv t3] [])) st12 ?_
  clear st12
  have f13 : Keep h0 T3.heap [a] := (Keep.refl h0 [a]).trans K3 all0
  have f14 : Keep h0 h8 [a] := f13.wr W8 (Or.inl (List.mem_of_getElem? (i := 0) rfl))
  have f15 : Keep h0 h12 [a] := f14.wr W12 (Or.inl (List.mem_of_getElem? (i := 0) rfl))
  have f16 : Exa Z h12 a "java/lang/String" := f9.wr W12
  have f17 : Fld Z h12 a "java/lang/String" "coder" "B" (.int (0 : Int32)) := Fw8.other W12 (Or.inr (slot_ne (Or.inr (wd hw 25 rfl)) (Or.inr (wd hw 24 rfl)) (by decide) (t := .byte) (t' := (.array .byte)) (by decide) (by decide)))
  have ne18 : a ≠ t3 := Nat.ne_of_lt (Nat.lt_of_lt_of_le EA.lt xq3_fresh_t)
  have f19 : Arv Z h8 t3 kb3 .byte (1 : Int32) [(.int (c0.toInt8.toInt32))] (.int (0 : Int32)) := fq3_0.other W8 (Ne.symm ne18)
  have f20 : Arv Z h12 t3 kb3 .byte (1 : Int32) [(.int (c0.toInt8.toInt32))] (.int (0 : Int32)) := f19.other W12 (Ne.symm ne18)
  exact own_retV X12 hx hret hlk (hb hby d4_57) (by decide) (by decide) (by rw [e12]; exact ⟨t3, kb3, rfl, N12, f15, f16, f17, Fw12, f20, (Nat.le_trans (Keep.refl h0 [a]).1 xq3_fresh_t)⟩)
theorem ef_ini1_1 (m : MethodId) (x0 : Addr) (x1 : Addr) : entryFrame m #[(.ref x0), (.ref x1)] 2 = mkF m 0 #[rv x0, rv x1] [] := by first | (simp [entryFrame, mkF, argsToLocals, Value.category]; done) | rfl
def Q_ini1_1 (Z : State) (a : Addr) (va : Addr) (kc : ClassId) (cz : Int32) (c0 : Int32) (h0 : Heap) (n0 : Nat) (v : Option Value) (h : Heap) (L : List Loc) : Prop := ∃ (t : Addr) (kb : ClassId), (v = none) ∧ (Fr n0 L) ∧ (Keep h0 h [a]) ∧ (Exa Z h a "java/lang/String") ∧ (Fld Z h a "java/lang/String" "coder" "B" (.int (0 : Int32))) ∧ (Fld Z h a "java/lang/String" "value" "[B" (.ref t)) ∧ (Arv Z h t kb .byte (1 : Int32) [(.int (c0.toInt8.toInt32))] (.int (0 : Int32))) ∧ (h0.size ≤ t)
set_option maxRecDepth 65536 in
set_option maxHeartbeats 40000000 in
theorem rm_ini1_1 (l : Launch) (Z : State) (a0 : Array Value) (hw : ∀ d ∈ tables_1, d.before a0 Z = true) (ws : List Jvm.Cond) (a : Addr) (va : Addr) (kc : ClassId) (cz : Int32) (c0 : Int32) (h0 : Heap) (n0 : Nat) (O0 : Old Z n0 h0) (EA : Exa Z h0 a "java/lang/String") (FV : Fld Z h0 a "java/lang/String" "value" "[B" .null) (FC : Fld Z h0 a "java/lang/String" "coder" "B" (.int (0 : Int32))) (fa : n0 ≤ a) (VA : Arv Z h0 va kc .char (1 : Int32) [(.int c0)] (.int (0 : Int32))) (SC : Sta Z Z.heap "java/lang/String" "COMPACT_STRINGS" "Z" (.int cz)) (hcz : ¬ cz = (0 : Int32)) (hp0 : ¬ (255 : Int32) < c0) :
    MetFree l own_m18 (head1 (Jvm.Cond.code own_m18 jdk_42_method_3_code 2 none :: ws) ({ frames := 3, cells := 4, slots := 8, locals := 52 } : Room)) (fun ar_ U => ar_ = #[(.ref a), (.ref va)] ∧ Z.Warmed39 U.vm ∧ U.heap = h0) (fun _ _ _ _ _ => True) (fun _ U o U' => ∃ v L, o = .returned v ∧ Q_ini1_1 Z a va kc cz c0 h0 n0 v U'.heap L ∧ FrameEnd U o U' L ({ frames := 3, cells := 4, slots := 8, locals := 52 } : Room).cells ({ frames := 3, cells := 4, slots := 8, locals := 52 } : Room).slots) := by
  refine MetFree.of_bodySF (plainFor_of_name pn_0) hisR ?_
  intro p e s m args below meth c s₁ Bd hml0 hP hK
  obtain ⟨rfl, hZ, hh⟩ := hP
  have hx := Bd.exec
  have hby := Bd.bytes
  have hml : c.maxLocals = 2 := hml0
  have hown : s.vm.findClass "java/lang/String" = some m.cls := findClass_of_methodNamed Bd.named
  have hnm := (name_of_methodNamed Bd.named Bd.method).1
  have X0 : Stand p l e ({ frames := 3, cells := 4, slots := 8, locals := 52 } : Room) s m #[(.ref a), (.ref va)] below meth c s₁ [] 0 0 := Stand.of_body Bd
  have e0 : s₁.heap = h0 := by rw [← hh, Bd.state]; rfl
  have N0 := Fr.nil n0
  have hret := Bd.returns
  have hlk : meth.locks = false := Bd.notSynchronized
  show own_E p e below s ({ frames := 3, cells := 4, slots := 8, locals := 52 } : Room).cells ({ frames := 3, cells := 4, slots := 8, locals := 52 } : Room).slots (Q_ini1_1 Z a va kc cz c0 h0 n0) s₁ (entryFrame m #[(.ref a), (.ref va)] 2)
  rw [ef_ini1_1 m a va]
  refine own_st (T' := s₁) (g' := (mkF m 1 #[rv a, rv va] [(.ref a)])) (fun _ k_ => XS.aloadN X0.here hx rfl (hb hby d3_0) rfl rfl  k_) ?_
  refine own_st (T' := s₁) (g' := (mkF m 2 #[rv a, rv va] [(.ref va), (.ref a)])) (fun _ k_ => XS.aloadN X0.here hx rfl (hb hby d3_1) rfl rfl  k_) ?_
  refine own_st (T' := s₁) (g' := (mkF m 3 #[rv a, rv va] [(.int (0 : Int32)), (.ref va), (.ref a)])) (fun _ k_ => XS.iconst X0.here hx rfl (hb hby d3_2) k_) ?_
  refine own_st (T' := s₁) (g' := (mkF m 4 #[rv a, rv va] [(.ref va), (.int (0 : Int32)), (.ref va), (.ref a)])) (fun _ k_ => XS.aloadN X0.here hx rfl (hb hby d3_3) rfl rfl  k_) ?_
  obtain ⟨cl1, Ar1, -, S1, N1, -, -⟩ := id VA
  refine own_st (T' := s₁) (g' := (mkF m 5 #[rv a, rv va] [(.int (1 : Int32)), (.int (0 : Int32)), (.ref va), (.ref a)])) (fun t_ k_ => X0.arraylength hx (by rw [e0]; exact Ar1.1) (State.isArrayOf_alike hZ.alike Ar1.2.1) (g := (mkF m 4 #[rv a, rv va] [(.ref va), (.int (0 : Int32)), (.ref va), (.ref a)])) rfl rfl (hb hby d3_4) _ (by rw [len_of S1 N1]; exact k_)) ?_
  refine own_st (T' := s₁) (g' := (mkF m 6 #[rv a, rv va] [.null, (.int (1 : Int32)), (.int (0 : Int32)), (.ref va), (.ref a)])) (fun _ k_ => XS.aconstNull X0.here hx rfl (hb hby d3_5) k_) ?_
  obtain ⟨_, T2, L2, X2, hQ2, st2⟩ := own_callI X0 hx (y := own_m17) rfl hown (mvT hZ (wd hw 15 rfl)) (mvT hZ (wd hw 16 rfl)) (mvT hZ (wd hw 18 rfl)) (by decide) (backOf (W := 0) (rm_ini4_1 l Z a0 hw [] a va kc cz c0 h0 n0 O0 EA FV FC fa VA SC hcz hp0) hZ (wd hw 18 rfl) (wd hw 11 rfl) (by decide) (by decide)) (g := (mkF m 6 #[rv a, rv va] [.null, (.int (1 : Int32)), (.int (0 : Int32)), (.ref va), (.ref a)])) rfl (by rw [hml]; rfl) (a := a) (argsL := [(.ref va), (.int (0 : Int32)), (.int (1 : Int32)), .null]) (rest := []) (lenOf pd___CIILjava_lang_Void__V rfl) rfl (by show 2 * 0 + _ ≤ _; exact Nat.le_of_eq rfl) (hb hby d3_6) rfl e0 (by decide) (by decide) (c' := 1) (s' := 1) rfl rfl
  obtain ⟨t2, kb2, rfl, Nq2, K2, fq2_0, fq2_1, fq2_2, fq2_3, xq2_fresh_t⟩ := hQ2
  have N2 := Fr.app N0 Nq2
  refine own_st (T' := T2) (g' := (mkF m 9 #[rv a, rv va] [])) st2 ?_
  clear st2
  have f3 : Keep h0 T2.heap [a] := (Keep.refl h0 [a]).trans K2 (allS (Or.inl (List.mem_of_getElem? (i := 0) rfl)) all0)
  exact own_retV X2 hx hret hlk (hb hby d3_9) (by decide) (by decide) ⟨t2, kb2, rfl, N2, f3, fq2_0, fq2_1, fq2_2, fq2_3, (Nat.le_trans (Keep.refl h0 [a]).1 xq2_fresh_t)⟩
theorem ef_cmp5_2 (m : MethodId) (x0 : Addr) (x1 : Int32) (x2 : Addr) (x3 : Int32) (x4 : Int32) : entryFrame m #[(.ref x0), (.int x1), (.ref x2), (.int x3), (.int x4)] 7 = mkF m 0 #[rv x0, iv x1, rv x2, iv x3, iv x4, .unset, .unset] [] := by first | (simp [entryFrame, mkF, argsToLocals, Value.category]; done) | rfl
def Q_cmp5_2 (Z : State) (va : Addr) (da : Addr) (kc : ClassId) (kd : ClassId) (c0 : Int32) (c1 : Int32) (h0 : Heap) (n0 : Nat) (v : Option Value) (h : Heap) (L : List Loc) : Prop := (v = some (.int (2 : Int32))) ∧ (Fr n0 L) ∧ (Keep h0 h [da]) ∧ (Arv Z h da kd .byte (2 : Int32) [(.int (c0.toInt8.toInt32)), (.int (c1.toInt8.toInt32))] (.int (0 : Int32)))
set_option maxRecDepth 65536 in
set_option maxHeartbeats 40000000 in
theorem rm_cmp5_2 (l : Launch) (Z : State) (a0 : Array Value) (hw : ∀ d ∈ tables_1, d.before a0 Z = true) (ws : List Jvm.Cond) (va : Addr) (da : Addr) (kc : ClassId) (kd : ClassId) (c0 : Int32) (c1 : Int32) (h0 : Heap) (n0 : Nat) (O0 : Old Z n0 h0) (VA : Arv Z h0 va kc .char (2 : Int32) [(.int c0), (.int c1)] (.int (0 : Int32))) (VD : Arv Z h0 da kd .byte (2 : Int32) [(.int (0 : Int32)), (.int (0 : Int32))] (.int (0 : Int32))) (nad : va ≠ da) (fda : n0 ≤ da) (hp0 : ¬ (255 : Int32) < c0) (hp1 : ¬ (255 : Int32) < c1) :
    MetFree l own_m19 (head1 (Jvm.Cond.code own_m19 jdk_52_method_21_code 7 (some .int) :: ws) ({ frames := 0, cells := 0, slots := 0, locals := 0 } : Room)) (fun ar_ U => ar_ = #[(.ref va), (.int (0 : Int32)), (.ref da), (.int (0 : Int32)), (.int (2 : Int32))] ∧ Z.Warmed39 U.vm ∧ U.heap = h0) (fun _ _ _ _ _ => True) (fun _ U o U' => ∃ v L, o = .returned v ∧ Q_cmp5_2 Z va da kc kd c0 c1 h0 n0 v U'.heap L ∧ FrameEnd U o U' L ({ frames := 0, cells := 0, slots := 0, locals := 0 } : Room).cells ({ frames := 0, cells := 0, slots := 0, locals := 0 } : Room).slots) := by
  refine MetFree.of_bodySF (plainFor_of_name pn_5) hisR ?_
  intro p e s m args below meth c s₁ Bd hml0 hP hK
  obtain ⟨rfl, hZ, hh⟩ := hP
  have hx := Bd.exec
  have hby := Bd.bytes
  have hml : c.maxLocals = 7 := hml0
  have hown : s.vm.findClass "java/lang/StringUTF16" = some m.cls := findClass_of_methodNamed Bd.named
  have hnm := (name_of_methodNamed Bd.named Bd.method).1
  have X0 : Stand p l e ({ frames := 0, cells := 0, slots := 0, locals := 0 } : Room) s m #[(.ref va), (.int (0 : Int32)), (.ref da), (.int (0 : Int32)), (.int (2 : Int32))] below meth c s₁ [] 0 0 := Stand.of_body Bd
  have e0 : s₁.heap = h0 := by rw [← hh, Bd.state]; rfl
  have N0 := Fr.nil n0
  have hret := Bd.returns
  have hlk : meth.locks = false := Bd.notSynchronized
  show own_E p e below s ({ frames := 0, cells := 0, slots := 0, locals := 0 } : Room).cells ({ frames := 0, cells := 0, slots := 0, locals := 0 } : Room).slots (Q_cmp5_2 Z va da kc kd c0 c1 h0 n0) s₁ (entryFrame m #[(.ref va), (.int (0 : Int32)), (.ref da), (.int (0 : Int32)), (.int (2 : Int32))] 7)
  rw [ef_cmp5_2 m va (0 : Int32) da (0 : Int32) (2 : Int32)]
  refine own_st (T' := s₁) (g' := (mkF m 1 #[rv va, iv (0 : Int32), rv da, iv (0 : Int32), iv (2 : Int32), .unset, .unset] [(.int (0 : Int32))])) (fun _ k_ => XS.iconst X0.here hx rfl (hb hby d15_0) k_) ?_
  refine own_st (T' := s₁) (g' := (mkF m 3 #[rv va, iv (0 : Int32), rv da, iv (0 : Int32), iv (2 : Int32), iv (0 : Int32), .unset] [])) (fun _ k_ => XS.istore X0.here hx rfl (hb hby d15_1) rfl (l' := #[rv va, iv (0 : Int32), rv da, iv (0 : Int32), iv (2 : Int32), iv (0 : Int32), .unset]) rfl k_) ?_
  refine own_st (T' := s₁) (g' := (mkF m 5 #[rv va, iv (0 : Int32), rv da, iv (0 : Int32), iv (2 : Int32), iv (0 : Int32), .unset] [(.int (0 : Int32))])) (fun _ k_ => XS.iload X0.here hx rfl (hb hby d15_3) rfl  k_) ?_
  refine own_st (T' := s₁) (g' := (mkF m 7 #[rv va, iv (0 : Int32), rv da, iv (0 : Int32), iv (2 : Int32), iv (0 : Int32), .unset] [(.int (2 : Int32)), (.int (0 : Int32))])) (fun _ k_ => XS.iload X0.here hx rfl (hb hby d15_5) rfl  k_) ?_
  refine own_st (T' := s₁) (g' := (mkF m 10 #[rv va, iv (0 : Int32), rv da, iv (0 : Int32), iv (2 : Int32), iv (0 : Int32), .unset] [])) (fun _ k_ => XS.icmpNo X0.here hx rfl (hb hby d15_7) rfl (tlt (by decide : (0 : Int32) < (2 : Int32))).2.1 k_) ?_
  refine own_st (T' := s₁) (g' := (mkF m 11 #[rv va, iv (0 : Int32), rv da, iv (0 : Int32), iv (2 : Int32), iv (0 : Int32), .unset] [(.ref va)])) (fun _ k_ => XS.aloadN X0.here hx rfl (hb hby d15_10) rfl rfl  k_) ?_
  refine own_st (T' := s₁) (g' := (mkF m 12 #[rv va, iv (0 : Int32), rv da, iv (0 : Int32), iv (2 : Int32), iv (0 : Int32), .unset] [(.int (0 : Int32)), (.ref va)])) (fun _ k_ => XS.iloadN X0.here hx rfl (hb hby d15_11) rfl  k_) ?_
  obtain ⟨cl1, Ar1, q1, S1, N1, H1, G1⟩ := id VA
  have hin1 : ¬ ((0 : Int32) < 0 ∨ cl1.slots.size ≤ ((0 : Int32)).toNatClampNeg) := inb_of S1 ⟨by decide, by decide⟩
  refine own_st (T' := s₁) (g' := (mkF m 13 #[rv va, iv (0 : Int32), rv da, iv (0 : Int32), iv (2 : Int32), iv (0 : Int32), .unset] [(.int c0)])) (X0.caload hx (j := (0 : Int32)) (v := (.int c0)) (by rw [e0]; exact Ar1.1) (State.isArrayOf_alike hZ.alike Ar1.2.1) Ar1.2.2 hin1 (H1.at hin1 rfl) (g := (mkF m 12 #[rv va, iv (0 : Int32), rv da, iv (0 : Int32), iv (2 : Int32), iv (0 : Int32), .unset] [(.int (0 : Int32)), (.ref va)])) rfl rfl (hb hby d15_12)) ?_
  clear hin1 G1 H1 N1 S1 q1 Ar1 cl1
  refine own_st (T' := s₁) (g' := (mkF m 15 #[rv va, iv (0 : Int32), rv da, iv (0 : Int32), iv (2 : Int32), iv (0 : Int32), iv c0] [])) (fun _ k_ => XS.istore X0.here hx rfl (hb hby d15_13) rfl (l' := #[rv va, iv (0 : Int32), rv da, iv (0 : Int32), iv (2 : Int32), iv (0 : Int32), iv c0]) rfl k_) ?_
  refine own_st (T' := s₁) (g' := (mkF m 17 #[rv va, iv (0 : Int32), rv da, iv (0 : Int32), iv (2 : Int32), iv (0 : Int32), iv c0] [(.int c0)])) (fun _ k_ => XS.iload X0.here hx rfl (hb hby d15_15) rfl  k_) ?_
  refine own_st (T' := s₁) (g' := (mkF m 20 #[rv va, iv (0 : Int32), rv da, iv (0 : Int32), iv (2 : Int32), iv (0 : Int32), iv c0] [(.int (255 : Int32)), (.int c0)])) (fun _ k_ => XS.sipush X0.here hx rfl (hb hby d15_17) k_) ?_
  refine own_st (T' := s₁) (g' := (mkF m 26 #[rv va, iv (0 : Int32), rv da, iv (0 : Int32), iv (2 : Int32), iv (0 : Int32), iv c0] [])) (fun _ k_ => XS.icmpYes X0.here hx rfl (pc0 := 20) (pc' := 26) rfl (hb hby d15_20) rfl (flt (hp0 : ¬ ((255 : Int32) < c0))).2.2.2 (by decide) (by decide) k_) ?_
  refine own_st (T' := s₁) (g' := (mkF m 27 #[rv va, iv (0 : Int32), rv da, iv (0 : Int32), iv (2 : Int32), iv (0 : Int32), iv c0] [(.ref da)])) (fun _ k_ => XS.aloadN X0.here hx rfl (hb hby d15_26) rfl rfl  k_) ?_
  refine own_st (T' := s₁) (g' := (mkF m 28 #[rv va, iv (0 : Int32), rv da, iv (0 : Int32), iv (2 : Int32), iv (0 : Int32), iv c0] [(.int (0 : Int32)), (.ref da)])) (fun _ k_ => XS.iloadN X0.here hx rfl (hb hby d15_27) rfl  k_) ?_
  refine own_st (T' := s₁) (g' := (mkF m 30 #[rv va, iv (0 : Int32), rv da, iv (0 : Int32), iv (2 : Int32), iv (0 : Int32), iv c0] [(.int c0), (.int (0 : Int32)), (.ref da)])) (fun _ k_ => XS.iload X0.here hx rfl (hb hby d15_28) rfl  k_) ?_
  refine own_st (T' := s₁) (g' := (mkF m 31 #[rv va, iv (0 : Int32), rv da, iv (0 : Int32), iv (2 : Int32), iv (0 : Int32), iv c0] [(.int (c0.toInt8.toInt32)), (.int (0 : Int32)), (.ref da)])) (fun _ k_ => XS.i2b X0.here hx rfl (hb hby d15_30) rfl k_) ?_
  obtain ⟨cl2, Ar2, q2, S2, N2, H2, G2⟩ := id VD
  have hin2 : ¬ ((0 : Int32) < 0 ∨ cl2.slots.size ≤ ((0 : Int32)).toNatClampNeg) := inb_of S2 ⟨by decide, by decide⟩
  obtain ⟨T3, h3, X3, e3, W3, st3⟩ := stB X0 hx hZ e0 Ar2 (j := (0 : Int32)) hin2 (g := (mkF m 31 #[rv va, iv (0 : Int32), rv da, iv (0 : Int32), iv (2 : Int32), iv (0 : Int32), iv c0] [(.int (c0.toInt8.toInt32)), (.int (0 : Int32)), (.ref da)])) rfl rfl (hb hby d15_31)
  have V3 : Arv Z h3 da kd .byte (2 : Int32) [(.int (nar .byte (c0.toInt8.toInt32))), (.int (0 : Int32))] (.int (0 : Int32)) := Arv.set Ar2 q2 S2 N2 H2 G2 (fits_nar_byte _) W3 0 rfl (Nat.le_of_ble_eq_true rfl)
  have Vn3 : Arv Z h3 da kd .byte (2 : Int32) [(.int (c0.toInt8.toInt32)), (.int (0 : Int32))] (.int (0 : Int32)) := by simpa only [own_bb] using V3
  have Nx3 := Fr.snoc X3 N0 fda
  refine own_st (T' := T3) (g' := (mkF m 32 #[rv va, iv (0 : Int32), rv da, iv (0 : Int32), iv (2 : Int32), iv (0 : Int32), iv c0] [])) st3 ?_
  clear hin2 G2 H2 N2 S2 q2 Ar2 cl2 st3
  refine own_st (T' := T3) (g' := (mkF m 35 #[rv va, iv (1 : Int32), rv da, iv (0 : Int32), iv (2 : Int32), iv (0 : Int32), iv c0] [])) (fun _ k_ => XS.iinc X3.here hx rfl (hb hby d15_32) rfl (l' := #[rv va, iv (1 : Int32), rv da, iv (0 : Int32), iv (2 : Int32), iv (0 : Int32), iv c0]) rfl k_) ?_
  refine own_st (T' := T3) (g' := (mkF m 38 #[rv va, iv (1 : Int32), rv da, iv (1 : Int32), iv (2 : Int32), iv (0 : Int32), iv c0] [])) (fun _ k_ => XS.iinc X3.here hx rfl (hb hby d15_35) rfl (l' := #[rv va, iv (1 : Int32), rv da, iv (1 : Int32), iv (2 : Int32), iv (0 : Int32), iv c0]) rfl k_) ?_
  refine own_st (T' := T3) (g' := (mkF m 41 #[rv va, iv (1 : Int32), rv da, iv (1 : Int32), iv (2 : Int32), iv (1 : Int32), iv c0] [])) (fun _ k_ => XS.iinc X3.here hx rfl (hb hby d15_38) rfl (l' := #[rv va, iv (1 : Int32), rv da, iv (1 : Int32), iv (2 : Int32), iv (1 : Int32), iv c0]) rfl k_) ?_
  refine own_st (T' := T3) (g' := (mkF m 3 #[rv va, iv (1 : Int32), rv da, iv (1 : Int32), iv (2 : Int32), iv (1 : Int32), iv c0] [])) (fun _ k_ => XS.goto X3.here hx rfl (pc0 := 41) (pc' := 3) rfl (hb hby d15_41) (by decide) (by decide) k_) ?_
  refine own_st (T' := T3) (g' := (mkF m 5 #[rv va, iv (1 : Int32), rv da, iv (1 : Int32), iv (2 : Int32), iv (1 : Int32), iv c0] [(.int (1 : Int32))])) (fun _ k_ => XS.iload X3.here hx rfl (hb hby d15_3) rfl  k_) ?_
  refine own_st (T' := T3) (g' := (mkF m 7 #[rv va, iv (1 : Int32), rv da, iv (1 : Int32), iv (2 : Int32), iv (1 : Int32), iv c0] [(.int (2 : Int32)), (.int (1 : Int32))])) (fun _ k_ => XS.iload X3.here hx rfl (hb hby d15_5) rfl  k_) ?_
  refine own_st (T' := T3) (g' := (mkF m 10 #[rv va, iv (1 : Int32), rv da, iv (1 : Int32), iv (2 : Int32), iv (1 : Int32), iv c0] [])) (fun _ k_ => XS.icmpNo X3.here hx rfl (hb hby d15_7) rfl (tlt (by decide : (1 : Int32) < (2 : Int32))).2.1 k_) ?_
  refine own_st (T' := T3) (g' := (mkF m 11 #[rv va, iv (1 : Int32), rv da, iv (1 : Int32), iv (2 : Int32), iv (1 : Int32), iv c0] [(.ref va)])) (fun _ k_ => XS.aloadN X3.here hx rfl (hb hby d15_10) rfl rfl  k_) ?_
  refine own_st (T' := T3) (g' := (mkF m 12 #[rv va, iv (1 : Int32), rv da, iv (1 : Int32), iv (2 : Int32), iv (1 : Int32), iv c0] [(.int (1 : Int32)), (.ref va)])) (fun _ k_ => XS.iloadN X3.here hx rfl (hb hby d15_11) rfl  k_) ?_
  have f4 : Arv Z h3 va kc .char (2 : Int32) [(.int c0), (.int c1)] (.int (0 : Int32)) := VA.other W3 nad
  obtain ⟨cl5, Ar5, q5, S5, N5, H5, G5⟩ := id f4
  have hin5 : ¬ ((1 : Int32) < 0 ∨ cl5.slots.size ≤ ((1 : Int32)).toNatClampNeg) := inb_of S5 ⟨by decide, by decide⟩
  refine own_st (T' := T3) (g' := (mkF m 13 #[rv va, iv (1 : Int32), rv da, iv (1 : Int32), iv (2 : Int32), iv (1 : Int32), iv c0] [(.int c1)])) (X3.caload hx (j := (1 : Int32)) (v := (.int c1)) (by rw [e3]; exact Ar5.1) (State.isArrayOf_alike hZ.alike Ar5.2.1) Ar5.2.2 hin5 (H5.at hin5 rfl) (g := (mkF m 12 #[rv va, iv (1 : Int32), rv da, iv (1 : Int32), iv (2 : Int32), iv (1 : Int32), iv c0] [(.int (1 : Int32)), (.ref va)])) rfl rfl (hb hby d15_12)) ?_
  clear hin5 G5 H5 N5 S5 q5 Ar5 cl5
  refine own_st (T' := T3) (g' := (mkF m 15 #[rv va, iv (1 : Int32), rv da, iv (1 : Int32), iv (2 : Int32), iv (1 : Int32), iv c1] [])) (fun _ k_ => XS.istore X3.here hx rfl (hb hby d15_13) rfl (l' := #[rv va, iv (1 : Int32), rv da, iv (1 : Int32), iv (2 : Int32), iv (1 : Int32), iv c1]) rfl k_) ?_
  refine own_st (T' := T3) (g' := (mkF m 17 #[rv va, iv (1 : Int32), rv da, iv (1 : Int32), iv (2 : Int32), iv (1 : Int32), iv c1] [(.int c1)])) (fun _ k_ => XS.iload X3.here hx rfl (hb hby d15_15) rfl  k_) ?_
  refine own_st (T' := T3) (g' := (mkF m 20 #[rv va, iv (1 : Int32), rv da, iv (1 : Int32), iv (2 : Int32), iv (1 : Int32), iv c1] [(.int (255 : Int32)), (.int c1)])) (fun _ k_ => XS.sipush X3.here hx rfl (hb hby d15_17) k_) ?_
  refine own_st (T' := T3) (g' := (mkF m 26 #[rv va, iv (1 : Int32), rv da, iv (1 : Int32), iv (2 : Int32), iv (1 : Int32), iv c1] [])) (fun _ k_ => XS.icmpYes X3.here hx rfl (pc0 := 20) (pc' := 26) rfl (hb hby d15_20) rfl (flt (hp1 : ¬ ((255 : Int32) < c1))).2.2.2 (by decide) (by decide) k_) ?_
  refine own_st (T' := T3) (g' := (mkF m 27 #[rv va, iv (1 : Int32), rv da, iv (1 : Int32), iv (2 : Int32), iv (1 : Int32), iv c1] [(.ref da)])) (fun _ k_ => XS.aloadN X3.here hx rfl (hb hby d15_26) rfl rfl  k_) ?_
  refine own_st (T' := T3) (g' := (mkF m 28 #[rv va, iv (1 : Int32), rv da, iv (1 : Int32), iv (2 : Int32), iv (1 : Int32), iv c1] [(.int (1 : Int32)), (.ref da)])) (fun _ k_ => XS.iloadN X3.here hx rfl (hb hby d15_27) rfl  k_) ?_
  refine own_st (T' := T3) (g' := (mkF m 30 #[rv va, iv (1 : Int32), rv da, iv (1 : Int32), iv (2 : Int32), iv (1 : Int32), iv c1] [(.int c1), (.int (1 : Int32)), (.ref da)])) (fun _ k_ => XS.iload X3.here hx rfl (hb hby d15_28) rfl  k_) ?_
  refine own_st (T' := T3) (g' := (mkF m 31 #[rv va, iv (1 : Int32), rv da, iv (1 : Int32), iv (2 : Int32), iv (1 : Int32), iv c1] [(.int (c1.toInt8.toInt32)), (.int (1 : Int32)), (.ref da)])) (fun _ k_ => XS.i2b X3.here hx rfl (hb hby d15_30) rfl k_) ?_
  obtain ⟨cl6, Ar6, q6, S6, N6, H6, G6⟩ := id Vn3
  have hin6 : ¬ ((1 : Int32) < 0 ∨ cl6.slots.size ≤ ((1 : Int32)).toNatClampNeg) := inb_of S6 ⟨by decide, by decide⟩
  obtain ⟨T7, h7, X7, e7, W7, st7⟩ := stB X3 hx hZ e3 Ar6 (j := (1 : Int32)) hin6 (g := (mkF m 31 #[rv va, iv (1 : Int32), rv da, iv (1 : Int32), iv (2 : Int32), iv (1 : Int32), iv c1] [(.int (c1.toInt8.toInt32)), (.int (1 : Int32)), (.ref da)])) rfl rfl (hb hby d15_31)
  have V7 : Arv Z h7 da kd .byte (2 : Int32) [(.int (c0.toInt8.toInt32)), (.int (nar .byte (c1.toInt8.toInt32)))] (.int (0 : Int32)) := Arv.set Ar6 q6 S6 N6 H6 G6 (fits_nar_byte _) W7 1 rfl (Nat.le_of_ble_eq_true rfl)
  have Vn7 : Arv Z h7 da kd .byte (2 : Int32) [(.int (c0.toInt8.toInt32)), (.int (c1.toInt8.toInt32))] (.int (0 : Int32)) := by simpa only [own_bb] using V7
  have Nx7 := Fr.snoc X7 Nx3 fda
  refine own_st (T' := T7) (g' := (mkF m 32 #[rv va, iv (1 : Int32), rv da, iv (1 : Int32), iv (2 : Int32), iv (1 : Int32), iv c1] [])) st7 ?_
  clear hin6 G6 H6 N6 S6 q6 Ar6 cl6 st7
  refine own_st (T' := T7) (g' := (mkF m 35 #[rv va, iv (2 : Int32), rv da, iv (1 : Int32), iv (2 : Int32), iv (1 : Int32), iv c1] [])) (fun _ k_ => XS.iinc X7.here hx rfl (hb hby d15_32) rfl (l' := #[rv va, iv (2 : Int32), rv da, iv (1 : Int32), iv (2 : Int32), iv (1 : Int32), iv c1]) rfl k_) ?_
  refine own_st (T' := T7) (g' := (mkF m 38 #[rv va, iv (2 : Int32), rv da, iv (2 : Int32), iv (2 : Int32), iv (1 : Int32), iv c1] [])) (fun _ k_ => XS.iinc X7.here hx rfl (hb hby d15_35) rfl (l' := #[rv va, iv (2 : Int32), rv da, iv (2 : Int32), iv (2 : Int32), iv (1 : Int32), iv c1]) rfl k_) ?_
  refine own_st (T' := T7) (g' := (mkF m 41 #[rv va, iv (2 : Int32), rv da, iv (2 : Int32), iv (2 : Int32), iv (2 : Int32), iv c1] [])) (fun _ k_ => XS.iinc X7.here hx rfl (hb hby d15_38) rfl (l' := #[rv va, iv (2 : Int32), rv da, iv (2 : Int32), iv (2 : Int32), iv (2 : Int32), iv c1]) rfl k_) ?_
  refine own_st (T' := T7) (g' := (mkF m 3 #[rv va, iv (2 : Int32), rv da, iv (2 : Int32), iv (2 : Int32), iv (2 : Int32), iv c1] [])) (fun _ k_ => XS.goto X7.here hx rfl (pc0 := 41) (pc' := 3) rfl (hb hby d15_41) (by decide) (by decide) k_) ?_
  refine own_st (T' := T7) (g' := (mkF m 5 #[rv va, iv (2 : Int32), rv da, iv (2 : Int32), iv (2 : Int32), iv (2 : Int32), iv c1] [(.int (2 : Int32))])) (fun _ k_ => XS.iload X7.here hx rfl (hb hby d15_3) rfl  k_) ?_
  refine own_st (T' := T7) (g' := (mkF m 7 #[rv va, iv (2 : Int32), rv da, iv (2 : Int32), iv (2 : Int32), iv (2 : Int32), iv c1] [(.int (2 : Int32)), (.int (2 : Int32))])) (fun _ k_ => XS.iload X7.here hx rfl (hb hby d15_5) rfl  k_) ?_
  refine own_st (T' := T7) (g' := (mkF m 44 #[rv va, iv (2 : Int32), rv da, iv (2 : Int32), iv (2 : Int32), iv (2 : Int32), iv c1] [])) (fun _ k_ => XS.icmpYes X7.here hx rfl (pc0 := 7) (pc' := 44) rfl (hb hby d15_7) rfl (flt (by decide : ¬ ((2 : Int32) < (2 : Int32)))).2.1 (by decide) (by decide) k_) ?_
  refine own_st (T' := T7) (g' := (mkF m 46 #[rv va, iv (2 : Int32), rv da, iv (2 : Int32), iv (2 : Int32), iv (2 : Int32), iv c1] [(.int (2 : Int32))])) (fun _ k_ => XS.iload X7.here hx rfl (hb hby d15_44) rfl  k_) ?_
  have f8 : Keep h0 h3 [da] := (Keep.refl h0 [da]).wr W3 (Or.inl (List.mem_of_getElem? (i := 0) rfl))
  have f9 : Keep h0 h7 [da] := f8.wr W7 (Or.inl (List.mem_of_getElem? (i := 0) rfl))
  exact own_retI X7 hx hret hlk (hb hby d15_46) (by decide) (by decide) (by rw [e7]; exact ⟨rfl, Nx7, f9, Vn7⟩)
theorem ef_cmp3_2 (m : MethodId) (x0 : Addr) (x1 : Int32) (x2 : Int32) : entryFrame m #[(.ref x0), (.int x1), (.int x2)] 6 = mkF m 0 #[rv x0, iv x1, iv x2, .unset, .unset, .unset] [] := by first | (simp [entryFrame, mkF, argsToLocals, Value.category]; done) | rfl
def Q_cmp3_2 (Z : State) (va : Addr) (kc : ClassId) (c0 : Int32) (c1 : Int32) (h0 : Heap) (n0 : Nat) (v : Option Value) (h : Heap) (L : List Loc) : Prop := ∃ (t : Addr) (kb : ClassId), (v = some (.ref t)) ∧ (Fr n0 L) ∧ (Keep h0 h []) ∧ (Arv Z h t kb .byte (2 : Int32) [(.int (c0.toInt8.toInt32)), (.int (c1.toInt8.toInt32))] (.int (0 : Int32))) ∧ (h0.size ≤ t)
set_option maxRecDepth 65536 in
set_option maxHeartbeats 40000000 in
theorem rm_cmp3_2 (l : Launch) (Z : State) (a0 : Array Value) (hw : ∀ d ∈ tables_1, d.before a0 Z = true) (ws : List Jvm.Cond) (va : Addr) (kc : ClassId) (c0 : Int32) (c1 : Int32) (h0 : Heap) (n0 : Nat) (O0 : Old Z n0 h0) (VA : Arv Z h0 va kc .char (2 : Int32) [(.int c0), (.int c1)] (.int (0 : Int32))) (hp0 : ¬ (255 : Int32) < c0) (hp1 : ¬ (255 : Int32) < c1) :
    MetFree l own_m20 (head1 (Jvm.Cond.code own_m20 jdk_52_method_16_code 6 (some (.array .byte)) :: ws) ({ frames := 1, cells := 1, slots := 2, locals := 18 } : Room)) (fun ar_ U => ar_ = #[(.ref va), (.int (0 : Int32)), (.int (2 : Int32))] ∧ Z.Warmed39 U.vm ∧ U.heap = h0) (fun _ _ _ _ _ => True) (fun _ U o U' => ∃ v L, o = .returned v ∧ Q_cmp3_2 Z va kc c0 c1 h0 n0 v U'.heap L ∧ FrameEnd U o U' L ({ frames := 1, cells := 1, slots := 2, locals := 18 } : Room).cells ({ frames := 1, cells := 1, slots := 2, locals := 18 } : Room).slots) := by
  refine MetFree.of_bodySF (plainFor_of_name pn_5) hisR ?_
  intro p e s m args below meth c s₁ Bd hml0 hP hK
  obtain ⟨rfl, hZ, hh⟩ := hP
  have hx := Bd.exec
  have hby := Bd.bytes
  have hml : c.maxLocals = 6 := hml0
  have hown : s.vm.findClass "java/lang/StringUTF16" = some m.cls := findClass_of_methodNamed Bd.named
  have hnm := (name_of_methodNamed Bd.named Bd.method).1
  have X0 : Stand p l e ({ frames := 1, cells := 1, slots := 2, locals := 18 } : Room) s m #[(.ref va), (.int (0 : Int32)), (.int (2 : Int32))] below meth c s₁ [] 0 0 := Stand.of_body Bd
  have e0 : s₁.heap = h0 := by rw [← hh, Bd.state]; rfl
  have N0 := Fr.nil n0
  have hret := Bd.returns
  have hlk : meth.locks = false := Bd.notSynchronized
  show own_E p e below s ({ frames := 1, cells := 1, slots := 2, locals := 18 } : Room).cells ({ frames := 1, cells := 1, slots := 2, locals := 18 } : Room).slots (Q_cmp3_2 Z va kc c0 c1 h0 n0) s₁ (entryFrame m #[(.ref va), (.int (0 : Int32)), (.int (2 : Int32))] 6)
  rw [ef_cmp3_2 m va (0 : Int32) (2 : Int32)]
  refine own_st (T' := s₁) (g' := (mkF m 1 #[rv va, iv (0 : Int32), iv (2 : Int32), .unset, .unset, .unset] [(.int (2 : Int32))])) (fun _ k_ => XS.iloadN X0.here hx rfl (hb hby d14_0) rfl  k_) ?_
  obtain ⟨T1, h1, k1, X1, e1, E1, A1, st1⟩ := newP X0 hx hZ (wd hw 23 rfl) e0 (g := (mkF m 1 #[rv va, iv (0 : Int32), iv (2 : Int32), .unset, .unset, .unset] [(.int (2 : Int32))])) rfl (hb hby d14_1) rfl (by decide) (cap := 2) (by decide) (by decide) (by decide) (by decide)
  obtain ⟨b1, g1⟩ : ∃ z, z = h0.size := ⟨_, rfl⟩
  rw [← g1] at A1 st1
  have fr1 : n0 ≤ b1 := Nat.le_trans (own_z O0) (Nat.le_of_eq g1.symm)
  have sz1 : h0.size ≤ b1 := Nat.le_trans (Keep.refl h0 []).1 (Nat.le_of_eq g1.symm)
  have V1 : Arv Z h1 b1 k1 .byte (2 : Int32) [(.int (0 : Int32)), (.int (0 : Int32))] (.int (0 : Int32)) := (Arv.new A1 (by decide)).pad (pad_rep [] (.int (0 : Int32)) 2)
  refine own_st (T' := T1) (g' := (mkF m 3 #[rv va, iv (0 : Int32), iv (2 : Int32), .unset, .unset, .unset] [(.ref b1)])) st1 ?_
  clear st1
  refine own_st (T' := T1) (g' := (mkF m 4 #[rv va, iv (0 : Int32), iv (2 : Int32), rv b1, .unset, .unset] [])) (fun _ k_ => XS.astoreN X1.here hx rfl (hb hby d14_3) rfl rfl (l' := #[rv va, iv (0 : Int32), iv (2 : Int32), rv b1, .unset, .unset]) rfl k_) ?_
  refine own_st (T' := T1) (g' := (mkF m 5 #[rv va, iv (0 : Int32), iv (2 : Int32), rv b1, .unset, .unset] [(.ref va)])) (fun _ k_ => XS.aloadN X1.here hx rfl (hb hby d14_4) rfl rfl  k_) ?_
  refine own_st (T' := T1) (g' := (mkF m 6 #[rv va, iv (0 : Int32), iv (2 : Int32), rv b1, .unset, .unset] [(.int (0 : Int32)), (.ref va)])) (fun _ k_ => XS.iloadN X1.here hx rfl (hb hby d14_5) rfl  k_) ?_
  refine own_st (T' := T1) (g' := (mkF m 7 #[rv va, iv (0 : Int32), iv (2 : Int32), rv b1, .unset, .unset] [(.ref b1), (.int (0 : Int32)), (.ref va)])) (fun _ k_ => XS.aloadN X1.here hx rfl (hb hby d14_6) rfl rfl  k_) ?_
  refine own_st (T' := T1) (g' := (mkF m 8 #[rv va, iv (0 : Int32), iv (2 : Int32), rv b1, .unset, .unset] [(.int (0 : Int32)), (.ref b1), (.int (0 : Int32)), (.ref va)])) (fun _ k_ => XS.iconst X1.here hx rfl (hb hby d14_7) k_) ?_
  refine own_st (T' := T1) (g' := (mkF m 9 #[rv va, iv (0 : Int32), iv (2 : Int32), rv b1, .unset, .unset] [(.int (2 : Int32)), (.int (0 : Int32)), (.ref b1), (.int (0 : Int32)), (.ref va)])) (fun _ k_ => XS.iloadN X1.here hx rfl (hb hby d14_8) rfl  k_) ?_
  have f2 : Arv Z h1 va kc .char (2 : Int32) [(.int c0), (.int c1)] (.int (0 : Int32)) := VA.ext E1
  have ne3 : va ≠ b1 := Nat.ne_of_lt (Nat.lt_of_lt_of_le VA.lt (Nat.le_of_eq g1.symm))
  have f4 : Old Z n0 h1 := O0.ext E1
  obtain ⟨_, T5, L5, X5, hQ5, st5⟩ := own_callS X1 hx (y := own_m19) hown (mvT hZ (wd hw 70 rfl)) (mvT hZ (wd hw 71 rfl)) (mvT hZ (wd hw 68 rfl)) (mvT hZ (wd hw 72 rfl)) (by decide) (backOf (W := 0) (rm_cmp5_2 l Z a0 hw [] va b1 kc k1 c0 c1 h1 n0 f4 f2 V1 ne3 fr1 hp0 hp1) hZ (wd hw 72 rfl) (wd hw 68 rfl) (by decide) (by decide)) (g := (mkF m 9 #[rv va, iv (0 : Int32), iv (2 : Int32), rv b1, .unset, .unset] [(.int (2 : Int32)), (.int (0 : Int32)), (.ref b1), (.int (0 : Int32)), (.ref va)])) rfl (by rw [hml]; rfl) (argsL := [(.ref va), (.int (0 : Int32)), (.ref b1), (.int (0 : Int32)), (.int (2 : Int32))]) (rest := []) (lenOf pd___CI_BII_I rfl) rfl (by show 2 * 0 + _ ≤ _; exact Nat.le_of_eq rfl) (hb hby d14_9) rfl e1 (by decide) (by decide) (c' := 1) (s' := 2) rfl rfl
  obtain ⟨rfl, Nq5, K5, fq5_0⟩ := hQ5
  have N5 := Fr.app N0 Nq5
  refine own_st (T' := T5) (g' := (mkF m 12 #[rv va, iv (0 : Int32), iv (2 : Int32), rv b1, .unset, .unset] [(.int (2 : Int32))])) st5 ?_
  clear st5
  refine own_st (T' := T5) (g' := (mkF m 14 #[rv va, iv (0 : Int32), iv (2 : Int32), rv b1, iv (2 : Int32), .unset] [])) (fun _ k_ => XS.istore X5.here hx rfl (hb hby d14_12) rfl (l' := #[rv va, iv (0 : Int32), iv (2 : Int32), rv b1, iv (2 : Int32), .unset]) rfl k_) ?_
  refine own_st (T' := T5) (g' := (mkF m 16 #[rv va, iv (0 : Int32), iv (2 : Int32), rv b1, iv (2 : Int32), .unset] [(.int (2 : Int32))])) (fun _ k_ => XS.iload X5.here hx rfl (hb hby d14_14) rfl  k_) ?_
  refine own_st (T' := T5) (g' := (mkF m 17 #[rv va, iv (0 : Int32), iv (2 : Int32), rv b1, iv (2 : Int32), .unset] [(.int (2 : Int32)), (.int (2 : Int32))])) (fun _ k_ => XS.iloadN X5.here hx rfl (hb hby d14_16) rfl  k_) ?_
  refine own_st (T' := T5) (g' := (mkF m 57 #[rv va, iv (0 : Int32), iv (2 : Int32), rv b1, iv (2 : Int32), .unset] [])) (fun _ k_ => XS.icmpYes X5.here hx rfl (pc0 := 17) (pc' := 57) rfl (hb hby d14_17) rfl (teq (rfl : (2 : Int32) = (2 : Int32))).1 (by decide) (by decide) k_) ?_
  refine own_st (T' := T5) (g' := (mkF m 58 #[rv va, iv (0 : Int32), iv (2 : Int32), rv b1, iv (2 : Int32), .unset] [(.ref b1)])) (fun _ k_ => XS.aloadN X5.here hx rfl (hb hby d14_57) rfl rfl  k_) ?_
  have f6 : Keep h0 h1 [] := (Keep.refl h0 []).ext E1
  have f7 : Keep h0 T5.heap [] := f6.trans K5 (allS (Or.inr sz1) all0)
  exact own_retA X5 hx hret rfl rfl hlk (hb hby d14_58) (by decide) (by decide) ⟨b1, k1, rfl, N5, f7, fq5_0, sz1⟩
theorem ef_cdr_2 (m : MethodId) (x0 : Addr) (x1 : Int32) : entryFrame m #[(.ref x0), (.int x1)] 2 = mkF m 0 #[rv x0, iv x1] [] := by first | (simp [entryFrame, mkF, argsToLocals, Value.category]; done) | rfl
def Q_cdr_2 (Z : State) (t : Addr) (kb : ClassId) (vs : List Value) (h0 : Heap) (n0 : Nat) (v : Option Value) (h : Heap) (L : List Loc) : Prop := (v = some (.int (0 : Int32))) ∧ (Fr n0 L) ∧ (h = h0)
set_option maxRecDepth 65536 in
set_option maxHeartbeats 40000000 in
theorem rm_cdr_2 (l : Launch) (Z : State) (a0 : Array Value) (hw : ∀ d ∈ tables_1, d.before a0 Z = true) (ws : List Jvm.Cond) (t : Addr) (kb : ClassId) (vs : List Value) (h0 : Heap) (n0 : Nat) (O0 : Old Z n0 h0) (VT : Arv Z h0 t kb .byte (2 : Int32) vs (.int (0 : Int32))) :
    MetFree l own_m21 (head1 (Jvm.Cond.code own_m21 jdk_52_method_15_code 2 (some .byte) :: ws) ({ frames := 0, cells := 0, slots := 0, locals := 0 } : Room)) (fun ar_ U => ar_ = #[(.ref t), (.int (2 : Int32))] ∧ Z.Warmed39 U.vm ∧ U.heap = h0) (fun _ _ _ _ _ => True) (fun _ U o U' => ∃ v L, o = .returned v ∧ Q_cdr_2 Z t kb vs h0 n0 v U'.heap L ∧ FrameEnd U o U' L ({ frames := 0, cells := 0, slots := 0, locals := 0 } : Room).cells ({ frames := 0, cells := 0, slots := 0, locals := 0 } : Room).slots) := by
  refine MetFree.of_bodySF (plainFor_of_name pn_5) hisR ?_
  intro p e s m args below meth c s₁ Bd hml0 hP hK
  obtain ⟨rfl, hZ, hh⟩ := hP
  have hx := Bd.exec
  have hby := Bd.bytes
  have hml : c.maxLocals = 2 := hml0
  have hown : s.vm.findClass "java/lang/StringUTF16" = some m.cls := findClass_of_methodNamed Bd.named
  have hnm := (name_of_methodNamed Bd.named Bd.method).1
  have X0 : Stand p l e ({ frames := 0, cells := 0, slots := 0, locals := 0 } : Room) s m #[(.ref t), (.int (2 : Int32))] below meth c s₁ [] 0 0 := Stand.of_body Bd
  have e0 : s₁.heap = h0 := by rw [← hh, Bd.state]; rfl
  have N0 := Fr.nil n0
  have hret := Bd.returns
  have hlk : meth.locks = false := Bd.notSynchronized
  show own_E p e below s ({ frames := 0, cells := 0, slots := 0, locals := 0 } : Room).cells ({ frames := 0, cells := 0, slots := 0, locals := 0 } : Room).slots (Q_cdr_2 Z t kb vs h0 n0) s₁ (entryFrame m #[(.ref t), (.int (2 : Int32))] 2)
  rw [ef_cdr_2 m t (2 : Int32)]
  refine own_st (T' := s₁) (g' := (mkF m 1 #[rv t, iv (2 : Int32)] [(.int (2 : Int32))])) (fun _ k_ => XS.iloadN X0.here hx rfl (hb hby d16_0) rfl  k_) ?_
  refine own_st (T' := s₁) (g' := (mkF m 2 #[rv t, iv (2 : Int32)] [(.ref t), (.int (2 : Int32))])) (fun _ k_ => XS.aloadN X0.here hx rfl (hb hby d16_1) rfl rfl  k_) ?_
  obtain ⟨cl1, Ar1, -, S1, N1, -, -⟩ := id VT
  refine own_st (T' := s₁) (g' := (mkF m 3 #[rv t, iv (2 : Int32)] [(.int (2 : Int32)), (.int (2 : Int32))])) (fun t_ k_ => X0.arraylength hx (by rw [e0]; exact Ar1.1) (State.isArrayOf_alike hZ.alike Ar1.2.1) (g := (mkF m 2 #[rv t, iv (2 : Int32)] [(.ref t), (.int (2 : Int32))])) rfl rfl (hb hby d16_2) _ (by rw [len_of S1 N1]; exact k_)) ?_
  refine own_st (T' := s₁) (g' := (mkF m 4 #[rv t, iv (2 : Int32)] [(.int (0 : Int32))])) (fun _ k_ => XS.isub X0.here hx rfl (hb hby d16_3) rfl k_) ?_
  refine own_st (T' := s₁) (g' := (mkF m 6 #[rv t, iv (2 : Int32)] [(.int (31 : Int32)), (.int (0 : Int32))])) (fun _ k_ => XS.bipush X0.here hx rfl (hb hby d16_4) k_) ?_
  refine own_st (T' := s₁) (g' := (mkF m 7 #[rv t, iv (2 : Int32)] [(.int (((0 : Int32).toUInt32 >>> ((31 : Int32) &&& 31).toUInt32).toInt32))])) (fun _ k_ => XS.iushr X0.here hx rfl (hb hby d16_6) rfl k_) ?_
  refine own_st (T' := s₁) (g' := (mkF m 8 #[rv t, iv (2 : Int32)] [(.int ((((0 : Int32).toUInt32 >>> ((31 : Int32) &&& 31).toUInt32).toInt32).toInt8.toInt32))])) (fun _ k_ => XS.i2b X0.here hx rfl (hb hby d16_7) rfl k_) ?_
  exact own_retN X0 hx (t := .byte) hret (by simp) hlk (hb hby d16_8) (by decide) (by decide) ⟨(by decide), N0, e0⟩
theorem ef_ini4_2 (m : MethodId) (x0 : Addr) (x1 : Addr) (x2 : Int32) (x3 : Int32) : entryFrame m #[(.ref x0), (.ref x1), (.int x2), (.int x3), .null] 6 = mkF m 0 #[rv x0, rv x1, iv x2, iv x3, .val .null, .unset] [] := by first | (simp [entryFrame, mkF, argsToLocals, Value.category]; done) | rfl
def Q_ini4_2 (Z : State) (a : Addr) (va : Addr) (kc : ClassId) (cz : Int32) (c0 : Int32) (c1 : Int32) (h0 : Heap) (n0 : Nat) (v : Option Value) (h : Heap) (L : List Loc) : Prop := ∃ (t : Addr) (kb : ClassId), (v = none) ∧ (Fr n0 L) ∧ (Keep h0 h [a]) ∧ (Exa Z h a "java/lang/String") ∧ (Fld Z h a "java/lang/String" "coder" "B" (.int (0 : Int32))) ∧ (Fld Z h a "java/lang/String" "value" "[B" (.ref t)) ∧ (Arv Z h t kb .byte (2 : Int32) [(.int (c0.toInt8.toInt32)), (.int (c1.toInt8.toInt32))] (.int (0 : Int32))) ∧ (h0.size ≤ t)
set_option maxRecDepth 65536 in
set_option maxHeartbeats 40000000 in
theorem rm_ini4_2 (l : Launch) (Z : State) (a0 : Array Value) (hw : ∀ d ∈ tables_1, d.before a0 Z = true) (ws : List Jvm.Cond) (a : Addr) (va : Addr) (kc : ClassId) (cz : Int32) (c0 : Int32) (c1 : Int32) (h0 : Heap) (n0 : Nat) (O0 : Old Z n0 h0) (EA : Exa Z h0 a "java/lang/String") (FV : Fld Z h0 a "java/lang/String" "value" "[B" .null) (FC : Fld Z h0 a "java/lang/String" "coder" "B" (.int (0 : Int32))) (fa : n0 ≤ a) (VA : Arv Z h0 va kc .char (2 : Int32) [(.int c0), (.int c1)] (.int (0 : Int32))) (SC : Sta Z Z.heap "java/lang/String" "COMPACT_STRINGS" "Z" (.int cz)) (hcz : ¬ cz = (0 : Int32)) (hp0 : ¬ (255 : Int32) < c0) (hp1 : ¬ (255 : Int32) < c1) :
    MetFree l own_m17 (head1 (Jvm.Cond.code own_m17 jdk_42_method_149_code 6 none :: ws) ({ frames := 2, cells := 1, slots := 2, locals := 35 } : Room)) (fun ar_ U => ar_ = #[(.ref a), (.ref va), (.int (0 : Int32)), (.int (2 : Int32)), .null] ∧ Z.Warmed39 U.vm ∧ U.heap = h0) (fun _ _ _ _ _ => True) (fun _ U o U' => ∃ v L, o = .returned v ∧ Q_ini4_2 Z a va kc cz c0 c1 h0 n0 v U'.heap L ∧ FrameEnd U o U' L ({ frames := 2, cells := 1, slots := 2, locals := 35 } : Room).cells ({ frames := 2, cells := 1, slots := 2, locals := 35 } : Room).slots) := by
  refine MetFree.of_bodySF (plainFor_of_name pn_0) hisR ?_
  intro p e s m args below meth c s₁ Bd hml0 hP hK
  obtain ⟨rfl, hZ, hh⟩ := hP
  have hx := Bd.exec
  have hby := Bd.bytes
  have hml : c.maxLocals = 6 := hml0
  have hown : s.vm.findClass "java/lang/String" = some m.cls := findClass_of_methodNamed Bd.named
  have hnm := (name_of_methodNamed Bd.named Bd.method).1
  have X0 : Stand p l e ({ frames := 2, cells := 1, slots := 2, locals := 35 } : Room) s m #[(.ref a), (.ref va), (.int (0 : Int32)), (.int (2 : Int32)), .null] below meth c s₁ [] 0 0 := Stand.of_body Bd
  have e0 : s₁.heap = h0 := by rw [← hh, Bd.state]; rfl
  have N0 := Fr.nil n0
  have hret := Bd.returns
  have hlk : meth.locks = false := Bd.notSynchronized
  show own_E p e below s ({ frames := 2, cells := 1, slots := 2, locals := 35 } : Room).cells ({ frames := 2, cells := 1, slots := 2, locals := 35 } : Room).slots (Q_ini4_2 Z a va kc cz c0 c1 h0 n0) s₁ (entryFrame m #[(.ref a), (.ref va), (.int (0 : Int32)), (.int (2 : Int32)), .null] 6)
  rw [ef_ini4_2 m a va (0 : Int32) (2 : Int32)]
  refine own_st (T' := s₁) (g' := (mkF m 1 #[rv a, rv va, iv (0 : Int32), iv (2 : Int32), .val .null, .unset] [(.ref a)])) (fun _ k_ => XS.aloadN X0.here hx rfl (hb hby d4_0) rfl rfl  k_) ?_
  obtain ⟨T1, X1, e1, st1⟩ := initO X0 hx hZ hown (wd hw 19 rfl) (wd hw 20 rfl) (wd hw 21 rfl) e0 (g := (mkF m 1 #[rv a, rv va, iv (0 : Int32), iv (2 : Int32), .val .null, .unset] [(.ref a)])) rfl (by rw [hml]; rfl) rfl (hb hby d4_1) (by decide) (W := 0) (by show 2 * 0 + _ ≤ _; exact Nat.le_of_eq rfl) (by decide)
  refine own_st (T' := T1) (g' := (mkF m 4 #[rv a, rv va, iv (0 : Int32), iv (2 : Int32), .val .null, .unset] [])) st1 ?_
  clear st1
  refine own_st (T' := T1) (g' := (mkF m 5 #[rv a, rv va, iv (0 : Int32), iv (2 : Int32), .val .null, .unset] [(.int (2 : Int32))])) (fun _ k_ => XS.iloadN X1.here hx rfl (hb hby d4_4) rfl  k_) ?_
  refine own_st (T' := T1) (g' := (mkF m 27 #[rv a, rv va, iv (0 : Int32), iv (2 : Int32), .val .null, .unset] [])) (fun _ k_ => XS.ifYes X1.here hx rfl (pc0 := 5) (pc' := 27) rfl (hb hby d4_5) rfl ((if0 _ _).trans (feq (by decide : ¬ ((2 : Int32) = (0 : Int32)))).2) (by decide) (by decide) k_) ?_
  obtain ⟨T2, X2, e2, st2⟩ := getS2 X1 hx hZ hown (host := "") (Or.inl (wd hw 44 rfl)) Via.refl e1 (SC.ext O0.2) (g := (mkF m 27 #[rv a, rv va, iv (0 : Int32), iv (2 : Int32), .val .null, .unset] [])) rfl (hb hby d4_27)
  refine own_st (T' := T2) (g' := (mkF m 30 #[rv a, rv va, iv (0 : Int32), iv (2 : Int32), .val .null, .unset] [(.int cz)])) st2 ?_
  clear st2
  refine own_st (T' := T2) (g' := (mkF m 33 #[rv a, rv va, iv (0 : Int32), iv (2 : Int32), .val .null, .unset] [])) (fun _ k_ => XS.ifNo X2.here hx rfl (hb hby d4_30) rfl ((if0 _ _).trans (feq (hcz : ¬ (cz = (0 : Int32)))).1) k_) ?_
  refine own_st (T' := T2) (g' := (mkF m 34 #[rv a, rv va, iv (0 : Int32), iv (2 : Int32), .val .null, .unset] [(.ref va)])) (fun _ k_ => XS.aloadN X2.here hx rfl (hb hby d4_33) rfl rfl  k_) ?_
  refine own_st (T' := T2) (g' := (mkF m 35 #[rv a, rv va, iv (0 : Int32), iv (2 : Int32), .val .null, .unset] [(.int (0 : Int32)), (.ref va)])) (fun _ k_ => XS.iloadN X2.here hx rfl (hb hby d4_34) rfl  k_) ?_
  refine own_st (T' := T2) (g' := (mkF m 36 #[rv a, rv va, iv (0 : Int32), iv (2 : Int32), .val .null, .unset] [(.int (2 : Int32)), (.int (0 : Int32)), (.ref va)])) (fun _ k_ => XS.iloadN X2.here hx rfl (hb hby d4_35) rfl  k_) ?_
  obtain ⟨_, T3, L3, X3, hQ3, st3⟩ := own_callS X2 hx (y := own_m20) hown (mvT hZ (wd hw 66 rfl)) (mvT hZ (wd hw 67 rfl)) (mvT hZ (wd hw 68 rfl)) (mvT hZ (wd hw 69 rfl)) (by decide) (backOf (W := 0) (rm_cmp3_2 l Z a0 hw [] va kc c0 c1 h0 n0 O0 VA hp0 hp1) hZ (wd hw 69 rfl) (wd hw 68 rfl) (by decide) (by decide)) (g := (mkF m 36 #[rv a, rv va, iv (0 : Int32), iv (2 : Int32), .val .null, .unset] [(.int (2 : Int32)), (.int (0 : Int32)), (.ref va)])) rfl (by rw [hml]; rfl) (argsL := [(.ref va), (.int (0 : Int32)), (.int (2 : Int32))]) (rest := []) (lenOf pd___CII__B rfl) rfl (by show 2 * 0 + _ ≤ _; exact Nat.le_of_eq rfl) (hb hby d4_36) rfl e2 (by decide) (by decide) (c' := 1) (s' := 2) rfl rfl
  obtain ⟨t3, kb3, rfl, Nq3, K3, fq3_0, xq3_fresh_t⟩ := hQ3
  have N3 := Fr.app N0 Nq3
  refine own_st (T' := T3) (g' := (mkF m 39 #[rv a, rv va, iv (0 : Int32), iv (2 : Int32), .val .null, .unset] [(.ref t3)])) st3 ?_
  clear st3
  refine own_st (T' := T3) (g' := (mkF m 41 #[rv a, rv va, iv (0 : Int32), iv (2 : Int32), .val .null, rv t3] [])) (fun _ k_ => XS.astore X3.here hx rfl (hb hby d4_39) rfl rfl (l' := #[rv a, rv va, iv (0 : Int32), iv (2 : Int32), .val .null, rv t3]) rfl k_) ?_
  refine own_st (T' := T3) (g' := (mkF m 42 #[rv a, rv va, iv (0 : Int32), iv (2 : Int32), .val .null, rv t3] [(.ref a)])) (fun _ k_ => XS.aloadN X3.here hx rfl (hb hby d4_41) rfl rfl  k_) ?_
  refine own_st (T' := T3) (g' := (mkF m 44 #[rv a, rv va, iv (0 : Int32), iv (2 : Int32), .val .null, rv t3] [(.ref t3), (.ref a)])) (fun _ k_ => XS.aload X3.here hx rfl (hb hby d4_42) rfl rfl  k_) ?_
  refine own_st (T' := T3) (g' := (mkF m 45 #[rv a, rv va, iv (0 : Int32), iv (2 : Int32), .val .null, rv t3] [(.int (2 : Int32)), (.ref t3), (.ref a)])) (fun _ k_ => XS.iloadN X3.here hx rfl (hb hby d4_44) rfl  k_) ?_
  have f4 : Old Z n0 T3.heap := O0.keep K3 all0
  obtain ⟨_, T5, L5, X5, hQ5, st5⟩ := own_callS X3 hx (y := own_m21) hown (mvT hZ (wd hw 73 rfl)) (mvT hZ (wd hw 74 rfl)) (mvT hZ (wd hw 68 rfl)) (mvT hZ (wd hw 75 rfl)) (by decide) (backOf (W := 1) (rm_cdr_2 l Z a0 hw [] t3 kb3 [(.int (c0.toInt8.toInt32)), (.int (c1.toInt8.toInt32))] T3.heap n0 f4 fq3_0) hZ (wd hw 75 rfl) (wd hw 68 rfl) (by decide) (by decide)) (g := (mkF m 45 #[rv a, rv va, iv (0 : Int32), iv (2 : Int32), .val .null, rv t3] [(.int (2 : Int32)), (.ref t3), (.ref a)])) rfl (by rw [hml]; rfl) (argsL := [(.ref t3), (.int (2 : Int32))]) (rest := [(.ref a)]) (lenOf pd___BI_B rfl) rfl (by show 2 * 0 + _ ≤ _; exact Nat.le_of_eq rfl) (hb hby d4_45) rfl rfl (by decide) (by decide) (c' := 1) (s' := 2) rfl rfl
  obtain ⟨rfl, Nq5, eq5⟩ := hQ5
  have N5 := Fr.app N3 Nq5
  refine own_st (T' := T5) (g' := (mkF m 48 #[rv a, rv va, iv (0 : Int32), iv (2 : Int32), .val .null, rv t3] [(.int (0 : Int32)), (.ref a)])) st5 ?_
  clear st5
  have f6 : Exa Z T3.heap a "java/lang/String" := EA.keep K3
  have f7 : Fld Z T3.heap a "java/lang/String" "coder" "B" (.int (0 : Int32)) := FC.keep K3 nin0
  obtain ⟨T8, h8, X8, e8, W8, st8⟩ := putFN X5 hx hZ hown (wd hw 29 rfl) Via.refl eq5 f7 f6 (Or.inr ⟨(wd hw 25 rfl), rfl, hnm⟩) (wd hw 10 rfl) (ty := .byte) (v' := (.int (0 : Int32))) (by decide) rfl (by decide) (g := (mkF m 48 #[rv a, rv va, iv (0 : Int32), iv (2 : Int32), .val .null, rv t3] [(.int (0 : Int32)), (.ref a)])) rfl rfl (hb hby d4_48)
  have Fw8 : Fld Z h8 a "java/lang/String" "coder" "B" (.int (0 : Int32)) := Fld.same W8 f7
  have N8 := Fr.snoc X8 N5 fa
  refine own_st (T' := T8) (g' := (mkF m 51 #[rv a, rv va, iv (0 : Int32), iv (2 : Int32), .val .null, rv t3] [])) st8 ?_
  clear st8
  refine own_st (T' := T8) (g' := (mkF m 52 #[rv a, rv va, iv (0 : Int32), iv (2 : Int32), .val .null, rv t3] [(.ref a)])) (fun _ k_ => XS.aloadN X8.here hx rfl (hb hby d4_51) rfl rfl  k_) ?_
  refine own_st (T' := T8) (g' := (mkF m 54 #[rv a, rv va, iv (0 : Int32), iv (2 : Int32), .val .null, rv t3] [(.ref t3), (.ref a)])) (fun _ k_ => XS.aload X8.here hx rfl (hb hby d4_52) rfl rfl  k_) ?_
  have f9 : Exa Z h8 a "java/lang/String" := f6.wr W8
  have f10 : Fld Z T3.heap a "java/lang/String" "value" "[B" .null := FV.keep K3 nin0
  have f11 : Fld Z h8 a "java/lang/String" "value" "[B" .null := f10.other W8 (Or.inr (slot_ne (Or.inr (wd hw 24 rfl)) (Or.inr (wd hw 25 rfl)) (by decide) (t := (.array .byte)) (t' := .byte) (by decide) (by decide)))
  obtain ⟨T12, h12, X12, e12, W12, st12⟩ := putF X8 hx hZ hown (host := "") (Or.inl (wd hw 28 rfl)) Via.refl e8 f11 f9 (Or.inr ⟨(wd hw 24 rfl), rfl, hnm⟩) (wd hw 10 rfl) (ty := (.array .byte)) (by decide) rfl rfl (g := (mkF m 54 #[rv a, rv va, iv (0 : Int32), iv (2 : Int32), .val .null, rv t3] [(.ref t3), (.ref a)])) rfl rfl (hb hby d4_54)
  have Fw12 : Fld Z h12 a "java/lang/String" "value" "[B" (.ref t3) := Fld.same W12 f11
  have N12 := Fr.snoc X12 N8 fa
  refine own_st (T' := T12) (g' := (mkF m 57 #[rv a, rv va, iv (0 : Int32), iv (2 : Int32), .val .null, rv t3] [])) st12 ?_
  clear st12
  have f13 : Keep h0 T3.heap [a] := (Keep.refl h0 [a]).trans K3 all0
  have f14 : Keep h0 h8 [a] := f13.wr W8 (Or.inl (List.mem_of_getElem? (i := 0) rfl))
  have f15 : Keep h0 h12 [a] := f14.wr W12 (Or.inl (List.mem_of_getElem? (i := 0) rfl))
  have f16 : Exa Z h12 a "java/lang/String" := f9.wr W12
  have f17 : Fld Z h12 a "java/lang/String" "coder" "B" (.int (0 : Int32)) := Fw8.other W12 (Or.inr (slot_ne (Or.inr (wd hw 25 rfl)) (Or.inr (wd hw 24 rfl)) (by decide) (t := .byte) (t' := (.array .byte)) (by decide) (by decide)))
  have ne18 : a ≠ t3 := Nat.ne_of_lt (Nat.lt_of_lt_of_le EA.lt xq3_fresh_t)
  have f19 : Arv Z h8 t3 kb3 .byte (2 : Int32) [(.int (c0.toInt8.toInt32)), (.int (c1.toInt8.toInt32))] (.int (0 : Int32)) := fq3_0.other W8 (Ne.symm ne18)
  have f20 : Arv Z h12 t3 kb3 .byte (2 : Int32) [(.int (c0.toInt8.toInt32)), (.int (c1.toInt8.toInt32))] (.int (0 : Int32)) := f19.other W12 (Ne.symm ne18)
  exact own_retV X12 hx hret hlk (hb hby d4_57) (by decide) (by decide) (by rw [e12]; exact ⟨t3, kb3, rfl, N12, f15, f16, f17, Fw12, f20, (Nat.le_trans (Keep.refl h0 [a]).1 xq3_fresh_t)⟩)
theorem ef_ini1_2 (m : MethodId) (x0 : Addr) (x1 : Addr) : entryFrame m #[(.ref x0), (.ref x1)] 2 = mkF m 0 #[rv x0, rv x1] [] := by first | (simp [entryFrame, mkF, argsToLocals, Value.category]; done) | rfl
def Q_ini1_2 (Z : State) (a : Addr) (va : Addr) (kc : ClassId) (cz : Int32) (c0 : Int32) (c1 : Int32) (h0 : Heap) (n0 : Nat) (v : Option Value) (h : Heap) (L : List Loc) : Prop := ∃ (t : Addr) (kb : ClassId), (v = none) ∧ (Fr n0 L) ∧ (Keep h0 h [a]) ∧ (Exa Z h a "java/lang/String") ∧ (Fld Z h a "java/lang/String" "coder" "B" (.int (0 : Int32))) ∧ (Fld Z h a "java/lang/String" "value" "[B" (.ref t)) ∧ (Arv Z h t kb .byte (2 : Int32) [(.int (c0.toInt8.toInt32)), (.int (c1.toInt8.toInt32))] (.int (0 : Int32))) ∧ (h0.size ≤ t)
set_option maxRecDepth 65536 in
set_option maxHeartbeats 40000000 in
theorem rm_ini1_2 (l : Launch) (Z : State) (a0 : Array Value) (hw : ∀ d ∈ tables_1, d.before a0 Z = true) (ws : List Jvm.Cond) (a : Addr) (va : Addr) (kc : ClassId) (cz : Int32) (c0 : Int32) (c1 : Int32) (h0 : Heap) (n0 : Nat) (O0 : Old Z n0 h0) (EA : Exa Z h0 a "java/lang/String") (FV : Fld Z h0 a "java/lang/String" "value" "[B" .null) (FC : Fld Z h0 a "java/lang/String" "coder" "B" (.int (0 : Int32))) (fa : n0 ≤ a) (VA : Arv Z h0 va kc .char (2 : Int32) [(.int c0), (.int c1)] (.int (0 : Int32))) (SC : Sta Z Z.heap "java/lang/String" "COMPACT_STRINGS" "Z" (.int cz)) (hcz : ¬ cz = (0 : Int32)) (hp0 : ¬ (255 : Int32) < c0) (hp1 : ¬ (255 : Int32) < c1) :
    MetFree l own_m18 (head1 (Jvm.Cond.code own_m18 jdk_42_method_3_code 2 none :: ws) ({ frames := 3, cells := 4, slots := 8, locals := 52 } : Room)) (fun ar_ U => ar_ = #[(.ref a), (.ref va)] ∧ Z.Warmed39 U.vm ∧ U.heap = h0) (fun _ _ _ _ _ => True) (fun _ U o U' => ∃ v L, o = .returned v ∧ Q_ini1_2 Z a va kc cz c0 c1 h0 n0 v U'.heap L ∧ FrameEnd U o U' L ({ frames := 3, cells := 4, slots := 8, locals := 52 } : Room).cells ({ frames := 3, cells := 4, slots := 8, locals := 52 } : Room).slots) := by
  refine MetFree.of_bodySF (plainFor_of_name pn_0) hisR ?_
  intro p e s m args below meth c s₁ Bd hml0 hP hK
  obtain ⟨rfl, hZ, hh⟩ := hP
  have hx := Bd.exec
  have hby := Bd.bytes
  have hml : c.maxLocals = 2 := hml0
  have hown : s.vm.findClass "java/lang/String" = some m.cls := findClass_of_methodNamed Bd.named
  have hnm := (name_of_methodNamed Bd.named Bd.method).1
  have X0 : Stand p l e ({ frames := 3, cells := 4, slots := 8, locals := 52 } : Room) s m #[(.ref a), (.ref va)] below meth c s₁ [] 0 0 := Stand.of_body Bd
  have e0 : s₁.heap = h0 := by rw [← hh, Bd.state]; rfl
  have N0 := Fr.nil n0
  have hret := Bd.returns
  have hlk : meth.locks = false := Bd.notSynchronized
  show own_E p e below s ({ frames := 3, cells := 4, slots := 8, locals := 52 } : Room).cells ({ frames := 3, cells := 4, slots := 8, locals := 52 } : Room).slots (Q_ini1_2 Z a va kc cz c0 c1 h0 n0) s₁ (entryFrame m #[(.ref a), (.ref va)] 2)
  rw [ef_ini1_2 m a va]
  refine own_st (T' := s₁) (g' := (mkF m 1 #[rv a, rv va] [(.ref a)])) (fun _ k_ => XS.aloadN X0.here hx rfl (hb hby d3_0) rfl rfl  k_) ?_
  refine own_st (T' := s₁) (g' := (mkF m 2 #[rv a, rv va] [(.ref va), (.ref a)])) (fun _ k_ => XS.aloadN X0.here hx rfl (hb hby d3_1) rfl rfl  k_) ?_
  refine own_st (T' := s₁) (g' := (mkF m 3 #[rv a, rv va] [(.int (0 : Int32)), (.ref va), (.ref a)])) (fun _ k_ => XS.iconst X0.here hx rfl (hb hby d3_2) k_) ?_
  refine own_st (T' := s₁) (g' := (mkF m 4 #[rv a, rv va] [(.ref va), (.int (0 : Int32)), (.ref va), (.ref a)])) (fun _ k_ => XS.aloadN X0.here hx rfl (hb hby d3_3) rfl rfl  k_) ?_
  obtain ⟨cl1, Ar1, -, S1, N1, -, -⟩ := id VA
  refine own_st (T' := s₁) (g' := (mkF m 5 #[rv a, rv va] [(.int (2 : Int32)), (.int (0 : Int32)), (.ref va), (.ref a)])) (fun t_ k_ => X0.arraylength hx (by rw [e0]; exact Ar1.1) (State.isArrayOf_alike hZ.alike Ar1.2.1) (g := (mkF m 4 #[rv a, rv va] [(.ref va), (.int (0 : Int32)), (.ref va), (.ref a)])) rfl rfl (hb hby d3_4) _ (by rw [len_of S1 N1]; exact k_)) ?_
  refine own_st (T' := s₁) (g' := (mkF m 6 #[rv a, rv va] [.null, (.int (2 : Int32)), (.int (0 : Int32)), (.ref va), (.ref a)])) (fun _ k_ => XS.aconstNull X0.here hx rfl (hb hby d3_5) k_) ?_
  obtain ⟨_, T2, L2, X2, hQ2, st2⟩ := own_callI X0 hx (y := own_m17) rfl hown (mvT hZ (wd hw 15 rfl)) (mvT hZ (wd hw 16 rfl)) (mvT hZ (wd hw 18 rfl)) (by decide) (backOf (W := 0) (rm_ini4_2 l Z a0 hw [] a va kc cz c0 c1 h0 n0 O0 EA FV FC fa VA SC hcz hp0 hp1) hZ (wd hw 18 rfl) (wd hw 11 rfl) (by decide) (by decide)) (g := (mkF m 6 #[rv a, rv va] [.null, (.int (2 : Int32)), (.int (0 : Int32)), (.ref va), (.ref a)])) rfl (by rw [hml]; rfl) (a := a) (argsL := [(.ref va), (.int (0 : Int32)), (.int (2 : Int32)), .null]) (rest := []) (lenOf pd___CIILjava_lang_Void__V rfl) rfl (by show 2 * 0 + _ ≤ _; exact Nat.le_of_eq rfl) (hb hby d3_6) rfl e0 (by decide) (by decide) (c' := 1) (s' := 2) rfl rfl
  obtain ⟨t2, kb2, rfl, Nq2, K2, fq2_0, fq2_1, fq2_2, fq2_3, xq2_fresh_t⟩ := hQ2
  have N2 := Fr.app N0 Nq2
  refine own_st (T' := T2) (g' := (mkF m 9 #[rv a, rv va] [])) st2 ?_
  clear st2
  have f3 : Keep h0 T2.heap [a] := (Keep.refl h0 [a]).trans K2 (allS (Or.inl (List.mem_of_getElem? (i := 0) rfl)) all0)
  exact own_retV X2 hx hret hlk (hb hby d3_9) (by decide) (by decide) ⟨t2, kb2, rfl, N2, f3, fq2_0, fq2_1, fq2_2, fq2_3, (Nat.le_trans (Keep.refl h0 [a]).1 xq2_fresh_t)⟩
theorem ef_cmp5_3 (m : MethodId) (x0 : Addr) (x1 : Int32) (x2 : Addr) (x3 : Int32) (x4 : Int32) : entryFrame m #[(.ref x0), (.int x1), (.ref x2), (.int x3), (.int x4)] 7 = mkF m 0 #[rv x0, iv x1, rv x2, iv x3, iv x4, .unset, .unset] [] := by first | (simp [entryFrame, mkF, argsToLocals, Value.category]; done) | rfl
def Q_cmp5_3 (Z : State) (va : Addr) (da : Addr) (kc : ClassId) (kd : ClassId) (c0 : Int32) (c1 : Int32) (c2 : Int32) (h0 : Heap) (n0 : Nat) (v : Option Value) (h : Heap) (L : List Loc) : Prop := (v = some (.int (3 : Int32))) ∧ (Fr n0 L) ∧ (Keep h0 h [da]) ∧ (Arv Z h da kd .byte (3 : Int32) [(.int (c0.toInt8.toInt32)), (.int (c1.toInt8.toInt32)), (.int (c2.toInt8.toInt32))] (.int (0 : Int32)))
set_option maxRecDepth 65536 in
set_option maxHeartbeats 40000000 in
theorem rm_cmp5_3 (l : Launch) (Z : State) (a0 : Array Value) (hw : ∀ d ∈ tables_1, d.before a0 Z = true) (ws : List Jvm.Cond) (va : Addr) (da : Addr) (kc : ClassId) (kd : ClassId) (c0 : Int32) (c1 : Int32) (c2 : Int32) (h0 : Heap) (n0 : Nat) (O0 : Old Z n0 h0) (VA : Arv Z h0 va kc .char (3 : Int32) [(.int c0), (.int c1), (.int c2)] (.int (0 : Int32))) (VD : Arv Z h0 da kd .byte (3 : Int32) [(.int (0 : Int32)), (.int (0 : Int32)), (.int (0 : Int32))] (.int (0 : Int32))) (nad : va ≠ da) (fda : n0 ≤ da) (hp0 : ¬ (255 : Int32) < c0) (hp1 : ¬ (255 : Int32) < c1) (hp2 : ¬ (255 : Int32) < c2) :
    MetFree l own_m19 (head1 (Jvm.Cond.code own_m19 jdk_52_method_21_code 7 (some .int) :: ws) ({ frames := 0, cells := 0, slots := 0, locals := 0 } : Room)) (fun ar_ U => ar_ = #[(.ref va), (.int (0 : Int32)), (.ref da), (.int (0 : Int32)), (.int (3 : Int32))] ∧ Z.Warmed39 U.vm ∧ U.heap = h0) (fun _ _ _ _ _ => True) (fun _ U o U' => ∃ v L, o = .returned v ∧ Q_cmp5_3 Z va da kc kd c0 c1 c2 h0 n0 v U'.heap L ∧ FrameEnd U o U' L ({ frames := 0, cells := 0, slots := 0, locals := 0 } : Room).cells ({ frames := 0, cells := 0, slots := 0, locals := 0 } : Room).slots) := by
  refine MetFree.of_bodySF (plainFor_of_name pn_5) hisR ?_
  intro p e s m args below meth c s₁ Bd hml0 hP hK
  obtain ⟨rfl, hZ, hh⟩ := hP
  have hx := Bd.exec
  have hby := Bd.bytes
  have hml : c.maxLocals = 7 := hml0
  have hown : s.vm.findClass "java/lang/StringUTF16" = some m.cls := findClass_of_methodNamed Bd.named
  have hnm := (name_of_methodNamed Bd.named Bd.method).1
  have X0 : Stand p l e ({ frames := 0, cells := 0, slots := 0, locals := 0 } : Room) s m #[(.ref va), (.int (0 : Int32)), (.ref da), (.int (0 : Int32)), (.int (3 : Int32))] below meth c s₁ [] 0 0 := Stand.of_body Bd
  have e0 : s₁.heap = h0 := by rw [← hh, Bd.state]; rfl
  have N0 := Fr.nil n0
  have hret := Bd.returns
  have hlk : meth.locks = false := Bd.notSynchronized
  show own_E p e below s ({ frames := 0, cells := 0, slots := 0, locals := 0 } : Room).cells ({ frames := 0, cells := 0, slots := 0, locals := 0 } : Room).slots (Q_cmp5_3 Z va da kc kd c0 c1 c2 h0 n0) s₁ (entryFrame m #[(.ref va), (.int (0 : Int32)), (.ref da), (.int (0 : Int32)), (.int (3 : Int32))] 7)
  rw [ef_cmp5_3 m va (0 : Int32) da (0 : Int32) (3 : Int32)]
  refine own_st (T' := s₁) (g' := (mkF m 1 #[rv va, iv (0 : Int32), rv da, iv (0 : Int32), iv (3 : Int32), .unset, .unset] [(.int (0 : Int32))])) (fun _ k_ => XS.iconst X0.here hx rfl (hb hby d15_0) k_) ?_
  refine own_st (T' := s₁) (g' := (mkF m 3 #[rv va, iv (0 : Int32), rv da, iv (0 : Int32), iv (3 : Int32), iv (0 : Int32), .unset] [])) (fun _ k_ => XS.istore X0.here hx rfl (hb hby d15_1) rfl (l' := #[rv va, iv (0 : Int32), rv da, iv (0 : Int32), iv (3 : Int32), iv (0 : Int32), .unset]) rfl k_) ?_
  refine own_st (T' := s₁) (g' := (mkF m 5 #[rv va, iv (0 : Int32), rv da, iv (0 : Int32), iv (3 : Int32), iv (0 : Int32), .unset] [(.int (0 : Int32))])) (fun _ k_ => XS.iload X0.here hx rfl (hb hby d15_3) rfl  k_) ?_
  refine own_st (T' := s₁) (g' := (mkF m 7 #[rv va, iv (0 : Int32), rv da, iv (0 : Int32), iv (3 : Int32), iv (0 : Int32), .unset] [(.int (3 : Int32)), (.int (0 : Int32))])) (fun _ k_ => XS.iload X0.here hx rfl (hb hby d15_5) rfl  k_) ?_
  refine own_st (T' := s₁) (g' := (mkF m 10 #[rv va, iv (0 : Int32), rv da, iv (0 : Int32), iv (3 : Int32), iv (0 : Int32), .unset] [])) (fun _ k_ => XS.icmpNo X0.here hx rfl (hb hby d15_7) rfl (tlt (by decide : (0 : Int32) < (3 : Int32))).2.1 k_) ?_
  refine own_st (T' := s₁) (g' := (mkF m 11 #[rv va, iv (0 : Int32), rv da, iv (0 : Int32), iv (3 : Int32), iv (0 : Int32), .unset] [(.ref va)])) (fun _ k_ => XS.aloadN X0.here hx rfl (hb hby d15_10) rfl rfl  k_) ?_
  refine own_st (T' := s₁) (g' := (mkF m 12 #[rv va, iv (0 : Int32), rv da, iv (0 : Int32), iv (3 : Int32), iv (0 : Int32), .unset] [(.int (0 : Int32)), (.ref va)])) (fun _ k_ => XS.iloadN X0.here hx rfl (hb hby d15_11) rfl  k_) ?_
  obtain ⟨cl1, Ar1, q1, S1, N1, H1, G1⟩ := id VA
  have hin1 : ¬ ((0 : Int32) < 0 ∨ cl1.slots.size ≤ ((0 : Int32)).toNatClampNeg) := inb_of S1 ⟨by decide, by decide⟩
  refine own_st (T' := s₁) (g' := (mkF m 13 #[rv va, iv (0 : Int32), rv da, iv (0 : Int32), iv (3 : Int32), iv (0 : Int32), .unset] [(.int c0)])) (X0.caload hx (j := (0 : Int32)) (v := (.int c0)) (by rw [e0]; exact Ar1.1) (State.isArrayOf_alike hZ.alike Ar1.2.1) Ar1.2.2 hin1 (H1.at hin1 rfl) (g := (mkF m 12 #[rv va, iv (0 : Int32), rv da, iv (0 : Int32), iv (3 : Int32), iv (0 : Int32), .unset] [(.int (0 : Int32)), (.ref va)])) rfl rfl (hb hby d15_12)) ?_
  clear hin1 G1 H1 N1 S1 q1 Ar1 cl1
  refine own_st (T' := s₁) (g' := (mkF m 15 #[rv va, iv (0 : Int32), rv da, iv (0 : Int32), iv (3 : Int32), iv (0 : Int32), iv c0] [])) (fun _ k_ => XS.istore X0.here hx rfl (hb hby d15_13) rfl (l' := #[rv va, iv (0 : Int32), rv da, iv (0 : Int32), iv (3 : Int32), iv (0 : Int32), iv c0]) rfl k_) ?_
  refine own_st (T' := s₁) (g' := (mkF m 17 #[rv va, iv (0 : Int32), rv da, iv (0 : Int32), iv (3 : Int32), iv (0 : Int32), iv c0] [(.int c0)])) (fun _ k_ => XS.iload X0.here hx rfl (hb hby d15_15) rfl  k_) ?_
  refine own_st (T' := s₁) (g' := (mkF m 20 #[rv va, iv (0 : Int32), rv da, iv (0 : Int32), iv (3 : Int32), iv (0 : Int32), iv c0] [(.int (255 : Int32)), (.int c0)])) (fun _ k_ => XS.sipush X0.here hx rfl (hb hby d15_17) k_) ?_
  refine own_st (T' := s₁) (g' := (mkF m 26 #[rv va, iv (0 : Int32), rv da, iv (0 : Int32), iv (3 : Int32), iv (0 : Int32), iv c0] [])) (fun _ k_ => XS.icmpYes X0.here hx rfl (pc0 := 20) (pc' := 26) rfl (hb hby d15_20) rfl (flt (hp0 : ¬ ((255 : Int32) < c0))).2.2.2 (by decide) (by decide) k_) ?_
  refine own_st (T' := s₁) (g' := (mkF m 27 #[rv va, iv (0 : Int32), rv da, iv (0 : Int32), iv (3 : Int32), iv (0 : Int32), iv c0] [(.ref da)])) (fun _ k_ => XS.aloadN X0.here hx rfl (hb hby d15_26) rfl rfl  k_) ?_
  refine own_st (T' := s₁) (g' := (mkF m 28 #[rv va, iv (0 : Int32), rv da, iv (0 : Int32), iv (3 : Int32), iv (0 : Int32), iv c0] [(.int (0 : Int32)), (.ref da)])) (fun _ k_ => XS.iloadN X0.here hx rfl (hb hby d15_27) rfl  k_) ?_
  refine own_st (T' := s₁) (g' := (mkF m 30 #[rv va, iv (0 : Int32), rv da, iv (0 : Int32), iv (3 : Int32), iv (0 : Int32), iv c0] [(.int c0), (.int (0 : Int32)), (.ref da)])) (fun _ k_ => XS.iload X0.here hx rfl (hb hby d15_28) rfl  k_) ?_
  refine own_st (T' := s₁) (g' := (mkF m 31 #[rv va, iv (0 : Int32), rv da, iv (0 : Int32), iv (3 : Int32), iv (0 : Int32), iv c0] [(.int (c0.toInt8.toInt32)), (.int (0 : Int32)), (.ref da)])) (fun _ k_ => XS.i2b X0.here hx rfl (hb hby d15_30) rfl k_) ?_
  obtain ⟨cl2, Ar2, q2, S2, N2, H2, G2⟩ := id VD
  have hin2 : ¬ ((0 : Int32) < 0 ∨ cl2.slots.size ≤ ((0 : Int32)).toNatClampNeg) := inb_of S2 ⟨by decide, by decide⟩
  obtain ⟨T3, h3, X3, e3, W3, st3⟩ := stB X0 hx hZ e0 Ar2 (j := (0 : Int32)) hin2 (g := (mkF m 31 #[rv va, iv (0 : Int32), rv da, iv (0 : Int32), iv (3 : Int32), iv (0 : Int32), iv c0] [(.int (c0.toInt8.toInt32)), (.int (0 : Int32)), (.ref da)])) rfl rfl (hb hby d15_31)
  have V3 : Arv Z h3 da kd .byte (3 : Int32) [(.int (nar .byte (c0.toInt8.toInt32))), (.int (0 : Int32)), (.int (0 : Int32))] (.int (0 : Int32)) := Arv.set Ar2 q2 S2 N2 H2 G2 (fits_nar_byte _) W3 0 rfl (Nat.le_of_ble_eq_true rfl)
  have Vn3 : Arv Z h3 da kd .byte (3 : Int32) [(.int (c0.toInt8.toInt32)), (.int (0 : Int32)), (.int (0 : Int32))] (.int (0 : Int32)) := by simpa only [own_bb] using V3
  have Nx3 := Fr.snoc X3 N0 fda
  refine own_st (T' := T3) (g' := (mkF m 32 #[rv va, iv (0 : Int32), rv da, iv (0 : Int32), iv (3 : Int32), iv (0 : Int32), iv c0] [])) st3 ?_
  clear hin2 G2 H2 N2 S2 q2 Ar2 cl2 st3
  refine own_st (T' := T3) (g' := (mkF m 35 #[rv va, iv (1 : Int32), rv da, iv (0 : Int32), iv (3 : Int32), iv (0 : Int32), iv c0] [])) (fun _ k_ => XS.iinc X3.here hx rfl (hb hby d15_32) rfl (l' := #[rv va, iv (1 : Int32), rv da, iv (0 : Int32), iv (3 : Int32), iv (0 : Int32), iv c0]) rfl k_) ?_
  refine own_st (T' := T3) (g' := (mkF m 38 #[rv va, iv (1 : Int32), rv da, iv (1 : Int32), iv (3 : Int32), iv (0 : Int32), iv c0] [])) (fun _ k_ => XS.iinc X3.here hx rfl (hb hby d15_35) rfl (l' := #[rv va, iv (1 : Int32), rv da, iv (1 : Int32), iv (3 : Int32), iv (0 : Int32), iv c0]) rfl k_) ?_
  refine own_st (T' := T3) (g' := (mkF m 41 #[rv va, iv (1 : Int32), rv da, iv (1 : Int32), iv (3 : Int32), iv (1 : Int32), iv c0] [])) (fun _ k_ => XS.iinc X3.here hx rfl (hb hby d15_38) rfl (l' := #[rv va, iv (1 : Int32), rv da, iv (1 : Int32), iv (3 : Int32), iv (1 : Int32), iv c0]) rfl k_) ?_
  refine own_st (T' := T3) (g' := (mkF m 3 #[rv va, iv (1 : Int32), rv da, iv (1 : Int32), iv (3 : Int32), iv (1 : Int32), iv c0] [])) (fun _ k_ => XS.goto X3.here hx rfl (pc0 := 41) (pc' := 3) rfl (hb hby d15_41) (by decide) (by decide) k_) ?_
  refine own_st (T' := T3) (g' := (mkF m 5 #[rv va, iv (1 : Int32), rv da, iv (1 : Int32), iv (3 : Int32), iv (1 : Int32), iv c0] [(.int (1 : Int32))])) (fun _ k_ => XS.iload X3.here hx rfl (hb hby d15_3) rfl  k_) ?_
  refine own_st (T' := T3) (g' := (mkF m 7 #[rv va, iv (1 : Int32), rv da, iv (1 : Int32), iv (3 : Int32), iv (1 : Int32), iv c0] [(.int (3 : Int32)), (.int (1 : Int32))])) (fun _ k_ => XS.iload X3.here hx rfl (hb hby d15_5) rfl  k_) ?_
  refine own_st (T' := T3) (g' := (mkF m 10 #[rv va, iv (1 : Int32), rv da, iv (1 : Int32), iv (3 : Int32), iv (1 : Int32), iv c0] [])) (fun _ k_ => XS.icmpNo X3.here hx rfl (hb hby d15_7) rfl (tlt (by decide : (1 : Int32) < (3 : Int32))).2.1 k_) ?_
  refine own_st (T' := T3) (g' := (mkF m 11 #[rv va, iv (1 : Int32), rv da, iv (1 : Int32), iv (3 : Int32), iv (1 : Int32), iv c0] [(.ref va)])) (fun _ k_ => XS.aloadN X3.here hx rfl (hb hby d15_10) rfl rfl  k_) ?_
  refine own_st (T' := T3) (g' := (mkF m 12 #[rv va, iv (1 : Int32), rv da, iv (1 : Int32), iv (3 : Int32), iv (1 : Int32), iv c0] [(.int (1 : Int32)), (.ref va)])) (fun _ k_ => XS.iloadN X3.here hx rfl (hb hby d15_11) rfl  k_) ?_
  have f4 : Arv Z h3 va kc .char (3 : Int32) [(.int c0), (.int c1), (.int c2)] (.int (0 : Int32)) := VA.other W3 nad
  obtain ⟨cl5, Ar5, q5, S5, N5, H5, G5⟩ := id f4
  have hin5 : ¬ ((1 : Int32) < 0 ∨ cl5.slots.size ≤ ((1 : Int32)).toNatClampNeg) := inb_of S5 ⟨by decide, by decide⟩
  refine own_st (T' := T3) (g' := (mkF m 13 #[rv va, iv (1 : Int32), rv da, iv (1 : Int32), iv (3 : Int32), iv (1 : Int32), iv c0] [(.int c1)])) (X3.caload hx (j := (1 : Int32)) (v := (.int c1)) (by rw [e3]; exact Ar5.1) (State.isArrayOf_alike hZ.alike Ar5.2.1) Ar5.2.2 hin5 (H5.at hin5 rfl) (g := (mkF m 12 #[rv va, iv (1 : Int32), rv da, iv (1 : Int32), iv (3 : Int32), iv (1 : Int32), iv c0] [(.int (1 : Int32)), (.ref va)])) rfl rfl (hb hby d15_12)) ?_
  clear hin5 G5 H5 N5 S5 q5 Ar5 cl5
  refine own_st (T' := T3) (g' := (mkF m 15 #[rv va, iv (1 : Int32), rv da, iv (1 : Int32), iv (3 : Int32), iv (1 : Int32), iv c1] [])) (fun _ k_ => XS.istore X3.here hx rfl (hb hby d15_13) rfl (l' := #[rv va, iv (1 : Int32), rv da, iv (1 : Int32), iv (3 : Int32), iv (1 : Int32), iv c1]) rfl k_) ?_
  refine own_st (T' := T3) (g' := (mkF m 17 #[rv va, iv (1 : Int32), rv da, iv (1 : Int32), iv (3 : Int32), iv (1 : Int32), iv c1] [(.int c1)])) (fun _ k_ => XS.iload X3.here hx rfl (hb hby d15_15) rfl  k_) ?_
  refine own_st (T' := T3) (g' := (mkF m 20 #[rv va, iv (1 : Int32), rv da, iv (1 : Int32), iv (3 : Int32), iv (1 : Int32), iv c1] [(.int (255 : Int32)), (.int c1)])) (fun _ k_ => XS.sipush X3.here hx rfl (hb hby d15_17) k_) ?_
  refine own_st (T' := T3) (g' := (mkF m 26 #[rv va, iv (1 : Int32), rv da, iv (1 : Int32), iv (3 : Int32), iv (1 : Int32), iv c1] [])) (fun _ k_ => XS.icmpYes X3.here hx rfl (pc0 := 20) (pc' := 26) rfl (hb hby d15_20) rfl (flt (hp1 : ¬ ((255 : Int32) < c1))).2.2.2 (by decide) (by decide) k_) ?_
  refine own_st (T' := T3) (g' := (mkF m 27 #[rv va, iv (1 : Int32), rv da, iv (1 : Int32), iv (3 : Int32), iv (1 : Int32), iv c1] [(.ref da)])) (fun _ k_ => XS.aloadN X3.here hx rfl (hb hby d15_26) rfl rfl  k_) ?_
  refine own_st (T' := T3) (g' := (mkF m 28 #[rv va, iv (1 : Int32), rv da, iv (1 : Int32), iv (3 : Int32), iv (1 : Int32), iv c1] [(.int (1 : Int32)), (.ref da)])) (fun _ k_ => XS.iloadN X3.here hx rfl (hb hby d15_27) rfl  k_) ?_
  refine own_st (T' := T3) (g' := (mkF m 30 #[rv va, iv (1 : Int32), rv da, iv (1 : Int32), iv (3 : Int32), iv (1 : Int32), iv c1] [(.int c1), (.int (1 : Int32)), (.ref da)])) (fun _ k_ => XS.iload X3.here hx rfl (hb hby d15_28) rfl  k_) ?_
  refine own_st (T' := T3) (g' := (mkF m 31 #[rv va, iv (1 : Int32), rv da, iv (1 : Int32), iv (3 : Int32), iv (1 : Int32), iv c1] [(.int (c1.toInt8.toInt32)), (.int (1 : Int32)), (.ref da)])) (fun _ k_ => XS.i2b X3.here hx rfl (hb hby d15_30) rfl k_) ?_
  obtain ⟨cl6, Ar6, q6, S6, N6, H6, G6⟩ := id Vn3
  have hin6 : ¬ ((1 : Int32) < 0 ∨ cl6.slots.size ≤ ((1 : Int32)).toNatClampNeg) := inb_of S6 ⟨by decide, by decide⟩
  obtain ⟨T7, h7, X7, e7, W7, st7⟩ := stB X3 hx hZ e3 Ar6 (j := (1 : Int32)) hin6 (g := (mkF m 31 #[rv va, iv (1 : Int32), rv da, iv (1 : Int32), iv (3 : Int32), iv (1 : Int32), iv c1] [(.int (c1.toInt8.toInt32)), (.int (1 : Int32)), (.ref da)])) rfl rfl (hb hby d15_31)
  have V7 : Arv Z h7 da kd .byte (3 : Int32) [(.int (c0.toInt8.toInt32)), (.int (nar .byte (c1.toInt8.toInt32))), (.int (0 : Int32))] (.int (0 : Int32)) := Arv.set Ar6 q6 S6 N6 H6 G6 (fits_nar_byte _) W7 1 rfl (Nat.le_of_ble_eq_true rfl)
  have Vn7 : Arv Z h7 da kd .byte (3 : Int32) [(.int (c0.toInt8.toInt32)), (.int (c1.toInt8.toInt32)), (.int (0 : Int32))] (.int (0 : Int32)) := by simpa only [own_bb] using V7
  have Nx7 := Fr.snoc X7 Nx3 fda
  refine own_st (T' := T7) (g' := (mkF m 32 #[rv va, iv (1 : Int32), rv da, iv (1 : Int32), iv (3 : Int32), iv (1 : Int32), iv c1] [])) st7 ?_
  clear hin6 G6 H6 N6 S6 q6 Ar6 cl6 st7
  refine own_st (T' := T7) (g' := (mkF m 35 #[rv va, iv (2 : Int32), rv da, iv (1 : Int32), iv (3 : Int32), iv (1 : Int32), iv c1] [])) (fun _ k_ => XS.iinc X7.here hx rfl (hb hby d15_32) rfl (l' := #[rv va, iv (2 : Int32), rv da, iv (1 : Int32), iv (3 : Int32), iv (1 : Int32), iv c1]) rfl k_) ?_
  refine own_st (T' := T7) (g' := (mkF m 38 #[rv va, iv (2 : Int32), rv da, iv (2 : Int32), iv (3 : Int32), iv (1 : Int32), iv c1] [])) (fun _ k_ => XS.iinc X7.here hx rfl (hb hby d15_35) rfl (l' := #[rv va, iv (2 : Int32), rv da, iv (2 : Int32), iv (3 : Int32), iv (1 : Int32), iv c1]) rfl k_) ?_
  refine own_st (T' := T7) (g' := (mkF m 41 #[rv va, iv (2 : Int32), rv da, iv (2 : Int32), iv (3 : Int32), iv (2 : Int32), iv c1] [])) (fun _ k_ => XS.iinc X7.here hx rfl (hb hby d15_38) rfl (l' := #[rv va, iv (2 : Int32), rv da, iv (2 : Int32), iv (3 : Int32), iv (2 : Int32), iv c1]) rfl k_) ?_
  refine own_st (T' := T7) (g' := (mkF m 3 #[rv va, iv (2 : Int32), rv da, iv (2 : Int32), iv (3 : Int32), iv (2 : Int32), iv c1] [])) (fun _ k_ => XS.goto X7.here hx rfl (pc0 := 41) (pc' := 3) rfl (hb hby d15_41) (by decide) (by decide) k_) ?_
  refine own_st (T' := T7) (g' := (mkF m 5 #[rv va, iv (2 : Int32), rv da, iv (2 : Int32), iv (3 : Int32), iv (2 : Int32), iv c1] [(.int (2 : Int32))])) (fun _ k_ => XS.iload X7.here hx rfl (hb hby d15_3) rfl  k_) ?_
  refine own_st (T' := T7) (g' := (mkF m 7 #[rv va, iv (2 : Int32), rv da, iv (2 : Int32), iv (3 : Int32), iv (2 : Int32), iv c1] [(.int (3 : Int32)), (.int (2 : Int32))])) (fun _ k_ => XS.iload X7.here hx rfl (hb hby d15_5) rfl  k_) ?_
  refine own_st (T' := T7) (g' := (mkF m 10 #[rv va, iv (2 : Int32), rv da, iv (2 : Int32), iv (3 : Int32), iv (2 : Int32), iv c1] [])) (fun _ k_ => XS.icmpNo X7.here hx rfl (hb hby d15_7) rfl (tlt (by decide : (2 : Int32) < (3 : Int32))).2.1 k_) ?_
  refine own_st (T' := T7) (g' := (mkF m 11 #[rv va, iv (2 : Int32), rv da, iv (2 : Int32), iv (3 : Int32), iv (2 : Int32), iv c1] [(.ref va)])) (fun _ k_ => XS.aloadN X7.here hx rfl (hb hby d15_10) rfl rfl  k_) ?_
  refine own_st (T' := T7) (g' := (mkF m 12 #[rv va, iv (2 : Int32), rv da, iv (2 : Int32), iv (3 : Int32), iv (2 : Int32), iv c1] [(.int (2 : Int32)), (.ref va)])) (fun _ k_ => XS.iloadN X7.here hx rfl (hb hby d15_11) rfl  k_) ?_
  have f8 : Arv Z h7 va kc .char (3 : Int32) [(.int c0), (.int c1), (.int c2)] (.int (0 : Int32)) := f4.other W7 nad
  obtain ⟨cl9, Ar9, q9, S9, N9, H9, G9⟩ := id f8
  have hin9 : ¬ ((2 : Int32) < 0 ∨ cl9.slots.size ≤ ((2 : Int32)).toNatClampNeg) := inb_of S9 ⟨by decide, by decide⟩
  refine own_st (T' := T7) (g' := (mkF m 13 #[rv va, iv (2 : Int32), rv da, iv (2 : Int32), iv (3 : Int32), iv (2 : Int32), iv c1] [(.int c2)])) (X7.caload hx (j := (2 : Int32)) (v := (.int c2)) (by rw [e7]; exact Ar9.1) (State.isArrayOf_alike hZ.alike Ar9.2.1) Ar9.2.2 hin9 (H9.at hin9 rfl) (g := (mkF m 12 #[rv va, iv (2 : Int32), rv da, iv (2 : Int32), iv (3 : Int32), iv (2 : Int32), iv c1] [(.int (2 : Int32)), (.ref va)])) rfl rfl (hb hby d15_12)) ?_
  clear hin9 G9 H9 N9 S9 q9 Ar9 cl9
  refine own_st (T' := T7) (g' := (mkF m 15 #[rv va, iv (2 : Int32), rv da, iv (2 : Int32), iv (3 : Int32), iv (2 : Int32), iv c2] [])) (fun _ k_ => XS.istore X7.here hx rfl (hb hby d15_13) rfl (l' := #[rv va, iv (2 : Int32), rv da, iv (2 : Int32), iv (3 : Int32), iv (2 : Int32), iv c2]) rfl k_) ?_
  refine own_st (T' := T7) (g' := (mkF m 17 #[rv va, iv (2 : Int32), rv da, iv (2 : Int32), iv (3 : Int32), iv (2 : Int32), iv c2] [(.int c2)])) (fun _ k_ => XS.iload X7.here hx rfl (hb hby d15_15) rfl  k_) ?_
  refine own_st (T' := T7) (g' := (mkF m 20 #[rv va, iv (2 : Int32), rv da, iv (2 : Int32), iv (3 : Int32), iv (2 : Int32), iv c2] [(.int (255 : Int32)), (.int c2)])) (fun _ k_ => XS.sipush X7.here hx rfl (hb hby d15_17) k_) ?_
  refine own_st (T' := T7) (g' := (mkF m 26 #[rv va, iv (2 : Int32), rv da, iv (2 : Int32), iv (3 : Int32), iv (2 : Int32), iv c2] [])) (fun _ k_ => XS.icmpYes X7.here hx rfl (pc0 := 20) (pc' := 26) rfl (hb hby d15_20) rfl (flt (hp2 : ¬ ((255 : Int32) < c2))).2.2.2 (by decide) (by decide) k_) ?_
  refine own_st (T' := T7) (g' := (mkF m 27 #[rv va, iv (2 : Int32), rv da, iv (2 : Int32), iv (3 : Int32), iv (2 : Int32), iv c2] [(.ref da)])) (fun _ k_ => XS.aloadN X7.here hx rfl (hb hby d15_26) rfl rfl  k_) ?_
  refine own_st (T' := T7) (g' := (mkF m 28 #[rv va, iv (2 : Int32), rv da, iv (2 : Int32), iv (3 : Int32), iv (2 : Int32), iv c2] [(.int (2 : Int32)), (.ref da)])) (fun _ k_ => XS.iloadN X7.here hx rfl (hb hby d15_27) rfl  k_) ?_
  refine own_st (T' := T7) (g' := (mkF m 30 #[rv va, iv (2 : Int32), rv da, iv (2 : Int32), iv (3 : Int32), iv (2 : Int32), iv c2] [(.int c2), (.int (2 : Int32)), (.ref da)])) (fun _ k_ => XS.iload X7.here hx rfl (hb hby d15_28) rfl  k_) ?_
  refine own_st (T' := T7) (g' := (mkF m 31 #[rv va, iv (2 : Int32), rv da, iv (2 : Int32), iv (3 : Int32), iv (2 : Int32), iv c2] [(.int (c2.toInt8.toInt32)), (.int (2 : Int32)), (.ref da)])) (fun _ k_ => XS.i2b X7.here hx rfl (hb hby d15_30) rfl k_) ?_
  obtain ⟨cl10, Ar10, q10, S10, N10, H10, G10⟩ := id Vn7
  have hin10 : ¬ ((2 : Int32) < 0 ∨ cl10.slots.size ≤ ((2 : Int32)).toNatClampNeg) := inb_of S10 ⟨by decide, by decide⟩
  obtain ⟨T11, h11, X11, e11, W11, st11⟩ := stB X7 hx hZ e7 Ar10 (j := (2 : Int32)) hin10 (g := (mkF m 31 #[rv va, iv (2 : Int32), rv da, iv (2 : Int32), iv (3 : Int32), iv (2 : Int32), iv c2] [(.int (c2.toInt8.toInt32)), (.int (2 : Int32)), (.ref da)])) rfl rfl (hb hby d15_31)
  have V11 : Arv Z h11 da kd .byte (3 : Int32) [(.int (c0.toInt8.toInt32)), (.int (c1.toInt8.toInt32)), (.int (nar .byte (c2.toInt8.toInt32)))] (.int (0 : Int32)) := Arv.set Ar10 q10 S10 N10 H10 G10 (fits_nar_byte _) W11 2 rfl (Nat.le_of_ble_eq_true rfl)
  have Vn11 : Arv Z h11 da kd .byte (3 : Int32) [(.int (c0.toInt8.toInt32)), (.int (c1.toInt8.toInt32)), (.int (c2.toInt8.toInt32))] (.int (0 : Int32)) := by simpa only [own_bb] using V11
  have Nx11 := Fr.snoc X11 Nx7 fda
  refine own_st (T' := T11) (g' := (mkF m 32 #[rv va, iv (2 : Int32), rv da, iv (2 : Int32), iv (3 : Int32), iv (2 : Int32), iv c2] [])) st11 ?_
  clear hin10 G10 H10 N10 S10 q10 Ar10 cl10 st11
  refine own_st (T' := T11) (g' := (mkF m 35 #[rv va, iv (3 : Int32), rv da, iv (2 : Int32), iv (3 : Int32), iv (2 : Int32), iv c2] [])) (fun _ k_ => XS.iinc X11.here hx rfl (hb hby d15_32) rfl (l' := #[rv va, iv (3 : Int32), rv da, iv (2 : Int32), iv (3 : Int32), iv (2 : Int32), iv c2]) rfl k_) ?_
  refine own_st (T' := T11) (g' := (mkF m 38 #[rv va, iv (3 : Int32), rv da, iv (3 : Int32), iv (3 : Int32), iv (2 : Int32), iv c2] [])) (fun _ k_ => XS.iinc X11.here hx rfl (hb hby d15_35) rfl (l' := #[rv va, iv (3 : Int32), rv da, iv (3 : Int32), iv (3 : Int32), iv (2 : Int32), iv c2]) rfl k_) ?_
  refine own_st (T' := T11) (g' := (mkF m 41 #[rv va, iv (3 : Int32), rv da, iv (3 : Int32), iv (3 : Int32), iv (3 : Int32), iv c2] [])) (fun _ k_ => XS.iinc X11.here hx rfl (hb hby d15_38) rfl (l' := #[rv va, iv (3 : Int32), rv da, iv (3 : Int32), iv (3 : Int32), iv (3 : Int32), iv c2]) rfl k_) ?_
  refine own_st (T' := T11) (g' := (mkF m 3 #[rv va, iv (3 : Int32), rv da, iv (3 : Int32), iv (3 : Int32), iv (3 : Int32), iv c2] [])) (fun _ k_ => XS.goto X11.here hx rfl (pc0 := 41) (pc' := 3) rfl (hb hby d15_41) (by decide) (by decide) k_) ?_
  refine own_st (T' := T11) (g' := (mkF m 5 #[rv va, iv (3 : Int32), rv da, iv (3 : Int32), iv (3 : Int32), iv (3 : Int32), iv c2] [(.int (3 : Int32))])) (fun _ k_ => XS.iload X11.here hx rfl (hb hby d15_3) rfl  k_) ?_
  refine own_st (T' := T11) (g' := (mkF m 7 #[rv va, iv (3 : Int32), rv da, iv (3 : Int32), iv (3 : Int32), iv (3 : Int32), iv c2] [(.int (3 : Int32)), (.int (3 : Int32))])) (fun _ k_ => XS.iload X11.here hx rfl (hb hby d15_5) rfl  k_) ?_
  refine own_st (T' := T11) (g' := (mkF m 44 #[rv va, iv (3 : Int32), rv da, iv (3 : Int32), iv (3 : Int32), iv (3 : Int32), iv c2] [])) (fun _ k_ => XS.icmpYes X11.here hx rfl (pc0 := 7) (pc' := 44) rfl (hb hby d15_7) rfl (flt (by decide : ¬ ((3 : Int32) < (3 : Int32)))).2.1 (by decide) (by decide) k_) ?_
  refine own_st (T' := T11) (g' := (mkF m 46 #[rv va, iv (3 : Int32), rv da, iv (3 : Int32), iv (3 : Int32), iv (3 : Int32), iv c2] [(.int (3 : Int32))])) (fun _ k_ => XS.iload X11.here hx rfl (hb hby d15_44) rfl  k_) ?_
  have f12 : Keep h0 h3 [da] := (Keep.refl h0 [da]).wr W3 (Or.inl (List.mem_of_getElem? (i := 0) rfl))
  have f13 : Keep h0 h7 [da] := f12.wr W7 (Or.inl (List.mem_of_getElem? (i := 0) rfl))
  have f14 : Keep h0 h11 [da] := f13.wr W11 (Or.inl (List.mem_of_getElem? (i := 0) rfl))
  exact own_retI X11 hx hret hlk (hb hby d15_46) (by decide) (by decide) (by rw [e11]; exact ⟨rfl, Nx11, f14, Vn11⟩)
theorem ef_cmp3_3 (m : MethodId) (x0 : Addr) (x1 : Int32) (x2 : Int32) : entryFrame m #[(.ref x0), (.int x1), (.int x2)] 6 = mkF m 0 #[rv x0, iv x1, iv x2, .unset, .unset, .unset] [] := by first | (simp [entryFrame, mkF, argsToLocals, Value.category]; done) | rfl
def Q_cmp3_3 (Z : State) (va : Addr) (kc : ClassId) (c0 : Int32) (c1 : Int32) (c2 : Int32) (h0 : Heap) (n0 : Nat) (v : Option Value) (h : Heap) (L : List Loc) : Prop := ∃ (t : Addr) (kb : ClassId), (v = some (.ref t)) ∧ (Fr n0 L) ∧ (Keep h0 h []) ∧ (Arv Z h t kb .byte (3 : Int32) [(.int (c0.toInt8.toInt32)), (.int (c1.toInt8.toInt32)), (.int (c2.toInt8.toInt32))] (.int (0 : Int32))) ∧ (h0.size ≤ t)
set_option maxRecDepth 65536 in
set_option maxHeartbeats 40000000 in
theorem rm_cmp3_3 (l : Launch) (Z : State) (a0 : Array Value) (hw : ∀ d ∈ tables_1, d.before a0 Z = true) (ws : List Jvm.Cond) (va : Addr) (kc : ClassId) (c0 : Int32) (c1 : Int32) (c2 : Int32) (h0 : Heap) (n0 : Nat) (O0 : Old Z n0 h0) (VA : Arv Z h0 va kc .char (3 : Int32) [(.int c0), (.int c1), (.int c2)] (.int (0 : Int32))) (hp0 : ¬ (255 : Int32) < c0) (hp1 : ¬ (255 : Int32) < c1) (hp2 : ¬ (255 : Int32) < c2) :
    MetFree l own_m20 (head1 (Jvm.Cond.code own_m20 jdk_52_method_16_code 6 (some (.array .byte)) :: ws) ({ frames := 1, cells := 1, slots := 3, locals := 18 } : Room)) (fun ar_ U => ar_ = #[(.ref va), (.int (0 : Int32)), (.int (3 : Int32))] ∧ Z.Warmed39 U.vm ∧ U.heap = h0) (fun _ _ _ _ _ => True) (fun _ U o U' => ∃ v L, o = .returned v ∧ Q_cmp3_3 Z va kc c0 c1 c2 h0 n0 v U'.heap L ∧ FrameEnd U o U' L ({ frames := 1, cells := 1, slots := 3, locals := 18 } : Room).cells ({ frames := 1, cells := 1, slots := 3, locals := 18 } : Room).slots) := by
  refine MetFree.of_bodySF (plainFor_of_name pn_5) hisR ?_
  intro p e s m args below meth c s₁ Bd hml0 hP hK
  obtain ⟨rfl, hZ, hh⟩ := hP
  have hx := Bd.exec
  have hby := Bd.bytes
  have hml : c.maxLocals = 6 := hml0
  have hown : s.vm.findClass "java/lang/StringUTF16" = some m.cls := findClass_of_methodNamed Bd.named
  have hnm := (name_of_methodNamed Bd.named Bd.method).1
  have X0 : Stand p l e ({ frames := 1, cells := 1, slots := 3, locals := 18 } : Room) s m #[(.ref va), (.int (0 : Int32)), (.int (3 : Int32))] below meth c s₁ [] 0 0 := Stand.of_body Bd
  have e0 : s₁.heap = h0 := by rw [← hh, Bd.state]; rfl
  have N0 := Fr.nil n0
  have hret := Bd.returns
  have hlk : meth.locks = false := Bd.notSynchronized
  show own_E p e below s ({ frames := 1, cells := 1, slots := 3, locals := 18 } : Room).cells ({ frames := 1, cells := 1, slots := 3, locals := 18 } : Room).slots (Q_cmp3_3 Z va kc c0 c1 c2 h0 n0) s₁ (entryFrame m #[(.ref va), (.int (0 : Int32)), (.int (3 : Int32))] 6)
  rw [ef_cmp3_3 m va (0 : Int32) (3 : Int32)]
  refine own_st (T' := s₁) (g' := (mkF m 1 #[rv va, iv (0 : Int32), iv (3 : Int32), .unset, .unset, .unset] [(.int (3 : Int32))])) (fun _ k_ => XS.iloadN X0.here hx rfl (hb hby d14_0) rfl  k_) ?_
  obtain ⟨T1, h1, k1, X1, e1, E1, A1, st1⟩ := newP X0 hx hZ (wd hw 23 rfl) e0 (g := (mkF m 1 #[rv va, iv (0 : Int32), iv (3 : Int32), .unset, .unset, .unset] [(.int (3 : Int32))])) rfl (hb hby d14_1) rfl (by decide) (cap := 3) (by decide) (by decide) (by decide) (by decide)
  obtain ⟨b1, g1⟩ : ∃ z, z = h0.size := ⟨_, rfl⟩
  rw [← g1] at A1 st1
  have fr1 : n0 ≤ b1 := Nat.le_trans (own_z O0) (Nat.le_of_eq g1.symm)
  have sz1 : h0.size ≤ b1 := Nat.le_trans (Keep.refl h0 []).1 (Nat.le_of_eq g1.symm)
  have V1 : Arv Z h1 b1 k1 .byte (3 : Int32) [(.int (0 : Int32)), (.int (0 : Int32)), (.int (0 : Int32))] (.int (0 : Int32)) := (Arv.new A1 (by decide)).pad (pad_rep [] (.int (0 : Int32)) 3)
  refine own_st (T' := T1) (g' := (mkF m 3 #[rv va, iv (0 : Int32), iv (3 : Int32), .unset, .unset, .unset] [(.ref b1)])) st1 ?_
  clear st1
  refine own_st (T' := T1) (g' := (mkF m 4 #[rv va, iv (0 : Int32), iv (3 : Int32), rv b1, .unset, .unset] [])) (fun _ k_ => XS.astoreN X1.here hx rfl (hb hby d14_3) rfl rfl (l' := #[rv va, iv (0 : Int32), iv (3 : Int32), rv b1, .unset, .unset]) rfl k_) ?_
  refine own_st (T' := T1) (g' := (mkF m 5 #[rv va, iv (0 : Int32), iv (3 : Int32), rv b1, .unset, .unset] [(.ref va)])) (fun _ k_ => XS.aloadN X1.here hx rfl (hb hby d14_4) rfl rfl  k_) ?_
  refine own_st (T' := T1) (g' := (mkF m 6 #[rv va, iv (0 : Int32), iv (3 : Int32), rv b1, .unset, .unset] [(.int (0 : Int32)), (.ref va)])) (fun _ k_ => XS.iloadN X1.here hx rfl (hb hby d14_5) rfl  k_) ?_
  refine own_st (T' := T1) (g' := (mkF m 7 #[rv va, iv (0 : Int32), iv (3 : Int32), rv b1, .unset, .unset] [(.ref b1), (.int (0 : Int32)), (.ref va)])) (fun _ k_ => XS.aloadN X1.here hx rfl (hb hby d14_6) rfl rfl  k_) ?_
  refine own_st (T' := T1) (g' := (mkF m 8 #[rv va, iv (0 : Int32), iv (3 : Int32), rv b1, .unset, .unset] [(.int (0 : Int32)), (.ref b1), (.int (0 : Int32)), (.ref va)])) (fun _ k_ => XS.iconst X1.here hx rfl (hb hby d14_7) k_) ?_
  refine own_st (T' := T1) (g' := (mkF m 9 #[rv va, iv (0 : Int32), iv (3 : Int32), rv b1, .unset, .unset] [(.int (3 : Int32)), (.int (0 : Int32)), (.ref b1), (.int (0 : Int32)), (.ref va)])) (fun _ k_ => XS.iloadN X1.here hx rfl (hb hby d14_8) rfl  k_) ?_
  have f2 : Arv Z h1 va kc .char (3 : Int32) [(.int c0), (.int c1), (.int c2)] (.int (0 : Int32)) := VA.ext E1
  have ne3 : va ≠ b1 := Nat.ne_of_lt (Nat.lt_of_lt_of_le VA.lt (Nat.le_of_eq g1.symm))
  have f4 : Old Z n0 h1 := O0.ext E1
  obtain ⟨_, T5, L5, X5, hQ5, st5⟩ := own_callS X1 hx (y := own_m19) hown (mvT hZ (wd hw 70 rfl)) (mvT hZ (wd hw 71 rfl)) (mvT hZ (wd hw 68 rfl)) (mvT hZ (wd hw 72 rfl)) (by decide) (backOf (W := 0) (rm_cmp5_3 l Z a0 hw [] va b1 kc k1 c0 c1 c2 h1 n0 f4 f2 V1 ne3 fr1 hp0 hp1 hp2) hZ (wd hw 72 rfl) (wd hw 68 rfl) (by decide) (by decide)) (g := (mkF m 9 #[rv va, iv (0 : Int32), iv (3 : Int32), rv b1, .unset, .unset] [(.int (3 : Int32)), (.int (0 : Int32)), (.ref b1), (.int (0 : Int32)), (.ref va)])) rfl (by rw [hml]; rfl) (argsL := [(.ref va), (.int (0 : Int32)), (.ref b1), (.int (0 : Int32)), (.int (3 : Int32))]) (rest := []) (lenOf pd___CI_BII_I rfl) rfl (by show 2 * 0 + _ ≤ _; exact Nat.le_of_eq rfl) (hb hby d14_9) rfl e1 (by decide) (by decide) (c' := 1) (s' := 3) rfl rfl
  obtain ⟨rfl, Nq5, K5, fq5_0⟩ := hQ5
  have N5 := Fr.app N0 Nq5
  refine own_st (T' := T5) (g' := (mkF m 12 #[rv va, iv (0 : Int32), iv (3 : Int32), rv b1, .unset, .unset] [(.int (3 : Int32))])) st5 ?_
  clear st5
  refine own_st (T' := T5) (g' := (mkF m 14 #[rv va, iv (0 : Int32), iv (3 : Int32), rv b1, iv (3 : Int32), .unset] [])) (fun _ k_ => XS.istore X5.here hx rfl (hb hby d14_12) rfl (l' := #[rv va, iv (0 : Int32), iv (3 : Int32), rv b1, iv (3 : Int32), .unset]) rfl k_) ?_
  refine own_st (T' := T5) (g' := (mkF m 16 #[rv va, iv (0 : Int32), iv (3 : Int32), rv b1, iv (3 : Int32), .unset] [(.int (3 : Int32))])) (fun _ k_ => XS.iload X5.here hx rfl (hb hby d14_14) rfl  k_) ?_
  refine own_st (T' := T5) (g' := (mkF m 17 #[rv va, iv (0 : Int32), iv (3 : Int32), rv b1, iv (3 : Int32), .unset] [(.int (3 : Int32)), (.int (3 : Int32))])) (fun _ k_ => XS.iloadN X5.here hx rfl (hb hby d14_16) rfl  k_) ?_
  refine own_st (T' := T5) (g' := (mkF m 57 #[rv va, iv (0 : Int32), iv (3 : Int32), rv b1, iv (3 : Int32), .unset] [])) (fun _ k_ => XS.icmpYes X5.here hx rfl (pc0 := 17) (pc' := 57) rfl (hb hby d14_17) rfl (teq (rfl : (3 : Int32) = (3 : Int32))).1 (by decide) (by decide) k_) ?_
  refine own_st (T' := T5) (g' := (mkF m 58 #[rv va, iv (0 : Int32), iv (3 : Int32), rv b1, iv (3 : Int32), .unset] [(.ref b1)])) (fun _ k_ => XS.aloadN X5.here hx rfl (hb hby d14_57) rfl rfl  k_) ?_
  have f6 : Keep h0 h1 [] := (Keep.refl h0 []).ext E1
  have f7 : Keep h0 T5.heap [] := f6.trans K5 (allS (Or.inr sz1) all0)
  exact own_retA X5 hx hret rfl rfl hlk (hb hby d14_58) (by decide) (by decide) ⟨b1, k1, rfl, N5, f7, fq5_0, sz1⟩
theorem ef_cdr_3 (m : MethodId) (x0 : Addr) (x1 : Int32) : entryFrame m #[(.ref x0), (.int x1)] 2 = mkF m 0 #[rv x0, iv x1] [] := by first | (simp [entryFrame, mkF, argsToLocals, Value.category]; done) | rfl
def Q_cdr_3 (Z : State) (t : Addr) (kb : ClassId) (vs : List Value) (h0 : Heap) (n0 : Nat) (v : Option Value) (h : Heap) (L : List Loc) : Prop := (v = some (.int (0 : Int32))) ∧ (Fr n0 L) ∧ (h = h0)
set_option maxRecDepth 65536 in
set_option maxHeartbeats 40000000 in
theorem rm_cdr_3 (l : Launch) (Z : State) (a0 : Array Value) (hw : ∀ d ∈ tables_1, d.before a0 Z = true) (ws : List Jvm.Cond) (t : Addr) (kb : ClassId) (vs : List Value) (h0 : Heap) (n0 : Nat) (O0 : Old Z n0 h0) (VT : Arv Z h0 t kb .byte (3 : Int32) vs (.int (0 : Int32))) :
    MetFree l own_m21 (head1 (Jvm.Cond.code own_m21 jdk_52_method_15_code 2 (some .byte) :: ws) ({ frames := 0, cells := 0, slots := 0, locals := 0 } : Room)) (fun ar_ U => ar_ = #[(.ref t), (.int (3 : Int32))] ∧ Z.Warmed39 U.vm ∧ U.heap = h0) (fun _ _ _ _ _ => True) (fun _ U o U' => ∃ v L, o = .returned v ∧ Q_cdr_3 Z t kb vs h0 n0 v U'.heap L ∧ FrameEnd U o U' L ({ frames := 0, cells := 0, slots := 0, locals := 0 } : Room).cells ({ frames := 0, cells := 0, slots := 0, locals := 0 } : Room).slots) := by
  refine MetFree.of_bodySF (plainFor_of_name pn_5) hisR ?_
  intro p e s m args below meth c s₁ Bd hml0 hP hK
  obtain ⟨rfl, hZ, hh⟩ := hP
  have hx := Bd.exec
  have hby := Bd.bytes
  have hml : c.maxLocals = 2 := hml0
  have hown : s.vm.findClass "java/lang/StringUTF16" = some m.cls := findClass_of_methodNamed Bd.named
  have hnm := (name_of_methodNamed Bd.named Bd.method).1
  have X0 : Stand p l e ({ frames := 0, cells := 0, slots := 0, locals := 0 } : Room) s m #[(.ref t), (.int (3 : Int32))] below meth c s₁ [] 0 0 := Stand.of_body Bd
  have e0 : s₁.heap = h0 := by rw [← hh, Bd.state]; rfl
  have N0 := Fr.nil n0
  have hret := Bd.returns
  have hlk : meth.locks = false := Bd.notSynchronized
  show own_E p e below s ({ frames := 0, cells := 0, slots := 0, locals := 0 } : Room).cells ({ frames := 0, cells := 0, slots := 0, locals := 0 } : Room).slots (Q_cdr_3 Z t kb vs h0 n0) s₁ (entryFrame m #[(.ref t), (.int (3 : Int32))] 2)
  rw [ef_cdr_3 m t (3 : Int32)]
  refine own_st (T' := s₁) (g' := (mkF m 1 #[rv t, iv (3 : Int32)] [(.int (3 : Int32))])) (fun _ k_ => XS.iloadN X0.here hx rfl (hb hby d16_0) rfl  k_) ?_
  refine own_st (T' := s₁) (g' := (mkF m 2 #[rv t, iv (3 : Int32)] [(.ref t), (.int (3 : Int32))])) (fun _ k_ => XS.aloadN X0.here hx rfl (hb hby d16_1) rfl rfl  k_) ?_
  obtain ⟨cl1, Ar1, -, S1, N1, -, -⟩ := id VT
  refine own_st (T' := s₁) (g' := (mkF m 3 #[rv t, iv (3 : Int32)] [(.int (3 : Int32)), (.int (3 : Int32))])) (fun t_ k_ => X0.arraylength hx (by rw [e0]; exact Ar1.1) (State.isArrayOf_alike hZ.alike Ar1.2.1) (g := (mkF m 2 #[rv t, iv (3 : Int32)] [(.ref t), (.int (3 : Int32))])) rfl rfl (hb hby d16_2) _ (by rw [len_of S1 N1]; exact k_)) ?_
  refine own_st (T' := s₁) (g' := (mkF m 4 #[rv t, iv (3 : Int32)] [(.int (0 : Int32))])) (fun _ k_ => XS.isub X0.here hx rfl (hb hby d16_3) rfl k_) ?_
  refine own_st (T' := s₁) (g' := (mkF m 6 #[rv t, iv (3 : Int32)] [(.int (31 : Int32)), (.int (0 : Int32))])) (fun _ k_ => XS.bipush X0.here hx rfl (hb hby d16_4) k_) ?_
  refine own_st (T' := s₁) (g' := (mkF m 7 #[rv t, iv (3 : Int32)] [(.int (((0 : Int32).toUInt32 >>> ((31 : Int32) &&& 31).toUInt32).toInt32))])) (fun _ k_ => XS.iushr X0.here hx rfl (hb hby d16_6) rfl k_) ?_
  refine own_st (T' := s₁) (g' := (mkF m 8 #[rv t, iv (3 : Int32)] [(.int ((((0 : Int32).toUInt32 >>> ((31 : Int32) &&& 31).toUInt32).toInt32).toInt8.toInt32))])) (fun _ k_ => XS.i2b X0.here hx rfl (hb hby d16_7) rfl k_) ?_
  exact own_retN X0 hx (t := .byte) hret (by simp) hlk (hb hby d16_8) (by decide) (by decide) ⟨(by decide), N0, e0⟩
theorem ef_ini4_3 (m : MethodId) (x0 : Addr) (x1 : Addr) (x2 : Int32) (x3 : Int32) : entryFrame m #[(.ref x0), (.ref x1), (.int x2), (.int x3), .null] 6 = mkF m 0 #[rv x0, rv x1, iv x2, iv x3, .val .null, .unset] [] := by first | (simp [entryFrame, mkF, argsToLocals, Value.category]; done) | rfl
def Q_ini4_3 (Z : State) (a : Addr) (va : Addr) (kc : ClassId) (cz : Int32) (c0 : Int32) (c1 : Int32) (c2 : Int32) (h0 : Heap) (n0 : Nat) (v : Option Value) (h : Heap) (L : List Loc) : Prop := ∃ (t : Addr) (kb : ClassId), (v = none) ∧ (Fr n0 L) ∧ (Keep h0 h [a]) ∧ (Exa Z h a "java/lang/String") ∧ (Fld Z h a "java/lang/String" "coder" "B" (.int (0 : Int32))) ∧ (Fld Z h a "java/lang/String" "value" "[B" (.ref t)) ∧ (Arv Z h t kb .byte (3 : Int32) [(.int (c0.toInt8.toInt32)), (.int (c1.toInt8.toInt32)), (.int (c2.toInt8.toInt32))] (.int (0 : Int32))) ∧ (h0.size ≤ t)
set_option maxRecDepth 65536 in
set_option maxHeartbeats 40000000 in
theorem rm_ini4_3 (l : Launch) (Z : State) (a0 : Array Value) (hw : ∀ d ∈ tables_1, d.before a0 Z = true) (ws : List Jvm.Cond) (a : Addr) (va : Addr) (kc : ClassId) (cz : Int32) (c0 : Int32) (c1 : Int32) (c2 : Int32) (h0 : Heap) (n0 : Nat) (O0 : Old Z n0 h0) (EA : Exa Z h0 a "java/lang/String") (FV : Fld Z h0 a "java/lang/String" "value" "[B" .null) (FC : Fld Z h0 a "java/lang/String" "coder" "B" (.int (0 : Int32))) (fa : n0 ≤ a) (VA : Arv Z h0 va kc .char (3 : Int32) [(.int c0), (.int c1), (.int c2)] (.int (0 : Int32))) (SC : Sta Z Z.heap "java/lang/String" "COMPACT_STRINGS" "Z" (.int cz)) (hcz : ¬ cz = (0 : Int32)) (hp0 : ¬ (255 : Int32) < c0) (hp1 : ¬ (255 : Int32) < c1) (hp2 : ¬ (255 : Int32) < c2) :
    MetFree l own_m17 (head1 (Jvm.Cond.code own_m17 jdk_42_method_149_code 6 none :: ws) ({ frames := 2, cells := 1, slots := 3, locals := 35 } : Room)) (fun ar_ U => ar_ = #[(.ref a), (.ref va), (.int (0 : Int32)), (.int (3 : Int32)), .null] ∧ Z.Warmed39 U.vm ∧ U.heap = h0) (fun _ _ _ _ _ => True) (fun _ U o U' => ∃ v L, o = .returned v ∧ Q_ini4_3 Z a va kc cz c0 c1 c2 h0 n0 v U'.heap L ∧ FrameEnd U o U' L ({ frames := 2, cells := 1, slots := 3, locals := 35 } : Room).cells ({ frames := 2, cells := 1, slots := 3, locals := 35 } : Room).slots) := by
  refine MetFree.of_bodySF (plainFor_of_name pn_0) hisR ?_
  intro p e s m args below meth c s₁ Bd hml0 hP hK
  obtain ⟨rfl, hZ, hh⟩ := hP
  have hx := Bd.exec
  have hby := Bd.bytes
  have hml : c.maxLocals = 6 := hml0
  have hown : s.vm.findClass "java/lang/String" = some m.cls := findClass_of_methodNamed Bd.named
  have hnm := (name_of_methodNamed Bd.named Bd.method).1
  have X0 : Stand p l e ({ frames := 2, cells := 1, slots := 3, locals := 35 } : Room) s m #[(.ref a), (.ref va), (.int (0 : Int32)), (.int (3 : Int32)), .null] below meth c s₁ [] 0 0 := Stand.of_body Bd
  have e0 : s₁.heap = h0 := by rw [← hh, Bd.state]; rfl
  have N0 := Fr.nil n0
  have hret := Bd.returns
  have hlk : meth.locks = false := Bd.notSynchronized
  show own_E p e below s ({ frames := 2, cells := 1, slots := 3, locals := 35 } : Room).cells ({ frames := 2, cells := 1, slots := 3, locals := 35 } : Room).slots (Q_ini4_3 Z a va kc cz c0 c1 c2 h0 n0) s₁ (entryFrame m #[(.ref a), (.ref va), (.int (0 : Int32)), (.int (3 : Int32)), .null] 6)
  rw [ef_ini4_3 m a va (0 : Int32) (3 : Int32)]
  refine own_st (T' := s₁) (g' := (mkF m 1 #[rv a, rv va, iv (0 : Int32), iv (3 : Int32), .val .null, .unset] [(.ref a)])) (fun _ k_ => XS.aloadN X0.here hx rfl (hb hby d4_0) rfl rfl  k_) ?_
  obtain ⟨T1, X1, e1, st1⟩ := initO X0 hx hZ hown (wd hw 19 rfl) (wd hw 20 rfl) (wd hw 21 rfl) e0 (g := (mkF m 1 #[rv a, rv va, iv (0 : Int32), iv (3 : Int32), .val .null, .unset] [(.ref a)])) rfl (by rw [hml]; rfl) rfl (hb hby d4_1) (by decide) (W := 0) (by show 2 * 0 + _ ≤ _; exact Nat.le_of_eq rfl) (by decide)
  refine own_st (T' := T1) (g' := (mkF m 4 #[rv a, rv va, iv (0 : Int32), iv (3 : Int32), .val .null, .unset] [])) st1 ?_
  clear st1
  refine own_st (T' := T1) (g' := (mkF m 5 #[rv a, rv va, iv (0 : Int32), iv (3 : Int32), .val .null, .unset] [(.int (3 : Int32))])) (fun _ k_ => XS.iloadN X1.here hx rfl (hb hby d4_4) rfl  k_) ?_
  refine own_st (T' := T1) (g' := (mkF m 27 #[rv a, rv va, iv (0 : Int32), iv (3 : Int32), .val .null, .unset] [])) (fun _ k_ => XS.ifYes X1.here hx rfl (pc0 := 5) (pc' := 27) rfl (hb hby d4_5) rfl ((if0 _ _).trans (feq (by decide : ¬ ((3 : Int32) = (0 : Int32)))).2) (by decide) (by decide) k_) ?_
  obtain ⟨T2, X2, e2, st2⟩ := getS2 X1 hx hZ hown (host := "") (Or.inl (wd hw 44 rfl)) Via.refl e1 (SC.ext O0.2) (g := (mkF m 27 #[rv a, rv va, iv (0 : Int32), iv (3 : Int32), .val .null, .unset] [])) rfl (hb hby d4_27)
  refine own_st (T' := T2) (g' := (mkF m 30 #[rv a, rv va, iv (0 : Int32), iv (3 : Int32), .val .null, .unset] [(.int cz)])) st2 ?_
  clear st2
  refine own_st (T' := T2) (g' := (mkF m 33 #[rv a, rv va, iv (0 : Int32), iv (3 : Int32), .val .null, .unset] [])) (fun _ k_ => XS.ifNo X2.here hx rfl (hb hby d4_30) rfl ((if0 _ _).trans (feq (hcz : ¬ (cz = (0 : Int32)))).1) k_) ?_
  refine own_st (T' := T2) (g' := (mkF m 34 #[rv a, rv va, iv (0 : Int32), iv (3 : Int32), .val .null, .unset] [(.ref va)])) (fun _ k_ => XS.aloadN X2.here hx rfl (hb hby d4_33) rfl rfl  k_) ?_
  refine own_st (T' := T2) (g' := (mkF m 35 #[rv a, rv va, iv (0 : Int32), iv (3 : Int32), .val .null, .unset] [(.int (0 : Int32)), (.ref va)])) (fun _ k_ => XS.iloadN X2.here hx rfl (hb hby d4_34) rfl  k_) ?_
  refine own_st (T' := T2) (g' := (mkF m 36 #[rv a, rv va, iv (0 : Int32), iv (3 : Int32), .val .null, .unset] [(.int (3 : Int32)), (.int (0 : Int32)), (.ref va)])) (fun _ k_ => XS.iloadN X2.here hx rfl (hb hby d4_35) rfl  k_) ?_
  obtain ⟨_, T3, L3, X3, hQ3, st3⟩ := own_callS X2 hx (y := own_m20) hown (mvT hZ (wd hw 66 rfl)) (mvT hZ (wd hw 67 rfl)) (mvT hZ (wd hw 68 rfl)) (mvT hZ (wd hw 69 rfl)) (by decide) (backOf (W := 0) (rm_cmp3_3 l Z a0 hw [] va kc c0 c1 c2 h0 n0 O0 VA hp0 hp1 hp2) hZ (wd hw 69 rfl) (wd hw 68 rfl) (by decide) (by decide)) (g := (mkF m 36 #[rv a, rv va, iv (0 : Int32), iv (3 : Int32), .val .null, .unset] [(.int (3 : Int32)), (.int (0 : Int32)), (.ref va)])) rfl (by rw [hml]; rfl) (argsL := [(.ref va), (.int (0 : Int32)), (.int (3 : Int32))]) (rest := []) (lenOf pd___CII__B rfl) rfl (by show 2 * 0 + _ ≤ _; exact Nat.le_of_eq rfl) (hb hby d4_36) rfl e2 (by decide) (by decide) (c' := 1) (s' := 3) rfl rfl
  obtain ⟨t3, kb3, rfl, Nq3, K3, fq3_0, xq3_fresh_t⟩ := hQ3
  have N3 := Fr.app N0 Nq3
  refine own_st (T' := T3) (g' := (mkF m 39 #[rv a, rv va, iv (0 : Int32), iv (3 : Int32), .val .null, .unset] [(.ref t3)])) st3 ?_
  clear st3
  refine own_st (T' := T3) (g' := (mkF m 41 #[rv a, rv va, iv (0 : Int32), iv (3 : Int32), .val .null, rv t3] [])) (fun _ k_ => XS.astore X3.here hx rfl (hb hby d4_39) rfl rfl (l' := #[rv a, rv va, iv (0 : Int32), iv (3 : Int32), .val .null, rv t3]) rfl k_) ?_
  refine own_st (T' := T3) (g' := (mkF m 42 #[rv a, rv va, iv (0 : Int32), iv (3 : Int32), .val .null, rv t3] [(.ref a)])) (fun _ k_ => XS.aloadN X3.here hx rfl (hb hby d4_41) rfl rfl  k_) ?_
  refine own_st (T' := T3) (g' := (mkF m 44 #[rv a, rv va, iv (0 : Int32), iv (3 : Int32), .val .null, rv t3] [(.ref t3), (.ref a)])) (fun _ k_ => XS.aload X3.here hx rfl (hb hby d4_42) rfl rfl  k_) ?_
  refine own_st (T' := T3) (g' := (mkF m 45 #[rv a, rv va, iv (0 : Int32), iv (3 : Int32), .val .null, rv t3] [(.int (3 : Int32)), (.ref t3), (.ref a)])) (fun _ k_ => XS.iloadN X3.here hx rfl (hb hby d4_44) rfl  k_) ?_
  have f4 : Old Z n0 T3.heap := O0.keep K3 all0
  obtain ⟨_, T5, L5, X5, hQ5, st5⟩ := own_callS X3 hx (y := own_m21) hown (mvT hZ (wd hw 73 rfl)) (mvT hZ (wd hw 74 rfl)) (mvT hZ (wd hw 68 rfl)) (mvT hZ (wd hw 75 rfl)) (by decide) (backOf (W := 1) (rm_cdr_3 l Z a0 hw [] t3 kb3 [(.int (c0.toInt8.toInt32)), (.int (c1.toInt8.toInt32)), (.int (c2.toInt8.toInt32))] T3.heap n0 f4 fq3_0) hZ (wd hw 75 rfl) (wd hw 68 rfl) (by decide) (by decide)) (g := (mkF m 45 #[rv a, rv va, iv (0 : Int32), iv (3 : Int32), .val .null, rv t3] [(.int (3 : Int32)), (.ref t3), (.ref a)])) rfl (by rw [hml]; rfl) (argsL := [(.ref t3), (.int (3 : Int32))]) (rest := [(.ref a)]) (lenOf pd___BI_B rfl) rfl (by show 2 * 0 + _ ≤ _; exact Nat.le_of_eq rfl) (hb hby d4_45) rfl rfl (by decide) (by decide) (c' := 1) (s' := 3) rfl rfl
  obtain ⟨rfl, Nq5, eq5⟩ := hQ5
  have N5 := Fr.app N3 Nq5
  refine own_st (T' := T5) (g' := (mkF m 48 #[rv a, rv va, iv (0 : Int32), iv (3 : Int32), .val .null, rv t3] [(.int (0 : Int32)), (.ref a)])) st5 ?_
  clear st5
  have f6 : Exa Z T3.heap a "java/lang/String" := EA.keep K3
  have f7 : Fld Z T3.heap a "java/lang/String" "coder" "B" (.int (0 : Int32)) := FC.keep K3 nin0
  obtain ⟨T8, h8, X8, e8, W8, st8⟩ := putFN X5 hx hZ hown (wd hw 29 rfl) Via.refl eq5 f7 f6 (Or.inr ⟨(wd hw 25 rfl), rfl, hnm⟩) (wd hw 10 rfl) (ty := .byte) (v' := (.int (0 : Int32))) (by decide) rfl (by decide) (g := (mkF m 48 #[rv a, rv va, iv (0 : Int32), iv (3 : Int32), .val .null, rv t3] [(.int (0 : Int32)), (.ref a)])) rfl rfl (hb hby d4_48)
  have Fw8 : Fld Z h8 a "java/lang/String" "coder" "B" (.int (0 : Int32)) := Fld.same W8 f7
  have N8 := Fr.snoc X8 N5 fa
  refine own_st (T' := T8) (g' := (mkF m 51 #[rv a, rv va, iv (0 : Int32), iv (3 : Int32), .val .null, rv t3] [])) st8 ?_
  clear st8
  refine own_st (T' := T8) (g' := (mkF m 52 #[rv a, rv va, iv (0 : Int32), iv (3 : Int32), .val .null, rv t3] [(.ref a)])) (fun _ k_ => XS.aloadN X8.here hx rfl (hb hby d4_51) rfl rfl  k_) ?_
  refine own_st (T' := T8) (g' := (mkF m 54 #[rv a, rv va, iv (0 : Int32), iv (3 : Int32), .val .null, rv t3] [(.ref t3), (.ref a)])) (fun _ k_ => XS.aload X8.here hx rfl (hb hby d4_52) rfl rfl  k_) ?_
  have f9 : Exa Z h8 a "java/lang/String" := f6.wr W8
  have f10 : Fld Z T3.heap a "java/lang/String" "value" "[B" .null := FV.keep K3 nin0
  have f11 : Fld Z h8 a "java/lang/String" "value" "[B" .null := f10.other W8 (Or.inr (slot_ne (Or.inr (wd hw 24 rfl)) (Or.inr (wd hw 25 rfl)) (by decide) (t := (.array .byte)) (t' := .byte) (by decide) (by decide)))
  obtain ⟨T12, h12, X12, e12, W12, st12⟩ := putF X8 hx hZ hown (host := "") (Or.inl (wd hw 28 rfl)) Via.refl e8 f11 f9 (Or.inr ⟨(wd hw 24 rfl), rfl, hnm⟩) (wd hw 10 rfl) (ty := (.array .byte)) (by decide) rfl rfl (g := (mkF m 54 #[rv a, rv va, iv (0 : Int32), iv (3 : Int32), .val .null, rv t3] [(.ref t3), (.ref a)])) rfl rfl (hb hby d4_54)
  have Fw12 : Fld Z h12 a "java/lang/String" "value" "[B" (.ref t3) := Fld.same W12 f11
  have N12 := Fr.snoc X12 N8 fa
  refine own_st (T' := T12) (g' := (mkF m 57 #[rv a, rv va, iv (0 : Int32), iv (3 : Int32), .val .null, rv t3] [])) st12 ?_
  clear st12
  have f13 : Keep h0 T3.heap [a] := (Keep.refl h0 [a]).trans K3 all0
  have f14 : Keep h0 h8 [a] := f13.wr W8 (Or.inl (List.mem_of_getElem? (i := 0) rfl))
  have f15 : Keep h0 h12 [a] := f14.wr W12 (Or.inl (List.mem_of_getElem? (i := 0) rfl))
  have f16 : Exa Z h12 a "java/lang/String" := f9.wr W12
  have f17 : Fld Z h12 a "java/lang/String" "coder" "B" (.int (0 : Int32)) := Fw8.other W12 (Or.inr (slot_ne (Or.inr (wd hw 25 rfl)) (Or.inr (wd hw 24 rfl)) (by decide) (t := .byte) (t' := (.array .byte)) (by decide) (by decide)))
  have ne18 : a ≠ t3 := Nat.ne_of_lt (Nat.lt_of_lt_of_le EA.lt xq3_fresh_t)
  have f19 : Arv Z h8 t3 kb3 .byte (3 : Int32) [(.int (c0.toInt8.toInt32)), (.int (c1.toInt8.toInt32)), (.int (c2.toInt8.toInt32))] (.int (0 : Int32)) := fq3_0.other W8 (Ne.symm ne18)
  have f20 : Arv Z h12 t3 kb3 .byte (3 : Int32) [(.int (c0.toInt8.toInt32)), (.int (c1.toInt8.toInt32)), (.int (c2.toInt8.toInt32))] (.int (0 : Int32)) := f19.other W12 (Ne.symm ne18)
  exact own_retV X12 hx hret hlk (hb hby d4_57) (by decide) (by decide) (by rw [e12]; exact ⟨t3, kb3, rfl, N12, f15, f16, f17, Fw12, f20, (Nat.le_trans (Keep.refl h0 [a]).1 xq3_fresh_t)⟩)
theorem ef_ini1_3 (m : MethodId) (x0 : Addr) (x1 : Addr) : entryFrame m #[(.ref x0), (.ref x1)] 2 = mkF m 0 #[rv x0, rv x1] [] := by first | (simp [entryFrame, mkF, argsToLocals, Value.category]; done) | rfl
def Q_ini1_3 (Z : State) (a : Addr) (va : Addr) (kc : ClassId) (cz : Int32) (c0 : Int32) (c1 : Int32) (c2 : Int32) (h0 : Heap) (n0 : Nat) (v : Option Value) (h : Heap) (L : List Loc) : Prop := ∃ (t : Addr) (kb : ClassId), (v = none) ∧ (Fr n0 L) ∧ (Keep h0 h [a]) ∧ (Exa Z h a "java/lang/String") ∧ (Fld Z h a "java/lang/String" "coder" "B" (.int (0 : Int32))) ∧ (Fld Z h a "java/lang/String" "value" "[B" (.ref t)) ∧ (Arv Z h t kb .byte (3 : Int32) [(.int (c0.toInt8.toInt32)), (.int (c1.toInt8.toInt32)), (.int (c2.toInt8.toInt32))] (.int (0 : Int32))) ∧ (h0.size ≤ t)
set_option maxRecDepth 65536 in
set_option maxHeartbeats 40000000 in
theorem rm_ini1_3 (l : Launch) (Z : State) (a0 : Array Value) (hw : ∀ d ∈ tables_1, d.before a0 Z = true) (ws : List Jvm.Cond) (a : Addr) (va : Addr) (kc : ClassId) (cz : Int32) (c0 : Int32) (c1 : Int32) (c2 : Int32) (h0 : Heap) (n0 : Nat) (O0 : Old Z n0 h0) (EA : Exa Z h0 a "java/lang/String") (FV : Fld Z h0 a "java/lang/String" "value" "[B" .null) (FC : Fld Z h0 a "java/lang/String" "coder" "B" (.int (0 : Int32))) (fa : n0 ≤ a) (VA : Arv Z h0 va kc .char (3 : Int32) [(.int c0), (.int c1), (.int c2)] (.int (0 : Int32))) (SC : Sta Z Z.heap "java/lang/String" "COMPACT_STRINGS" "Z" (.int cz)) (hcz : ¬ cz = (0 : Int32)) (hp0 : ¬ (255 : Int32) < c0) (hp1 : ¬ (255 : Int32) < c1) (hp2 : ¬ (255 : Int32) < c2) :
    MetFree l own_m18 (head1 (Jvm.Cond.code own_m18 jdk_42_method_3_code 2 none :: ws) ({ frames := 3, cells := 4, slots := 8, locals := 52 } : Room)) (fun ar_ U => ar_ = #[(.ref a), (.ref va)] ∧ Z.Warmed39 U.vm ∧ U.heap = h0) (fun _ _ _ _ _ => True) (fun _ U o U' => ∃ v L, o = .returned v ∧ Q_ini1_3 Z a va kc cz c0 c1 c2 h0 n0 v U'.heap L ∧ FrameEnd U o U' L ({ frames := 3, cells := 4, slots := 8, locals := 52 } : Room).cells ({ frames := 3, cells := 4, slots := 8, locals := 52 } : Room).slots) := by
  refine MetFree.of_bodySF (plainFor_of_name pn_0) hisR ?_
  intro p e s m args below meth c s₁ Bd hml0 hP hK
  obtain ⟨rfl, hZ, hh⟩ := hP
  have hx := Bd.exec
  have hby := Bd.bytes
  have hml : c.maxLocals = 2 := hml0
  have hown : s.vm.findClass "java/lang/String" = some m.cls := findClass_of_methodNamed Bd.named
  have hnm := (name_of_methodNamed Bd.named Bd.method).1
  have X0 : Stand p l e ({ frames := 3, cells := 4, slots := 8, locals := 52 } : Room) s m #[(.ref a), (.ref va)] below meth c s₁ [] 0 0 := Stand.of_body Bd
  have e0 : s₁.heap = h0 := by rw [← hh, Bd.state]; rfl
  have N0 := Fr.nil n0
  have hret := Bd.returns
  have hlk : meth.locks = false := Bd.notSynchronized
  show own_E p e below s ({ frames := 3, cells := 4, slots := 8, locals := 52 } : Room).cells ({ frames := 3, cells := 4, slots := 8, locals := 52 } : Room).slots (Q_ini1_3 Z a va kc cz c0 c1 c2 h0 n0) s₁ (entryFrame m #[(.ref a), (.ref va)] 2)
  rw [ef_ini1_3 m a va]
  refine own_st (T' := s₁) (g' := (mkF m 1 #[rv a, rv va] [(.ref a)])) (fun _ k_ => XS.aloadN X0.here hx rfl (hb hby d3_0) rfl rfl  k_) ?_
  refine own_st (T' := s₁) (g' := (mkF m 2 #[rv a, rv va] [(.ref va), (.ref a)])) (fun _ k_ => XS.aloadN X0.here hx rfl (hb hby d3_1) rfl rfl  k_) ?_
  refine own_st (T' := s₁) (g' := (mkF m 3 #[rv a, rv va] [(.int (0 : Int32)), (.ref va), (.ref a)])) (fun _ k_ => XS.iconst X0.here hx rfl (hb hby d3_2) k_) ?_
  refine own_st (T' := s₁) (g' := (mkF m 4 #[rv a, rv va] [(.ref va), (.int (0 : Int32)), (.ref va), (.ref a)])) (fun _ k_ => XS.aloadN X0.here hx rfl (hb hby d3_3) rfl rfl  k_) ?_
  obtain ⟨cl1, Ar1, -, S1, N1, -, -⟩ := id VA
  refine own_st (T' := s₁) (g' := (mkF m 5 #[rv a, rv va] [(.int (3 : Int32)), (.int (0 : Int32)), (.ref va), (.ref a)])) (fun t_ k_ => X0.arraylength hx (by rw [e0]; exact Ar1.1) (State.isArrayOf_alike hZ.alike Ar1.2.1) (g := (mkF m 4 #[rv a, rv va] [(.ref va), (.int (0 : Int32)), (.ref va), (.ref a)])) rfl rfl (hb hby d3_4) _ (by rw [len_of S1 N1]; exact k_)) ?_
  refine own_st (T' := s₁) (g' := (mkF m 6 #[rv a, rv va] [.null, (.int (3 : Int32)), (.int (0 : Int32)), (.ref va), (.ref a)])) (fun _ k_ => XS.aconstNull X0.here hx rfl (hb hby d3_5) k_) ?_
  obtain ⟨_, T2, L2, X2, hQ2, st2⟩ := own_callI X0 hx (y := own_m17) rfl hown (mvT hZ (wd hw 15 rfl)) (mvT hZ (wd hw 16 rfl)) (mvT hZ (wd hw 18 rfl)) (by decide) (backOf (W := 0) (rm_ini4_3 l Z a0 hw [] a va kc cz c0 c1 c2 h0 n0 O0 EA FV FC fa VA SC hcz hp0 hp1 hp2) hZ (wd hw 18 rfl) (wd hw 11 rfl) (by decide) (by decide)) (g := (mkF m 6 #[rv a, rv va] [.null, (.int (3 : Int32)), (.int (0 : Int32)), (.ref va), (.ref a)])) rfl (by rw [hml]; rfl) (a := a) (argsL := [(.ref va), (.int (0 : Int32)), (.int (3 : Int32)), .null]) (rest := []) (lenOf pd___CIILjava_lang_Void__V rfl) rfl (by show 2 * 0 + _ ≤ _; exact Nat.le_of_eq rfl) (hb hby d3_6) rfl e0 (by decide) (by decide) (c' := 1) (s' := 3) rfl rfl
  obtain ⟨t2, kb2, rfl, Nq2, K2, fq2_0, fq2_1, fq2_2, fq2_3, xq2_fresh_t⟩ := hQ2
  have N2 := Fr.app N0 Nq2
  refine own_st (T' := T2) (g' := (mkF m 9 #[rv a, rv va] [])) st2 ?_
  clear st2
  have f3 : Keep h0 T2.heap [a] := (Keep.refl h0 [a]).trans K2 (allS (Or.inl (List.mem_of_getElem? (i := 0) rfl)) all0)
  exact own_retV X2 hx hret hlk (hb hby d3_9) (by decide) (by decide) ⟨t2, kb2, rfl, N2, f3, fq2_0, fq2_1, fq2_2, fq2_3, (Nat.le_trans (Keep.refl h0 [a]).1 xq2_fresh_t)⟩
theorem ef_cmp5_4 (m : MethodId) (x0 : Addr) (x1 : Int32) (x2 : Addr) (x3 : Int32) (x4 : Int32) : entryFrame m #[(.ref x0), (.int x1), (.ref x2), (.int x3), (.int x4)] 7 = mkF m 0 #[rv x0, iv x1, rv x2, iv x3, iv x4, .unset, .unset] [] := by first | (simp [entryFrame, mkF, argsToLocals, Value.category]; done) | rfl
def Q_cmp5_4 (Z : State) (va : Addr) (da : Addr) (kc : ClassId) (kd : ClassId) (c0 : Int32) (c1 : Int32) (c2 : Int32) (c3 : Int32) (h0 : Heap) (n0 : Nat) (v : Option Value) (h : Heap) (L : List Loc) : Prop := (v = some (.int (4 : Int32))) ∧ (Fr n0 L) ∧ (Keep h0 h [da]) ∧ (Arv Z h da kd .byte (4 : Int32) [(.int (c0.toInt8.toInt32)), (.int (c1.toInt8.toInt32)), (.int (c2.toInt8.toInt32)), (.int (c3.toInt8.toInt32))] (.int (0 : Int32)))
set_option maxRecDepth 65536 in
set_option maxHeartbeats 40000000 in
theorem rm_cmp5_4 (l : Launch) (Z : State) (a0 : Array Value) (hw : ∀ d ∈ tables_1, d.before a0 Z = true) (ws : List Jvm.Cond) (va : Addr) (da : Addr) (kc : ClassId) (kd : ClassId) (c0 : Int32) (c1 : Int32) (c2 : Int32) (c3 : Int32) (h0 : Heap) (n0 : Nat) (O0 : Old Z n0 h0) (VA : Arv Z h0 va kc .char (4 : Int32) [(.int c0), (.int c1), (.int c2), (.int c3)] (.int (0 : Int32))) (VD : Arv Z h0 da kd .byte (4 : Int32) [(.int (0 : Int32)), (.int (0 : Int32)), (.int (0 : Int32)), (.int (0 : Int32))] (.int (0 : Int32))) (nad : va ≠ da) (fda : n0 ≤ da) (hp0 : ¬ (255 : Int32) < c0) (hp1 : ¬ (255 : Int32) < c1) (hp2 : ¬ (255 : Int32) < c2) (hp3 : ¬ (255 : Int32) < c3) :
    MetFree l own_m19 (head1 (Jvm.Cond.code own_m19 jdk_52_method_21_code 7 (some .int) :: ws) ({ frames := 0, cells := 0, slots := 0, locals := 0 } : Room)) (fun ar_ U => ar_ = #[(.ref va), (.int (0 : Int32)), (.ref da), (.int (0 : Int32)), (.int (4 : Int32))] ∧ Z.Warmed39 U.vm ∧ U.heap = h0) (fun _ _ _ _ _ => True) (fun _ U o U' => ∃ v L, o = .returned v ∧ Q_cmp5_4 Z va da kc kd c0 c1 c2 c3 h0 n0 v U'.heap L ∧ FrameEnd U o U' L ({ frames := 0, cells := 0, slots := 0, locals := 0 } : Room).cells ({ frames := 0, cells := 0, slots := 0, locals := 0 } : Room).slots) := by
  refine MetFree.of_bodySF (plainFor_of_name pn_5) hisR ?_
  intro p e s m args below meth c s₁ Bd hml0 hP hK
  obtain ⟨rfl, hZ, hh⟩ := hP
  have hx := Bd.exec
  have hby := Bd.bytes
  have hml : c.maxLocals = 7 := hml0
  have hown : s.vm.findClass "java/lang/StringUTF16" = some m.cls := findClass_of_methodNamed Bd.named
  have hnm := (name_of_methodNamed Bd.named Bd.method).1
  have X0 : Stand p l e ({ frames := 0, cells := 0, slots := 0, locals := 0 } : Room) s m #[(.ref va), (.int (0 : Int32)), (.ref da), (.int (0 : Int32)), (.int (4 : Int32))] below meth c s₁ [] 0 0 := Stand.of_body Bd
  have e0 : s₁.heap = h0 := by rw [← hh, Bd.state]; rfl
  have N0 := Fr.nil n0
  have hret := Bd.returns
  have hlk : meth.locks = false := Bd.notSynchronized
  show own_E p e below s ({ frames := 0, cells := 0, slots := 0, locals := 0 } : Room).cells ({ frames := 0, cells := 0, slots := 0, locals := 0 } : Room).slots (Q_cmp5_4 Z va da kc kd c0 c1 c2 c3 h0 n0) s₁ (entryFrame m #[(.ref va), (.int (0 : Int32)), (.ref da), (.int (0 : Int32)), (.int (4 : Int32))] 7)
  rw [ef_cmp5_4 m va (0 : Int32) da (0 : Int32) (4 : Int32)]
  refine own_st (T' := s₁) (g' := (mkF m 1 #[rv va, iv (0 : Int32), rv da, iv (0 : Int32), iv (4 : Int32), .unset, .unset] [(.int (0 : Int32))])) (fun _ k_ => XS.iconst X0.here hx rfl (hb hby d15_0) k_) ?_
  refine own_st (T' := s₁) (g' := (mkF m 3 #[rv va, iv (0 : Int32), rv da, iv (0 : Int32), iv (4 : Int32), iv (0 : Int32), .unset] [])) (fun _ k_ => XS.istore X0.here hx rfl (hb hby d15_1) rfl (l' := #[rv va, iv (0 : Int32), rv da, iv (0 : Int32), iv (4 : Int32), iv (0 : Int32), .unset]) rfl k_) ?_
  refine own_st (T' := s₁) (g' := (mkF m 5 #[rv va, iv (0 : Int32), rv da, iv (0 : Int32), iv (4 : Int32), iv (0 : Int32), .unset] [(.int (0 : Int32))])) (fun _ k_ => XS.iload X0.here hx rfl (hb hby d15_3) rfl  k_) ?_
  refine own_st (T' := s₁) (g' := (mkF m 7 #[rv va, iv (0 : Int32), rv da, iv (0 : Int32), iv (4 : Int32), iv (0 : Int32), .unset] [(.int (4 : Int32)), (.int (0 : Int32))])) (fun _ k_ => XS.iload X0.here hx rfl (hb hby d15_5) rfl  k_) ?_
  refine own_st (T' := s₁) (g' := (mkF m 10 #[rv va, iv (0 : Int32), rv da, iv (0 : Int32), iv (4 : Int32), iv (0 : Int32), .unset] [])) (fun _ k_ => XS.icmpNo X0.here hx rfl (hb hby d15_7) rfl (tlt (by decide : (0 : Int32) < (4 : Int32))).2.1 k_) ?_
  refine own_st (T' := s₁) (g' := (mkF m 11 #[rv va, iv (0 : Int32), rv da, iv (0 : Int32), iv (4 : Int32), iv (0 : Int32), .unset] [(.ref va)])) (fun _ k_ => XS.aloadN X0.here hx rfl (hb hby d15_10) rfl rfl  k_) ?_
  refine own_st (T' := s₁) (g' := (mkF m 12 #[rv va, iv (0 : Int32), rv da, iv (0 : Int32), iv (4 : Int32), iv (0 : Int32), .unset] [(.int (0 : Int32)), (.ref va)])) (fun _ k_ => XS.iloadN X0.here hx rfl (hb hby d15_11) rfl  k_) ?_
  obtain ⟨cl1, Ar1, q1, S1, N1, H1, G1⟩ := id VA
  have hin1 : ¬ ((0 : Int32) < 0 ∨ cl1.slots.size ≤ ((0 : Int32)).toNatClampNeg) := inb_of S1 ⟨by decide, by decide⟩
  refine own_st (T' := s₁) (g' := (mkF m 13 #[rv va, iv (0 : Int32), rv da, iv (0 : Int32), iv (4 : Int32), iv (0 : Int32), .unset] [(.int c0)])) (X0.caload hx (j := (0 : Int32)) (v := (.int c0)) (by rw [e0]; exact Ar1.1) (State.isArrayOf_alike hZ.alike Ar1.2.1) Ar1.2.2 hin1 (H1.at hin1 rfl) (g := (mkF m 12 #[rv va, iv (0 : Int32), rv da, iv (0 : Int32), iv (4 : Int32), iv (0 : Int32), .unset] [(.int (0 : Int32)), (.ref va)])) rfl rfl (hb hby d15_12)) ?_
  clear hin1 G1 H1 N1 S1 q1 Ar1 cl1
  refine own_st (T' := s₁) (g' := (mkF m 15 #[rv va, iv (0 : Int32), rv da, iv (0 : Int32), iv (4 : Int32), iv (0 : Int32), iv c0] [])) (fun _ k_ => XS.istore X0.here hx rfl (hb hby d15_13) rfl (l' := #[rv va, iv (0 : Int32), rv da, iv (0 : Int32), iv (4 : Int32), iv (0 : Int32), iv c0]) rfl k_) ?_
  refine own_st (T' := s₁) (g' := (mkF m 17 #[rv va, iv (0 : Int32), rv da, iv (0 : Int32), iv (4 : Int32), iv (0 : Int32), iv c0] [(.int c0)])) (fun _ k_ => XS.iload X0.here hx rfl (hb hby d15_15) rfl  k_) ?_
  refine own_st (T' := s₁) (g' := (mkF m 20 #[rv va, iv (0 : Int32), rv da, iv (0 : Int32), iv (4 : Int32), iv (0 : Int32), iv c0] [(.int (255 : Int32)), (.int c0)])) (fun _ k_ => XS.sipush X0.here hx rfl (hb hby d15_17) k_) ?_
  refine own_st (T' := s₁) (g' := (mkF m 26 #[rv va, iv (0 : Int32), rv da, iv (0 : Int32), iv (4 : Int32), iv (0 : Int32), iv c0] [])) (fun _ k_ => XS.icmpYes X0.here hx rfl (pc0 := 20) (pc' := 26) rfl (hb hby d15_20) rfl (flt (hp0 : ¬ ((255 : Int32) < c0))).2.2.2 (by decide) (by decide) k_) ?_
  refine own_st (T' := s₁) (g' := (mkF m 27 #[rv va, iv (0 : Int32), rv da, iv (0 : Int32), iv (4 : Int32), iv (0 : Int32), iv c0] [(.ref da)])) (fun _ k_ => XS.aloadN X0.here hx rfl (hb hby d15_26) rfl rfl  k_) ?_
  refine own_st (T' := s₁) (g' := (mkF m 28 #[rv va, iv (0 : Int32), rv da, iv (0 : Int32), iv (4 : Int32), iv (0 : Int32), iv c0] [(.int (0 : Int32)), (.ref da)])) (fun _ k_ => XS.iloadN X0.here hx rfl (hb hby d15_27) rfl  k_) ?_
  refine own_st (T' := s₁) (g' := (mkF m 30 #[rv va, iv (0 : Int32), rv da, iv (0 : Int32), iv (4 : Int32), iv (0 : Int32), iv c0] [(.int c0), (.int (0 : Int32)), (.ref da)])) (fun _ k_ => XS.iload X0.here hx rfl (hb hby d15_28) rfl  k_) ?_
  refine own_st (T' := s₁) (g' := (mkF m 31 #[rv va, iv (0 : Int32), rv da, iv (0 : Int32), iv (4 : Int32), iv (0 : Int32), iv c0] [(.int (c0.toInt8.toInt32)), (.int (0 : Int32)), (.ref da)])) (fun _ k_ => XS.i2b X0.here hx rfl (hb hby d15_30) rfl k_) ?_
  obtain ⟨cl2, Ar2, q2, S2, N2, H2, G2⟩ := id VD
  have hin2 : ¬ ((0 : Int32) < 0 ∨ cl2.slots.size ≤ ((0 : Int32)).toNatClampNeg) := inb_of S2 ⟨by decide, by decide⟩
  obtain ⟨T3, h3, X3, e3, W3, st3⟩ := stB X0 hx hZ e0 Ar2 (j := (0 : Int32)) hin2 (g := (mkF m 31 #[rv va, iv (0 : Int32), rv da, iv (0 : Int32), iv (4 : Int32), iv (0 : Int32), iv c0] [(.int (c0.toInt8.toInt32)), (.int (0 : Int32)), (.ref da)])) rfl rfl (hb hby d15_31)
  have V3 : Arv Z h3 da kd .byte (4 : Int32) [(.int (nar .byte (c0.toInt8.toInt32))), (.int (0 : Int32)), (.int (0 : Int32)), (.int (0 : Int32))] (.int (0 : Int32)) := Arv.set Ar2 q2 S2 N2 H2 G2 (fits_nar_byte _) W3 0 rfl (Nat.le_of_ble_eq_true rfl)
  have Vn3 : Arv Z h3 da kd .byte (4 : Int32) [(.int (c0.toInt8.toInt32)), (.int (0 : Int32)), (.int (0 : Int32)), (.int (0 : Int32))] (.int (0 : Int32)) := by simpa only [own_bb] using V3
  have Nx3 := Fr.snoc X3 N0 fda
  refine own_st (T' := T3) (g' := (mkF m 32 #[rv va, iv (0 : Int32), rv da, iv (0 : Int32), iv (4 : Int32), iv (0 : Int32), iv c0] [])) st3 ?_
  clear hin2 G2 H2 N2 S2 q2 Ar2 cl2 st3
  refine own_st (T' := T3) (g' := (mkF m 35 #[rv va, iv (1 : Int32), rv da, iv (0 : Int32), iv (4 : Int32), iv (0 : Int32), iv c0] [])) (fun _ k_ => XS.iinc X3.here hx rfl (hb hby d15_32) rfl (l' := #[rv va, iv (1 : Int32), rv da, iv (0 : Int32), iv (4 : Int32), iv (0 : Int32), iv c0]) rfl k_) ?_
  refine own_st (T' := T3) (g' := (mkF m 38 #[rv va, iv (1 : Int32), rv da, iv (1 : Int32), iv (4 : Int32), iv (0 : Int32), iv c0] [])) (fun _ k_ => XS.iinc X3.here hx rfl (hb hby d15_35) rfl (l' := #[rv va, iv (1 : Int32), rv da, iv (1 : Int32), iv (4 : Int32), iv (0 : Int32), iv c0]) rfl k_) ?_
  refine own_st (T' := T3) (g' := (mkF m 41 #[rv va, iv (1 : Int32), rv da, iv (1 : Int32), iv (4 : Int32), iv (1 : Int32), iv c0] [])) (fun _ k_ => XS.iinc X3.here hx rfl (hb hby d15_38) rfl (l' := #[rv va, iv (1 : Int32), rv da, iv (1 : Int32), iv (4 : Int32), iv (1 : Int32), iv c0]) rfl k_) ?_
  refine own_st (T' := T3) (g' := (mkF m 3 #[rv va, iv (1 : Int32), rv da, iv (1 : Int32), iv (4 : Int32), iv (1 : Int32), iv c0] [])) (fun _ k_ => XS.goto X3.here hx rfl (pc0 := 41) (pc' := 3) rfl (hb hby d15_41) (by decide) (by decide) k_) ?_
  refine own_st (T' := T3) (g' := (mkF m 5 #[rv va, iv (1 : Int32), rv da, iv (1 : Int32), iv (4 : Int32), iv (1 : Int32), iv c0] [(.int (1 : Int32))])) (fun _ k_ => XS.iload X3.here hx rfl (hb hby d15_3) rfl  k_) ?_
  refine own_st (T' := T3) (g' := (mkF m 7 #[rv va, iv (1 : Int32), rv da, iv (1 : Int32), iv (4 : Int32), iv (1 : Int32), iv c0] [(.int (4 : Int32)), (.int (1 : Int32))])) (fun _ k_ => XS.iload X3.here hx rfl (hb hby d15_5) rfl  k_) ?_
  refine own_st (T' := T3) (g' := (mkF m 10 #[rv va, iv (1 : Int32), rv da, iv (1 : Int32), iv (4 : Int32), iv (1 : Int32), iv c0] [])) (fun _ k_ => XS.icmpNo X3.here hx rfl (hb hby d15_7) rfl (tlt (by decide : (1 : Int32) < (4 : Int32))).2.1 k_) ?_
  refine own_st (T' := T3) (g' := (mkF m 11 #[rv va, iv (1 : Int32), rv da, iv (1 : Int32), iv (4 : Int32), iv (1 : Int32), iv c0] [(.ref va)])) (fun _ k_ => XS.aloadN X3.here hx rfl (hb hby d15_10) rfl rfl  k_) ?_
  refine own_st (T' := T3) (g' := (mkF m 12 #[rv va, iv (1 : Int32), rv da, iv (1 : Int32), iv (4 : Int32), iv (1 : Int32), iv c0] [(.int (1 : Int32)), (.ref va)])) (fun _ k_ => XS.iloadN X3.here hx rfl (hb hby d15_11) rfl  k_) ?_
  have f4 : Arv Z h3 va kc .char (4 : Int32) [(.int c0), (.int c1), (.int c2), (.int c3)] (.int (0 : Int32)) := VA.other W3 nad
  obtain ⟨cl5, Ar5, q5, S5, N5, H5, G5⟩ := id f4
  have hin5 : ¬ ((1 : Int32) < 0 ∨ cl5.slots.size ≤ ((1 : Int32)).toNatClampNeg) := inb_of S5 ⟨by decide, by decide⟩
  refine own_st (T' := T3) (g' := (mkF m 13 #[rv va, iv (1 : Int32), rv da, iv (1 : Int32), iv (4 : Int32), iv (1 : Int32), iv c0] [(.int c1)])) (X3.caload hx (j := (1 : Int32)) (v := (.int c1)) (by rw [e3]; exact Ar5.1) (State.isArrayOf_alike hZ.alike Ar5.2.1) Ar5.2.2 hin5 (H5.at hin5 rfl) (g := (mkF m 12 #[rv va, iv (1 : Int32), rv da, iv (1 : Int32), iv (4 : Int32), iv (1 : Int32), iv c0] [(.int (1 : Int32)), (.ref va)])) rfl rfl (hb hby d15_12)) ?_
  clear hin5 G5 H5 N5 S5 q5 Ar5 cl5
  refine own_st (T' := T3) (g' := (mkF m 15 #[rv va, iv (1 : Int32), rv da, iv (1 : Int32), iv (4 : Int32), iv (1 : Int32), iv c1] [])) (fun _ k_ => XS.istore X3.here hx rfl (hb hby d15_13) rfl (l' := #[rv va, iv (1 : Int32), rv da, iv (1 : Int32), iv (4 : Int32), iv (1 : Int32), iv c1]) rfl k_) ?_
  refine own_st (T' := T3) (g' := (mkF m 17 #[rv va, iv (1 : Int32), rv da, iv (1 : Int32), iv (4 : Int32), iv (1 : Int32), iv c1] [(.int c1)])) (fun _ k_ => XS.iload X3.here hx rfl (hb hby d15_15) rfl  k_) ?_
  refine own_st (T' := T3) (g' := (mkF m 20 #[rv va, iv (1 : Int32), rv da, iv (1 : Int32), iv (4 : Int32), iv (1 : Int32), iv c1] [(.int (255 : Int32)), (.int c1)])) (fun _ k_ => XS.sipush X3.here hx rfl (hb hby d15_17) k_) ?_
  refine own_st (T' := T3) (g' := (mkF m 26 #[rv va, iv (1 : Int32), rv da, iv (1 : Int32), iv (4 : Int32), iv (1 : Int32), iv c1] [])) (fun _ k_ => XS.icmpYes X3.here hx rfl (pc0 := 20) (pc' := 26) rfl (hb hby d15_20) rfl (flt (hp1 : ¬ ((255 : Int32) < c1))).2.2.2 (by decide) (by decide) k_) ?_
  refine own_st (T' := T3) (g' := (mkF m 27 #[rv va, iv (1 : Int32), rv da, iv (1 : Int32), iv (4 : Int32), iv (1 : Int32), iv c1] [(.ref da)])) (fun _ k_ => XS.aloadN X3.here hx rfl (hb hby d15_26) rfl rfl  k_) ?_
  refine own_st (T' := T3) (g' := (mkF m 28 #[rv va, iv (1 : Int32), rv da, iv (1 : Int32), iv (4 : Int32), iv (1 : Int32), iv c1] [(.int (1 : Int32)), (.ref da)])) (fun _ k_ => XS.iloadN X3.here hx rfl (hb hby d15_27) rfl  k_) ?_
  refine own_st (T' := T3) (g' := (mkF m 30 #[rv va, iv (1 : Int32), rv da, iv (1 : Int32), iv (4 : Int32), iv (1 : Int32), iv c1] [(.int c1), (.int (1 : Int32)), (.ref da)])) (fun _ k_ => XS.iload X3.here hx rfl (hb hby d15_28) rfl  k_) ?_
  refine own_st (T' := T3) (g' := (mkF m 31 #[rv va, iv (1 : Int32), rv da, iv (1 : Int32), iv (4 : Int32), iv (1 : Int32), iv c1] [(.int (c1.toInt8.toInt32)), (.int (1 : Int32)), (.ref da)])) (fun _ k_ => XS.i2b X3.here hx rfl (hb hby d15_30) rfl k_) ?_
  obtain ⟨cl6, Ar6, q6, S6, N6, H6, G6⟩ := id Vn3
  have hin6 : ¬ ((1 : Int32) < 0 ∨ cl6.slots.size ≤ ((1 : Int32)).toNatClampNeg) := inb_of S6 ⟨by decide, by decide⟩
  obtain ⟨T7, h7, X7, e7, W7, st7⟩ := stB X3 hx hZ e3 Ar6 (j := (1 : Int32)) hin6 (g := (mkF m 31 #[rv va, iv (1 : Int32), rv da, iv (1 : Int32), iv (4 : Int32), iv (1 : Int32), iv c1] [(.int (c1.toInt8.toInt32)), (.int (1 : Int32)), (.ref da)])) rfl rfl (hb hby d15_31)
  have V7 : Arv Z h7 da kd .byte (4 : Int32) [(.int (c0.toInt8.toInt32)), (.int (nar .byte (c1.toInt8.toInt32))), (.int (0 : Int32)), (.int (0 : Int32))] (.int (0 : Int32)) := Arv.set Ar6 q6 S6 N6 H6 G6 (fits_nar_byte _) W7 1 rfl (Nat.le_of_ble_eq_true rfl)
  have Vn7 : Arv Z h7 da kd .byte (4 : Int32) [(.int (c0.toInt8.toInt32)), (.int (c1.toInt8.toInt32)), (.int (0 : Int32)), (.int (0 : Int32))] (.int (0 : Int32)) := by simpa only [own_bb] using V7
  have Nx7 := Fr.snoc X7 Nx3 fda
  refine own_st (T' := T7) (g' := (mkF m 32 #[rv va, iv (1 : Int32), rv da, iv (1 : Int32), iv (4 : Int32), iv (1 : Int32), iv c1] [])) st7 ?_
  clear hin6 G6 H6 N6 S6 q6 Ar6 cl6 st7
  refine own_st (T' := T7) (g' := (mkF m 35 #[rv va, iv (2 : Int32), rv da, iv (1 : Int32), iv (4 : Int32), iv (1 : Int32), iv c1] [])) (fun _ k_ => XS.iinc X7.here hx rfl (hb hby d15_32) rfl (l' := #[rv va, iv (2 : Int32), rv da, iv (1 : Int32), iv (4 : Int32), iv (1 : Int32), iv c1]) rfl k_) ?_
  refine own_st (T' := T7) (g' := (mkF m 38 #[rv va, iv (2 : Int32), rv da, iv (2 : Int32), iv (4 : Int32), iv (1 : Int32), iv c1] [])) (fun _ k_ => XS.iinc X7.here hx rfl (hb hby d15_35) rfl (l' := #[rv va, iv (2 : Int32), rv da, iv (2 : Int32), iv (4 : Int32), iv (1 : Int32), iv c1]) rfl k_) ?_
  refine own_st (T' := T7) (g' := (mkF m 41 #[rv va, iv (2 : Int32), rv da, iv (2 : Int32), iv (4 : Int32), iv (2 : Int32), iv c1] [])) (fun _ k_ => XS.iinc X7.here hx rfl (hb hby d15_38) rfl (l' := #[rv va, iv (2 : Int32), rv da, iv (2 : Int32), iv (4 : Int32), iv (2 : Int32), iv c1]) rfl k_) ?_
  refine own_st (T' := T7) (g' := (mkF m 3 #[rv va, iv (2 : Int32), rv da, iv (2 : Int32), iv (4 : Int32), iv (2 : Int32), iv c1] [])) (fun _ k_ => XS.goto X7.here hx rfl (pc0 := 41) (pc' := 3) rfl (hb hby d15_41) (by decide) (by decide) k_) ?_
  refine own_st (T' := T7) (g' := (mkF m 5 #[rv va, iv (2 : Int32), rv da, iv (2 : Int32), iv (4 : Int32), iv (2 : Int32), iv c1] [(.int (2 : Int32))])) (fun _ k_ => XS.iload X7.here hx rfl (hb hby d15_3) rfl  k_) ?_
  refine own_st (T' := T7) (g' := (mkF m 7 #[rv va, iv (2 : Int32), rv da, iv (2 : Int32), iv (4 : Int32), iv (2 : Int32), iv c1] [(.int (4 : Int32)), (.int (2 : Int32))])) (fun _ k_ => XS.iload X7.here hx rfl (hb hby d15_5) rfl  k_) ?_
  refine own_st (T' := T7) (g' := (mkF m 10 #[rv va, iv (2 : Int32), rv da, iv (2 : Int32), iv (4 : Int32), iv (2 : Int32), iv c1] [])) (fun _ k_ => XS.icmpNo X7.here hx rfl (hb hby d15_7) rfl (tlt (by decide : (2 : Int32) < (4 : Int32))).2.1 k_) ?_
  refine own_st (T' := T7) (g' := (mkF m 11 #[rv va, iv (2 : Int32), rv da, iv (2 : Int32), iv (4 : Int32), iv (2 : Int32), iv c1] [(.ref va)])) (fun _ k_ => XS.aloadN X7.here hx rfl (hb hby d15_10) rfl rfl  k_) ?_
  refine own_st (T' := T7) (g' := (mkF m 12 #[rv va, iv (2 : Int32), rv da, iv (2 : Int32), iv (4 : Int32), iv (2 : Int32), iv c1] [(.int (2 : Int32)), (.ref va)])) (fun _ k_ => XS.iloadN X7.here hx rfl (hb hby d15_11) rfl  k_) ?_
  have f8 : Arv Z h7 va kc .char (4 : Int32) [(.int c0), (.int c1), (.int c2), (.int c3)] (.int (0 : Int32)) := f4.other W7 nad
  obtain ⟨cl9, Ar9, q9, S9, N9, H9, G9⟩ := id f8
  have hin9 : ¬ ((2 : Int32) < 0 ∨ cl9.slots.size ≤ ((2 : Int32)).toNatClampNeg) := inb_of S9 ⟨by decide, by decide⟩
  refine own_st (T' := T7) (g' := (mkF m 13 #[rv va, iv (2 : Int32), rv da, iv (2 : Int32), iv (4 : Int32), iv (2 : Int32), iv c1] [(.int c2)])) (X7.caload hx (j := (2 : Int32)) (v := (.int c2)) (by rw [e7]; exact Ar9.1) (State.isArrayOf_alike hZ.alike Ar9.2.1) Ar9.2.2 hin9 (H9.at hin9 rfl) (g := (mkF m 12 #[rv va, iv (2 : Int32), rv da, iv (2 : Int32), iv (4 : Int32), iv (2 : Int32), iv c1] [(.int (2 : Int32)), (.ref va)])) rfl rfl (hb hby d15_12)) ?_
  clear hin9 G9 H9 N9 S9 q9 Ar9 cl9
  refine own_st (T' := T7) (g' := (mkF m 15 #[rv va, iv (2 : Int32), rv da, iv (2 : Int32), iv (4 : Int32), iv (2 : Int32), iv c2] [])) (fun _ k_ => XS.istore X7.here hx rfl (hb hby d15_13) rfl (l' := #[rv va, iv (2 : Int32), rv da, iv (2 : Int32), iv (4 : Int32), iv (2 : Int32), iv c2]) rfl k_) ?_
  refine own_st (T' := T7) (g' := (mkF m 17 #[rv va, iv (2 : Int32), rv da, iv (2 : Int32), iv (4 : Int32), iv (2 : Int32), iv c2] [(.int c2)])) (fun _ k_ => XS.iload X7.here hx rfl (hb hby d15_15) rfl  k_) ?_
  refine own_st (T' := T7) (g' := (mkF m 20 #[rv va, iv (2 : Int32), rv da, iv (2 : Int32), iv (4 : Int32), iv (2 : Int32), iv c2] [(.int (255 : Int32)), (.int c2)])) (fun _ k_ => XS.sipush X7.here hx rfl (hb hby d15_17) k_) ?_
  refine own_st (T' := T7) (g' := (mkF m 26 #[rv va, iv (2 : Int32), rv da, iv (2 : Int32), iv (4 : Int32), iv (2 : Int32), iv c2] [])) (fun _ k_ => XS.icmpYes X7.here hx rfl (pc0 := 20) (pc' := 26) rfl (hb hby d15_20) rfl (flt (hp2 : ¬ ((255 : Int32) < c2))).2.2.2 (by decide) (by decide) k_) ?_
  refine own_st (T' := T7) (g' := (mkF m 27 #[rv va, iv (2 : Int32), rv da, iv (2 : Int32), iv (4 : Int32), iv (2 : Int32), iv c2] [(.ref da)])) (fun _ k_ => XS.aloadN X7.here hx rfl (hb hby d15_26) rfl rfl  k_) ?_
  refine own_st (T' := T7) (g' := (mkF m 28 #[rv va, iv (2 : Int32), rv da, iv (2 : Int32), iv (4 : Int32), iv (2 : Int32), iv c2] [(.int (2 : Int32)), (.ref da)])) (fun _ k_ => XS.iloadN X7.here hx rfl (hb hby d15_27) rfl  k_) ?_
  refine own_st (T' := T7) (g' := (mkF m 30 #[rv va, iv (2 : Int32), rv da, iv (2 : Int32), iv (4 : Int32), iv (2 : Int32), iv c2] [(.int c2), (.int (2 : Int32)), (.ref da)])) (fun _ k_ => XS.iload X7.here hx rfl (hb hby d15_28) rfl  k_) ?_
  refine own_st (T' := T7) (g' := (mkF m 31 #[rv va, iv (2 : Int32), rv da, iv (2 : Int32), iv (4 : Int32), iv (2 : Int32), iv c2] [(.int (c2.toInt8.toInt32)), (.int (2 : Int32)), (.ref da)])) (fun _ k_ => XS.i2b X7.here hx rfl (hb hby d15_30) rfl k_) ?_
  obtain ⟨cl10, Ar10, q10, S10, N10, H10, G10⟩ := id Vn7
  have hin10 : ¬ ((2 : Int32) < 0 ∨ cl10.slots.size ≤ ((2 : Int32)).toNatClampNeg) := inb_of S10 ⟨by decide, by decide⟩
  obtain ⟨T11, h11, X11, e11, W11, st11⟩ := stB X7 hx hZ e7 Ar10 (j := (2 : Int32)) hin10 (g := (mkF m 31 #[rv va, iv (2 : Int32), rv da, iv (2 : Int32), iv (4 : Int32), iv (2 : Int32), iv c2] [(.int (c2.toInt8.toInt32)), (.int (2 : Int32)), (.ref da)])) rfl rfl (hb hby d15_31)
  have V11 : Arv Z h11 da kd .byte (4 : Int32) [(.int (c0.toInt8.toInt32)), (.int (c1.toInt8.toInt32)), (.int (nar .byte (c2.toInt8.toInt32))), (.int (0 : Int32))] (.int (0 : Int32)) := Arv.set Ar10 q10 S10 N10 H10 G10 (fits_nar_byte _) W11 2 rfl (Nat.le_of_ble_eq_true rfl)
  have Vn11 : Arv Z h11 da kd .byte (4 : Int32) [(.int (c0.toInt8.toInt32)), (.int (c1.toInt8.toInt32)), (.int (c2.toInt8.toInt32)), (.int (0 : Int32))] (.int (0 : Int32)) := by simpa only [own_bb] using V11
  have Nx11 := Fr.snoc X11 Nx7 fda
  refine own_st (T' := T11) (g' := (mkF m 32 #[rv va, iv (2 : Int32), rv da, iv (2 : Int32), iv (4 : Int32), iv (2 : Int32), iv c2] [])) st11 ?_
  clear hin10 G10 H10 N10 S10 q10 Ar10 cl10 st11
  refine own_st (T' := T11) (g' := (mkF m 35 #[rv va, iv (3 : Int32), rv da, iv (2 : Int32), iv (4 : Int32), iv (2 : Int32), iv c2] [])) (fun _ k_ => XS.iinc X11.here hx rfl (hb hby d15_32) rfl (l' := #[rv va, iv (3 : Int32), rv da, iv (2 : Int32), iv (4 : Int32), iv (2 : Int32), iv c2]) rfl k_) ?_
  refine own_st (T' := T11) (g' := (mkF m 38 #[rv va, iv (3 : Int32), rv da, iv (3 : Int32), iv (4 : Int32), iv (2 : Int32), iv c2] [])) (fun _ k_ => XS.iinc X11.here hx rfl (hb hby d15_35) rfl (l' := #[rv va, iv (3 : Int32), rv da, iv (3 : Int32), iv (4 : Int32), iv (2 : Int32), iv c2]) rfl k_) ?_
  refine own_st (T' := T11) (g' := (mkF m 41 #[rv va, iv (3 : Int32), rv da, iv (3 : Int32), iv (4 : Int32), iv (3 : Int32), iv c2] [])) (fun _ k_ => XS.iinc X11.here hx rfl (hb hby d15_38) rfl (l' := #[rv va, iv (3 : Int32), rv da, iv (3 : Int32), iv (4 : Int32), iv (3 : Int32), iv c2]) rfl k_) ?_
  refine own_st (T' := T11) (g' := (mkF m 3 #[rv va, iv (3 : Int32), rv da, iv (3 : Int32), iv (4 : Int32), iv (3 : Int32), iv c2] [])) (fun _ k_ => XS.goto X11.here hx rfl (pc0 := 41) (pc' := 3) rfl (hb hby d15_41) (by decide) (by decide) k_) ?_
  refine own_st (T' := T11) (g' := (mkF m 5 #[rv va, iv (3 : Int32), rv da, iv (3 : Int32), iv (4 : Int32), iv (3 : Int32), iv c2] [(.int (3 : Int32))])) (fun _ k_ => XS.iload X11.here hx rfl (hb hby d15_3) rfl  k_) ?_
  refine own_st (T' := T11) (g' := (mkF m 7 #[rv va, iv (3 : Int32), rv da, iv (3 : Int32), iv (4 : Int32), iv (3 : Int32), iv c2] [(.int (4 : Int32)), (.int (3 : Int32))])) (fun _ k_ => XS.iload X11.here hx rfl (hb hby d15_5) rfl  k_) ?_
  refine own_st (T' := T11) (g' := (mkF m 10 #[rv va, iv (3 : Int32), rv da, iv (3 : Int32), iv (4 : Int32), iv (3 : Int32), iv c2] [])) (fun _ k_ => XS.icmpNo X11.here hx rfl (hb hby d15_7) rfl (tlt (by decide : (3 : Int32) < (4 : Int32))).2.1 k_) ?_
  refine own_st (T' := T11) (g' := (mkF m 11 #[rv va, iv (3 : Int32), rv da, iv (3 : Int32), iv (4 : Int32), iv (3 : Int32), iv c2] [(.ref va)])) (fun _ k_ => XS.aloadN X11.here hx rfl (hb hby d15_10) rfl rfl  k_) ?_
  refine own_st (T' := T11) (g' := (mkF m 12 #[rv va, iv (3 : Int32), rv da, iv (3 : Int32), iv (4 : Int32), iv (3 : Int32), iv c2] [(.int (3 : Int32)), (.ref va)])) (fun _ k_ => XS.iloadN X11.here hx rfl (hb hby d15_11) rfl  k_) ?_
  have f12 : Arv Z h11 va kc .char (4 : Int32) [(.int c0), (.int c1), (.int c2), (.int c3)] (.int (0 : Int32)) := f8.other W11 nad
  obtain ⟨cl13, Ar13, q13, S13, N13, H13, G13⟩ := id f12
  have hin13 : ¬ ((3 : Int32) < 0 ∨ cl13.slots.size ≤ ((3 : Int32)).toNatClampNeg) := inb_of S13 ⟨by decide, by decide⟩
  refine own_st (T' := T11) (g' := (mkF m 13 #[rv va, iv (3 : Int32), rv da, iv (3 : Int32), iv (4 : Int32), iv (3 : Int32), iv c2] [(.int c3)])) (X11.caload hx (j := (3 : Int32)) (v := (.int c3)) (by rw [e11]; exact Ar13.1) (State.isArrayOf_alike hZ.alike Ar13.2.1) Ar13.2.2 hin13 (H13.at hin13 rfl) (g := (mkF m 12 #[rv va, iv (3 : Int32), rv da, iv (3 : Int32), iv (4 : Int32), iv (3 : Int32), iv c2] [(.int (3 : Int32)), (.ref va)])) rfl rfl (hb hby d15_12)) ?_
  clear hin13 G13 H13 N13 S13 q13 Ar13 cl13
  refine own_st (T' := T11) (g' := (mkF m 15 #[rv va, iv (3 : Int32), rv da, iv (3 : Int32), iv (4 : Int32), iv (3 : Int32), iv c3] [])) (fun _ k_ => XS.istore X11.here hx rfl (hb hby d15_13) rfl (l' := #[rv va, iv (3 : Int32), rv da, iv (3 : Int32), iv (4 : Int32), iv (3 : Int32), iv c3]) rfl k_) ?_
  refine own_st (T' := T11) (g' := (mkF m 17 #[rv va, iv (3 : Int32), rv da, iv (3 : Int32), iv (4 : Int32), iv (3 : Int32), iv c3] [(.int c3)])) (fun _ k_ => XS.iload X11.here hx rfl (hb hby d15_15) rfl  k_) ?_
  refine own_st (T' := T11) (g' := (mkF m 20 #[rv va, iv (3 : Int32), rv da, iv (3 : Int32), iv (4 : Int32), iv (3 : Int32), iv c3] [(.int (255 : Int32)), (.int c3)])) (fun _ k_ => XS.sipush X11.here hx rfl (hb hby d15_17) k_) ?_
  refine own_st (T' := T11) (g' := (mkF m 26 #[rv va, iv (3 : Int32), rv da, iv (3 : Int32), iv (4 : Int32), iv (3 : Int32), iv c3] [])) (fun _ k_ => XS.icmpYes X11.here hx rfl (pc0 := 20) (pc' := 26) rfl (hb hby d15_20) rfl (flt (hp3 : ¬ ((255 : Int32) < c3))).2.2.2 (by decide) (by decide) k_) ?_
  refine own_st (T' := T11) (g' := (mkF m 27 #[rv va, iv (3 : Int32), rv da, iv (3 : Int32), iv (4 : Int32), iv (3 : Int32), iv c3] [(.ref da)])) (fun _ k_ => XS.aloadN X11.here hx rfl (hb hby d15_26) rfl rfl  k_) ?_
  refine own_st (T' := T11) (g' := (mkF m 28 #[rv va, iv (3 : Int32), rv da, iv (3 : Int32), iv (4 : Int32), iv (3 : Int32), iv c3] [(.int (3 : Int32)), (.ref da)])) (fun _ k_ => XS.iloadN X11.here hx rfl (hb hby d15_27) rfl  k_) ?_
  refine own_st (T' := T11) (g' := (mkF m 30 #[rv va, iv (3 : Int32), rv da, iv (3 : Int32), iv (4 : Int32), iv (3 : Int32), iv c3] [(.int c3), (.int (3 : Int32)), (.ref da)])) (fun _ k_ => XS.iload X11.here hx rfl (hb hby d15_28) rfl  k_) ?_
  refine own_st (T' := T11) (g' := (mkF m 31 #[rv va, iv (3 : Int32), rv da, iv (3 : Int32), iv (4 : Int32), iv (3 : Int32), iv c3] [(.int (c3.toInt8.toInt32)), (.int (3 : Int32)), (.ref da)])) (fun _ k_ => XS.i2b X11.here hx rfl (hb hby d15_30) rfl k_) ?_
  obtain ⟨cl14, Ar14, q14, S14, N14, H14, G14⟩ := id Vn11
  have hin14 : ¬ ((3 : Int32) < 0 ∨ cl14.slots.size ≤ ((3 : Int32)).toNatClampNeg) := inb_of S14 ⟨by decide, by decide⟩
  obtain ⟨T15, h15, X15, e15, W15, st15⟩ := stB X11 hx hZ e11 Ar14 (j := (3 : Int32)) hin14 (g := (mkF m 31 #[rv va, iv (3 : Int32), rv da, iv (3 : Int32), iv (4 : Int32), iv (3 : Int32), iv c3] [(.int (c3.toInt8.toInt32)), (.int (3 : Int32)), (.ref da)])) rfl rfl (hb hby d15_31)
  have V15 : Arv Z h15 da kd .byte (4 : Int32) [(.int (c0.toInt8.toInt32)), (.int (c1.toInt8.toInt32)), (.int (c2.toInt8.toInt32)), (.int (nar .byte (c3.toInt8.toInt32)))] (.int (0 : Int32)) := Arv.set Ar14 q14 S14 N14 H14 G14 (fits_nar_byte _) W15 3 rfl (Nat.le_of_ble_eq_true rfl)
  have Vn15 : Arv Z h15 da kd .byte (4 : Int32) [(.int (c0.toInt8.toInt32)), (.int (c1.toInt8.toInt32)), (.int (c2.toInt8.toInt32)), (.int (c3.toInt8.toInt32))] (.int (0 : Int32)) := by simpa only [own_bb] using V15
  have Nx15 := Fr.snoc X15 Nx11 fda
  refine own_st (T' := T15) (g' := (mkF m 32 #[rv va, iv (3 : Int32), rv da, iv (3 : Int32), iv (4 : Int32), iv (3 : Int32), iv c3] [])) st15 ?_
  clear hin14 G14 H14 N14 S14 q14 Ar14 cl14 st15
  refine own_st (T' := T15) (g' := (mkF m 35 #[rv va, iv (4 : Int32), rv da, iv (3 : Int32), iv (4 : Int32), iv (3 : Int32), iv c3] [])) (fun _ k_ => XS.iinc X15.here hx rfl (hb hby d15_32) rfl (l' := #[rv va, iv (4 : Int32), rv da, iv (3 : Int32), iv (4 : Int32), iv (3 : Int32), iv c3]) rfl k_) ?_
  refine own_st (T' := T15) (g' := (mkF m 38 #[rv va, iv (4 : Int32), rv da, iv (4 : Int32), iv (4 : Int32), iv (3 : Int32), iv c3] [])) (fun _ k_ => XS.iinc X15.here hx rfl (hb hby d15_35) rfl (l' := #[rv va, iv (4 : Int32), rv da, iv (4 : Int32), iv (4 : Int32), iv (3 : Int32), iv c3]) rfl k_) ?_
  refine own_st (T' := T15) (g' := (mkF m 41 #[rv va, iv (4 : Int32), rv da, iv (4 : Int32), iv (4 : Int32), iv (4 : Int32), iv c3] [])) (fun _ k_ => XS.iinc X15.here hx rfl (hb hby d15_38) rfl (l' := #[rv va, iv (4 : Int32), rv da, iv (4 : Int32), iv (4 : Int32), iv (4 : Int32), iv c3]) rfl k_) ?_
  refine own_st (T' := T15) (g' := (mkF m 3 #[rv va, iv (4 : Int32), rv da, iv (4 : Int32), iv (4 : Int32), iv (4 : Int32), iv c3] [])) (fun _ k_ => XS.goto X15.here hx rfl (pc0 := 41) (pc' := 3) rfl (hb hby d15_41) (by decide) (by decide) k_) ?_
  refine own_st (T' := T15) (g' := (mkF m 5 #[rv va, iv (4 : Int32), rv da, iv (4 : Int32), iv (4 : Int32), iv (4 : Int32), iv c3] [(.int (4 : Int32))])) (fun _ k_ => XS.iload X15.here hx rfl (hb hby d15_3) rfl  k_) ?_
  refine own_st (T' := T15) (g' := (mkF m 7 #[rv va, iv (4 : Int32), rv da, iv (4 : Int32), iv (4 : Int32), iv (4 : Int32), iv c3] [(.int (4 : Int32)), (.int (4 : Int32))])) (fun _ k_ => XS.iload X15.here hx rfl (hb hby d15_5) rfl  k_) ?_
  refine own_st (T' := T15) (g' := (mkF m 44 #[rv va, iv (4 : Int32), rv da, iv (4 : Int32), iv (4 : Int32), iv (4 : Int32), iv c3] [])) (fun _ k_ => XS.icmpYes X15.here hx rfl (pc0 := 7) (pc' := 44) rfl (hb hby d15_7) rfl (flt (by decide : ¬ ((4 : Int32) < (4 : Int32)))).2.1 (by decide) (by decide) k_) ?_
  refine own_st (T' := T15) (g' := (mkF m 46 #[rv va, iv (4 : Int32), rv da, iv (4 : Int32), iv (4 : Int32), iv (4 : Int32), iv c3] [(.int (4 : Int32))])) (fun _ k_ => XS.iload X15.here hx rfl (hb hby d15_44) rfl  k_) ?_
  have f16 : Keep h0 h3 [da] := (Keep.refl h0 [da]).wr W3 (Or.inl (List.mem_of_getElem? (i := 0) rfl))
  have f17 : Keep h0 h7 [da] := f16.wr W7 (Or.inl (List.mem_of_getElem? (i := 0) rfl))
  have f18 : Keep h0 h11 [da] := f17.wr W11 (Or.inl (List.mem_of_getElem? (i := 0) rfl))
  have f19 : Keep h0 h15 [da] := f18.wr W15 (Or.inl (List.mem_of_getElem? (i := 0) rfl))
  exact own_retI X15 hx hret hlk (hb hby d15_46) (by decide) (by decide) (by rw [e15]; exact ⟨rfl, Nx15, f19, Vn15⟩)
theorem ef_cmp3_4 (m : MethodId) (x0 : Addr) (x1 : Int32) (x2 : Int32) : entryFrame m #[(.ref x0), (.int x1), (.int x2)] 6 = mkF m 0 #[rv x0, iv x1, iv x2, .unset, .unset, .unset] [] := by first | (simp [entryFrame, mkF, argsToLocals, Value.category]; done) | rfl
def Q_cmp3_4 (Z : State) (va : Addr) (kc : ClassId) (c0 : Int32) (c1 : Int32) (c2 : Int32) (c3 : Int32) (h0 : Heap) (n0 : Nat) (v : Option Value) (h : Heap) (L : List Loc) : Prop := ∃ (t : Addr) (kb : ClassId), (v = some (.ref t)) ∧ (Fr n0 L) ∧ (Keep h0 h []) ∧ (Arv Z h t kb .byte (4 : Int32) [(.int (c0.toInt8.toInt32)), (.int (c1.toInt8.toInt32)), (.int (c2.toInt8.toInt32)), (.int (c3.toInt8.toInt32))] (.int (0 : Int32))) ∧ (h0.size ≤ t)
set_option maxRecDepth 65536 in
set_option maxHeartbeats 40000000 in
theorem rm_cmp3_4 (l : Launch) (Z : State) (a0 : Array Value) (hw : ∀ d ∈ tables_1, d.before a0 Z = true) (ws : List Jvm.Cond) (va : Addr) (kc : ClassId) (c0 : Int32) (c1 : Int32) (c2 : Int32) (c3 : Int32) (h0 : Heap) (n0 : Nat) (O0 : Old Z n0 h0) (VA : Arv Z h0 va kc .char (4 : Int32) [(.int c0), (.int c1), (.int c2), (.int c3)] (.int (0 : Int32))) (hp0 : ¬ (255 : Int32) < c0) (hp1 : ¬ (255 : Int32) < c1) (hp2 : ¬ (255 : Int32) < c2) (hp3 : ¬ (255 : Int32) < c3) :
    MetFree l own_m20 (head1 (Jvm.Cond.code own_m20 jdk_52_method_16_code 6 (some (.array .byte)) :: ws) ({ frames := 1, cells := 1, slots := 4, locals := 18 } : Room)) (fun ar_ U => ar_ = #[(.ref va), (.int (0 : Int32)), (.int (4 : Int32))] ∧ Z.Warmed39 U.vm ∧ U.heap = h0) (fun _ _ _ _ _ => True) (fun _ U o U' => ∃ v L, o = .returned v ∧ Q_cmp3_4 Z va kc c0 c1 c2 c3 h0 n0 v U'.heap L ∧ FrameEnd U o U' L ({ frames := 1, cells := 1, slots := 4, locals := 18 } : Room).cells ({ frames := 1, cells := 1, slots := 4, locals := 18 } : Room).slots) := by
  refine MetFree.of_bodySF (plainFor_of_name pn_5) hisR ?_
  intro p e s m args below meth c s₁ Bd hml0 hP hK
  obtain ⟨rfl, hZ, hh⟩ := hP
  have hx := Bd.exec
  have hby := Bd.bytes
  have hml : c.maxLocals = 6 := hml0
  have hown : s.vm.findClass "java/lang/StringUTF16" = some m.cls := findClass_of_methodNamed Bd.named
  have hnm := (name_of_methodNamed Bd.named Bd.method).1
  have X0 : Stand p l e ({ frames := 1, cells := 1, slots := 4, locals := 18 } : Room) s m #[(.ref va), (.int (0 : Int32)), (.int (4 : Int32))] below meth c s₁ [] 0 0 := Stand.of_body Bd
  have e0 : s₁.heap = h0 := by rw [← hh, Bd.state]; rfl
  have N0 := Fr.nil n0
  have hret := Bd.returns
  have hlk : meth.locks = false := Bd.notSynchronized
  show own_E p e below s ({ frames := 1, cells := 1, slots := 4, locals := 18 } : Room).cells ({ frames := 1, cells := 1, slots := 4, locals := 18 } : Room).slots (Q_cmp3_4 Z va kc c0 c1 c2 c3 h0 n0) s₁ (entryFrame m #[(.ref va), (.int (0 : Int32)), (.int (4 : Int32))] 6)
  rw [ef_cmp3_4 m va (0 : Int32) (4 : Int32)]
  refine own_st (T' := s₁) (g' := (mkF m 1 #[rv va, iv (0 : Int32), iv (4 : Int32), .unset, .unset, .unset] [(.int (4 : Int32))])) (fun _ k_ => XS.iloadN X0.here hx rfl (hb hby d14_0) rfl  k_) ?_
  obtain ⟨T1, h1, k1, X1, e1, E1, A1, st1⟩ := newP X0 hx hZ (wd hw 23 rfl) e0 (g := (mkF m 1 #[rv va, iv (0 : Int32), iv (4 : Int32), .unset, .unset, .unset] [(.int (4 : Int32))])) rfl (hb hby d14_1) rfl (by decide) (cap := 4) (by decide) (by decide) (by decide) (by decide)
  obtain ⟨b1, g1⟩ : ∃ z, z = h0.size := ⟨_, rfl⟩
  rw [← g1] at A1 st1
  have fr1 : n0 ≤ b1 := Nat.le_trans (own_z O0) (Nat.le_of_eq g1.symm)
  have sz1 : h0.size ≤ b1 := Nat.le_trans (Keep.refl h0 []).1 (Nat.le_of_eq g1.symm)
  have V1 : Arv Z h1 b1 k1 .byte (4 : Int32) [(.int (0 : Int32)), (.int (0 : Int32)), (.int (0 : Int32)), (.int (0 : Int32))] (.int (0 : Int32)) := (Arv.new A1 (by decide)).pad (pad_rep [] (.int (0 : Int32)) 4)
  refine own_st (T' := T1) (g' := (mkF m 3 #[rv va, iv (0 : Int32), iv (4 : Int32), .unset, .unset, .unset] [(.ref b1)])) st1 ?_
  clear st1
  refine own_st (T' := T1) (g' := (mkF m 4 #[rv va, iv (0 : Int32), iv (4 : Int32), rv b1, .unset, .unset] [])) (fun _ k_ => XS.astoreN X1.here hx rfl (hb hby d14_3) rfl rfl (l' := #[rv va, iv (0 : Int32), iv (4 : Int32), rv b1, .unset, .unset]) rfl k_) ?_
  refine own_st (T' := T1) (g' := (mkF m 5 #[rv va, iv (0 : Int32), iv (4 : Int32), rv b1, .unset, .unset] [(.ref va)])) (fun _ k_ => XS.aloadN X1.here hx rfl (hb hby d14_4) rfl rfl  k_) ?_
  refine own_st (T' := T1) (g' := (mkF m 6 #[rv va, iv (0 : Int32), iv (4 : Int32), rv b1, .unset, .unset] [(.int (0 : Int32)), (.ref va)])) (fun _ k_ => XS.iloadN X1.here hx rfl (hb hby d14_5) rfl  k_) ?_
  refine own_st (T' := T1) (g' := (mkF m 7 #[rv va, iv (0 : Int32), iv (4 : Int32), rv b1, .unset, .unset] [(.ref b1), (.int (0 : Int32)), (.ref va)])) (fun _ k_ => XS.aloadN X1.here hx rfl (hb hby d14_6) rfl rfl  k_) ?_
  refine own_st (T' := T1) (g' := (mkF m 8 #[rv va, iv (0 : Int32), iv (4 : Int32), rv b1, .unset, .unset] [(.int (0 : Int32)), (.ref b1), (.int (0 : Int32)), (.ref va)])) (fun _ k_ => XS.iconst X1.here hx rfl (hb hby d14_7) k_) ?_
  refine own_st (T' := T1) (g' := (mkF m 9 #[rv va, iv (0 : Int32), iv (4 : Int32), rv b1, .unset, .unset] [(.int (4 : Int32)), (.int (0 : Int32)), (.ref b1), (.int (0 : Int32)), (.ref va)])) (fun _ k_ => XS.iloadN X1.here hx rfl (hb hby d14_8) rfl  k_) ?_
  have f2 : Arv Z h1 va kc .char (4 : Int32) [(.int c0), (.int c1), (.int c2), (.int c3)] (.int (0 : Int32)) := VA.ext E1
  have ne3 : va ≠ b1 := Nat.ne_of_lt (Nat.lt_of_lt_of_le VA.lt (Nat.le_of_eq g1.symm))
  have f4 : Old Z n0 h1 := O0.ext E1
  obtain ⟨_, T5, L5, X5, hQ5, st5⟩ := own_callS X1 hx (y := own_m19) hown (mvT hZ (wd hw 70 rfl)) (mvT hZ (wd hw 71 rfl)) (mvT hZ (wd hw 68 rfl)) (mvT hZ (wd hw 72 rfl)) (by decide) (backOf (W := 0) (rm_cmp5_4 l Z a0 hw [] va b1 kc k1 c0 c1 c2 c3 h1 n0 f4 f2 V1 ne3 fr1 hp0 hp1 hp2 hp3) hZ (wd hw 72 rfl) (wd hw 68 rfl) (by decide) (by decide)) (g := (mkF m 9 #[rv va, iv (0 : Int32), iv (4 : Int32), rv b1, .unset, .unset] [(.int (4 : Int32)), (.int (0 : Int32)), (.ref b1), (.int (0 : Int32)), (.ref va)])) rfl (by rw [hml]; rfl) (argsL := [(.ref va), (.int (0 : Int32)), (.ref b1), (.int (0 : Int32)), (.int (4 : Int32))]) (rest := []) (lenOf pd___CI_BII_I rfl) rfl (by show 2 * 0 + _ ≤ _; exact Nat.le_of_eq rfl) (hb hby d14_9) rfl e1 (by decide) (by decide) (c' := 1) (s' := 4) rfl rfl
  obtain ⟨rfl, Nq5, K5, fq5_0⟩ := hQ5
  have N5 := Fr.app N0 Nq5
  refine own_st (T' := T5) (g' := (mkF m 12 #[rv va, iv (0 : Int32), iv (4 : Int32), rv b1, .unset, .unset] [(.int (4 : Int32))])) st5 ?_
  clear st5
  refine own_st (T' := T5) (g' := (mkF m 14 #[rv va, iv (0 : Int32), iv (4 : Int32), rv b1, iv (4 : Int32), .unset] [])) (fun _ k_ => XS.istore X5.here hx rfl (hb hby d14_12) rfl (l' := #[rv va, iv (0 : Int32), iv (4 : Int32), rv b1, iv (4 : Int32), .unset]) rfl k_) ?_
  refine own_st (T' := T5) (g' := (mkF m 16 #[rv va, iv (0 : Int32), iv (4 : Int32), rv b1, iv (4 : Int32), .unset] [(.int (4 : Int32))])) (fun _ k_ => XS.iload X5.here hx rfl (hb hby d14_14) rfl  k_) ?_
  refine own_st (T' := T5) (g' := (mkF m 17 #[rv va, iv (0 : Int32), iv (4 : Int32), rv b1, iv (4 : Int32), .unset] [(.int (4 : Int32)), (.int (4 : Int32))])) (fun _ k_ => XS.iloadN X5.here hx rfl (hb hby d14_16) rfl  k_) ?_
  refine own_st (T' := T5) (g' := (mkF m 57 #[rv va, iv (0 : Int32), iv (4 : Int32), rv b1, iv (4 : Int32), .unset] [])) (fun _ k_ => XS.icmpYes X5.here hx rfl (pc0 := 17) (pc' := 57) rfl (hb hby d14_17) rfl (teq (rfl : (4 : Int32) = (4 : Int32))).1 (by decide) (by decide) k_) ?_
  refine own_st (T' := T5) (g' := (mkF m 58 #[rv va, iv (0 : Int32), iv (4 : Int32), rv b1, iv (4 : Int32), .unset] [(.ref b1)])) (fun _ k_ => XS.aloadN X5.here hx rfl (hb hby d14_57) rfl rfl  k_) ?_
  have f6 : Keep h0 h1 [] := (Keep.refl h0 []).ext E1
  have f7 : Keep h0 T5.heap [] := f6.trans K5 (allS (Or.inr sz1) all0)
  exact own_retA X5 hx hret rfl rfl hlk (hb hby d14_58) (by decide) (by decide) ⟨b1, k1, rfl, N5, f7, fq5_0, sz1⟩
theorem ef_cdr_4 (m : MethodId) (x0 : Addr) (x1 : Int32) : entryFrame m #[(.ref x0), (.int x1)] 2 = mkF m 0 #[rv x0, iv x1] [] := by first | (simp [entryFrame, mkF, argsToLocals, Value.category]; done) | rfl
def Q_cdr_4 (Z : State) (t : Addr) (kb : ClassId) (vs : List Value) (h0 : Heap) (n0 : Nat) (v : Option Value) (h : Heap) (L : List Loc) : Prop := (v = some (.int (0 : Int32))) ∧ (Fr n0 L) ∧ (h = h0)
set_option maxRecDepth 65536 in
set_option maxHeartbeats 40000000 in
theorem rm_cdr_4 (l : Launch) (Z : State) (a0 : Array Value) (hw : ∀ d ∈ tables_1, d.before a0 Z = true) (ws : List Jvm.Cond) (t : Addr) (kb : ClassId) (vs : List Value) (h0 : Heap) (n0 : Nat) (O0 : Old Z n0 h0) (VT : Arv Z h0 t kb .byte (4 : Int32) vs (.int (0 : Int32))) :
    MetFree l own_m21 (head1 (Jvm.Cond.code own_m21 jdk_52_method_15_code 2 (some .byte) :: ws) ({ frames := 0, cells := 0, slots := 0, locals := 0 } : Room)) (fun ar_ U => ar_ = #[(.ref t), (.int (4 : Int32))] ∧ Z.Warmed39 U.vm ∧ U.heap = h0) (fun _ _ _ _ _ => True) (fun _ U o U' => ∃ v L, o = .returned v ∧ Q_cdr_4 Z t kb vs h0 n0 v U'.heap L ∧ FrameEnd U o U' L ({ frames := 0, cells := 0, slots := 0, locals := 0 } : Room).cells ({ frames := 0, cells := 0, slots := 0, locals := 0 } : Room).slots) := by
  refine MetFree.of_bodySF (plainFor_of_name pn_5) hisR ?_
  intro p e s m args below meth c s₁ Bd hml0 hP hK
  obtain ⟨rfl, hZ, hh⟩ := hP
  have hx := Bd.exec
  have hby := Bd.bytes
  have hml : c.maxLocals = 2 := hml0
  have hown : s.vm.findClass "java/lang/StringUTF16" = some m.cls := findClass_of_methodNamed Bd.named
  have hnm := (name_of_methodNamed Bd.named Bd.method).1
  have X0 : Stand p l e ({ frames := 0, cells := 0, slots := 0, locals := 0 } : Room) s m #[(.ref t), (.int (4 : Int32))] below meth c s₁ [] 0 0 := Stand.of_body Bd
  have e0 : s₁.heap = h0 := by rw [← hh, Bd.state]; rfl
  have N0 := Fr.nil n0
  have hret := Bd.returns
  have hlk : meth.locks = false := Bd.notSynchronized
  show own_E p e below s ({ frames := 0, cells := 0, slots := 0, locals := 0 } : Room).cells ({ frames := 0, cells := 0, slots := 0, locals := 0 } : Room).slots (Q_cdr_4 Z t kb vs h0 n0) s₁ (entryFrame m #[(.ref t), (.int (4 : Int32))] 2)
  rw [ef_cdr_4 m t (4 : Int32)]
  refine own_st (T' := s₁) (g' := (mkF m 1 #[rv t, iv (4 : Int32)] [(.int (4 : Int32))])) (fun _ k_ => XS.iloadN X0.here hx rfl (hb hby d16_0) rfl  k_) ?_
  refine own_st (T' := s₁) (g' := (mkF m 2 #[rv t, iv (4 : Int32)] [(.ref t), (.int (4 : Int32))])) (fun _ k_ => XS.aloadN X0.here hx rfl (hb hby d16_1) rfl rfl  k_) ?_
  obtain ⟨cl1, Ar1, -, S1, N1, -, -⟩ := id VT
  refine own_st (T' := s₁) (g' := (mkF m 3 #[rv t, iv (4 : Int32)] [(.int (4 : Int32)), (.int (4 : Int32))])) (fun t_ k_ => X0.arraylength hx (by rw [e0]; exact Ar1.1) (State.isArrayOf_alike hZ.alike Ar1.2.1) (g := (mkF m 2 #[rv t, iv (4 : Int32)] [(.ref t), (.int (4 : Int32))])) rfl rfl (hb hby d16_2) _ (by rw [len_of S1 N1]; exact k_)) ?_
  refine own_st (T' := s₁) (g' := (mkF m 4 #[rv t, iv (4 : Int32)] [(.int (0 : Int32))])) (fun _ k_ => XS.isub X0.here hx rfl (hb hby d16_3) rfl k_) ?_
  refine own_st (T' := s₁) (g' := (mkF m 6 #[rv t, iv (4 : Int32)] [(.int (31 : Int32)), (.int (0 : Int32))])) (fun _ k_ => XS.bipush X0.here hx rfl (hb hby d16_4) k_) ?_
  refine own_st (T' := s₁) (g' := (mkF m 7 #[rv t, iv (4 : Int32)] [(.int (((0 : Int32).toUInt32 >>> ((31 : Int32) &&& 31).toUInt32).toInt32))])) (fun _ k_ => XS.iushr X0.here hx rfl (hb hby d16_6) rfl k_) ?_
  refine own_st (T' := s₁) (g' := (mkF m 8 #[rv t, iv (4 : Int32)] [(.int ((((0 : Int32).toUInt32 >>> ((31 : Int32) &&& 31).toUInt32).toInt32).toInt8.toInt32))])) (fun _ k_ => XS.i2b X0.here hx rfl (hb hby d16_7) rfl k_) ?_
  exact own_retN X0 hx (t := .byte) hret (by simp) hlk (hb hby d16_8) (by decide) (by decide) ⟨(by decide), N0, e0⟩
theorem ef_ini4_4 (m : MethodId) (x0 : Addr) (x1 : Addr) (x2 : Int32) (x3 : Int32) : entryFrame m #[(.ref x0), (.ref x1), (.int x2), (.int x3), .null] 6 = mkF m 0 #[rv x0, rv x1, iv x2, iv x3, .val .null, .unset] [] := by first | (simp [entryFrame, mkF, argsToLocals, Value.category]; done) | rfl
def Q_ini4_4 (Z : State) (a : Addr) (va : Addr) (kc : ClassId) (cz : Int32) (c0 : Int32) (c1 : Int32) (c2 : Int32) (c3 : Int32) (h0 : Heap) (n0 : Nat) (v : Option Value) (h : Heap) (L : List Loc) : Prop := ∃ (t : Addr) (kb : ClassId), (v = none) ∧ (Fr n0 L) ∧ (Keep h0 h [a]) ∧ (Exa Z h a "java/lang/String") ∧ (Fld Z h a "java/lang/String" "coder" "B" (.int (0 : Int32))) ∧ (Fld Z h a "java/lang/String" "value" "[B" (.ref t)) ∧ (Arv Z h t kb .byte (4 : Int32) [(.int (c0.toInt8.toInt32)), (.int (c1.toInt8.toInt32)), (.int (c2.toInt8.toInt32)), (.int (c3.toInt8.toInt32))] (.int (0 : Int32))) ∧ (h0.size ≤ t)
set_option maxRecDepth 65536 in
set_option maxHeartbeats 40000000 in
theorem rm_ini4_4 (l : Launch) (Z : State) (a0 : Array Value) (hw : ∀ d ∈ tables_1, d.before a0 Z = true) (ws : List Jvm.Cond) (a : Addr) (va : Addr) (kc : ClassId) (cz : Int32) (c0 : Int32) (c1 : Int32) (c2 : Int32) (c3 : Int32) (h0 : Heap) (n0 : Nat) (O0 : Old Z n0 h0) (EA : Exa Z h0 a "java/lang/String") (FV : Fld Z h0 a "java/lang/String" "value" "[B" .null) (FC : Fld Z h0 a "java/lang/String" "coder" "B" (.int (0 : Int32))) (fa : n0 ≤ a) (VA : Arv Z h0 va kc .char (4 : Int32) [(.int c0), (.int c1), (.int c2), (.int c3)] (.int (0 : Int32))) (SC : Sta Z Z.heap "java/lang/String" "COMPACT_STRINGS" "Z" (.int cz)) (hcz : ¬ cz = (0 : Int32)) (hp0 : ¬ (255 : Int32) < c0) (hp1 : ¬ (255 : Int32) < c1) (hp2 : ¬ (255 : Int32) < c2) (hp3 : ¬ (255 : Int32) < c3) :
    MetFree l own_m17 (head1 (Jvm.Cond.code own_m17 jdk_42_method_149_code 6 none :: ws) ({ frames := 2, cells := 1, slots := 4, locals := 35 } : Room)) (fun ar_ U => ar_ = #[(.ref a), (.ref va), (.int (0 : Int32)), (.int (4 : Int32)), .null] ∧ Z.Warmed39 U.vm ∧ U.heap = h0) (fun _ _ _ _ _ => True) (fun _ U o U' => ∃ v L, o = .returned v ∧ Q_ini4_4 Z a va kc cz c0 c1 c2 c3 h0 n0 v U'.heap L ∧ FrameEnd U o U' L ({ frames := 2, cells := 1, slots := 4, locals := 35 } : Room).cells ({ frames := 2, cells := 1, slots := 4, locals := 35 } : Room).slots) := by
  refine MetFree.of_bodySF (plainFor_of_name pn_0) hisR ?_
  intro p e s m args below meth c s₁ Bd hml0 hP hK
  obtain ⟨rfl, hZ, hh⟩ := hP
  have hx := Bd.exec
  have hby := Bd.bytes
  have hml : c.maxLocals = 6 := hml0
  have hown : s.vm.findClass "java/lang/String" = some m.cls := findClass_of_methodNamed Bd.named
  have hnm := (name_of_methodNamed Bd.named Bd.method).1
  have X0 : Stand p l e ({ frames := 2, cells := 1, slots := 4, locals := 35 } : Room) s m #[(.ref a), (.ref va), (.int (0 : Int32)), (.int (4 : Int32)), .null] below meth c s₁ [] 0 0 := Stand.of_body Bd
  have e0 : s₁.heap = h0 := by rw [← hh, Bd.state]; rfl
  have N0 := Fr.nil n0
  have hret := Bd.returns
  have hlk : meth.locks = false := Bd.notSynchronized
  show own_E p e below s ({ frames := 2, cells := 1, slots := 4, locals := 35 } : Room).cells ({ frames := 2, cells := 1, slots := 4, locals := 35 } : Room).slots (Q_ini4_4 Z a va kc cz c0 c1 c2 c3 h0 n0) s₁ (entryFrame m #[(.ref a), (.ref va), (.int (0 : Int32)), (.int (4 : Int32)), .null] 6)
  rw [ef_ini4_4 m a va (0 : Int32) (4 : Int32)]
  refine own_st (T' := s₁) (g' := (mkF m 1 #[rv a, rv va, iv (0 : Int32), iv (4 : Int32), .val .null, .unset] [(.ref a)])) (fun _ k_ => XS.aloadN X0.here hx rfl (hb hby d4_0) rfl rfl  k_) ?_
  obtain ⟨T1, X1, e1, st1⟩ := initO X0 hx hZ hown (wd hw 19 rfl) (wd hw 20 rfl) (wd hw 21 rfl) e0 (g := (mkF m 1 #[rv a, rv va, iv (0 : Int32), iv (4 : Int32), .val .null, .unset] [(.ref a)])) rfl (by rw [hml]; rfl) rfl (hb hby d4_1) (by decide) (W := 0) (by show 2 * 0 + _ ≤ _; exact Nat.le_of_eq rfl) (by decide)
  refine own_st (T' := T1) (g' := (mkF m 4 #[rv a, rv va, iv (0 : Int32), iv (4 : Int32), .val .null, .unset] [])) st1 ?_
  clear st1
  refine own_st (T' := T1) (g' := (mkF m 5 #[rv a, rv va, iv (0 : Int32), iv (4 : Int32), .val .null, .unset] [(.int (4 : Int32))])) (fun _ k_ => XS.iloadN X1.here hx rfl (hb hby d4_4) rfl  k_) ?_
  refine own_st (T' := T1) (g' := (mkF m 27 #[rv a, rv va, iv (0 : Int32), iv (4 : Int32), .val .null, .unset] [])) (fun _ k_ => XS.ifYes X1.here hx rfl (pc0 := 5) (pc' := 27) rfl (hb hby d4_5) rfl ((if0 _ _).trans (feq (by decide : ¬ ((4 : Int32) = (0 : Int32)))).2) (by decide) (by decide) k_) ?_
  obtain ⟨T2, X2, e2, st2⟩ := getS2 X1 hx hZ hown (host := "") (Or.inl (wd hw 44 rfl)) Via.refl e1 (SC.ext O0.2) (g := (mkF m 27 #[rv a, rv va, iv (0 : Int32), iv (4 : Int32), .val .null, .unset] [])) rfl (hb hby d4_27)
  refine own_st (T' := T2) (g' := (mkF m 30 #[rv a, rv va, iv (0 : Int32), iv (4 : Int32), .val .null, .unset] [(.int cz)])) st2 ?_
  clear st2
  refine own_st (T' := T2) (g' := (mkF m 33 #[rv a, rv va, iv (0 : Int32), iv (4 : Int32), .val .null, .unset] [])) (fun _ k_ => XS.ifNo X2.here hx rfl (hb hby d4_30) rfl ((if0 _ _).trans (feq (hcz : ¬ (cz = (0 : Int32)))).1) k_) ?_
  refine own_st (T' := T2) (g' := (mkF m 34 #[rv a, rv va, iv (0 : Int32), iv (4 : Int32), .val .null, .unset] [(.ref va)])) (fun _ k_ => XS.aloadN X2.here hx rfl (hb hby d4_33) rfl rfl  k_) ?_
  refine own_st (T' := T2) (g' := (mkF m 35 #[rv a, rv va, iv (0 : Int32), iv (4 : Int32), .val .null, .unset] [(.int (0 : Int32)), (.ref va)])) (fun _ k_ => XS.iloadN X2.here hx rfl (hb hby d4_34) rfl  k_) ?_
  refine own_st (T' := T2) (g' := (mkF m 36 #[rv a, rv va, iv (0 : Int32), iv (4 : Int32), .val .null, .unset] [(.int (4 : Int32)), (.int (0 : Int32)), (.ref va)])) (fun _ k_ => XS.iloadN X2.here hx rfl (hb hby d4_35) rfl  k_) ?_
  obtain ⟨_, T3, L3, X3, hQ3, st3⟩ := own_callS X2 hx (y := own_m20) hown (mvT hZ (wd hw 66 rfl)) (mvT hZ (wd hw 67 rfl)) (mvT hZ (wd hw 68 rfl)) (mvT hZ (wd hw 69 rfl)) (by decide) (backOf (W := 0) (rm_cmp3_4 l Z a0 hw [] va kc c0 c1 c2 c3 h0 n0 O0 VA hp0 hp1 hp2 hp3) hZ (wd hw 69 rfl) (wd hw 68 rfl) (by decide) (by decide)) (g := (mkF m 36 #[rv a, rv va, iv (0 : Int32), iv (4 : Int32), .val .null, .unset] [(.int (4 : Int32)), (.int (0 : Int32)), (.ref va)])) rfl (by rw [hml]; rfl) (argsL := [(.ref va), (.int (0 : Int32)), (.int (4 : Int32))]) (rest := []) (lenOf pd___CII__B rfl) rfl (by show 2 * 0 + _ ≤ _; exact Nat.le_of_eq rfl) (hb hby d4_36) rfl e2 (by decide) (by decide) (c' := 1) (s' := 4) rfl rfl
  obtain ⟨t3, kb3, rfl, Nq3, K3, fq3_0, xq3_fresh_t⟩ := hQ3
  have N3 := Fr.app N0 Nq3
  refine own_st (T' := T3) (g' := (mkF m 39 #[rv a, rv va, iv (0 : Int32), iv (4 : Int32), .val .null, .unset] [(.ref t3)])) st3 ?_
  clear st3
  refine own_st (T' := T3) (g' := (mkF m 41 #[rv a, rv va, iv (0 : Int32), iv (4 : Int32), .val .null, rv t3] [])) (fun _ k_ => XS.astore X3.here hx rfl (hb hby d4_39) rfl rfl (l' := #[rv a, rv va, iv (0 : Int32), iv (4 : Int32), .val .null, rv t3]) rfl k_) ?_
  refine own_st (T' := T3) (g' := (mkF m 42 #[rv a, rv va, iv (0 : Int32), iv (4 : Int32), .val .null, rv t3] [(.ref a)])) (fun _ k_ => XS.aloadN X3.here hx rfl (hb hby d4_41) rfl rfl  k_) ?_
  refine own_st (T' := T3) (g' := (mkF m 44 #[rv a, rv va, iv (0 : Int32), iv (4 : Int32), .val .null, rv t3] [(.ref t3), (.ref a)])) (fun _ k_ => XS.aload X3.here hx rfl (hb hby d4_42) rfl rfl  k_) ?_
  refine own_st (T' := T3) (g' := (mkF m 45 #[rv a, rv va, iv (0 : Int32), iv (4 : Int32), .val .null, rv t3] [(.int (4 : Int32)), (.ref t3), (.ref a)])) (fun _ k_ => XS.iloadN X3.here hx rfl (hb hby d4_44) rfl  k_) ?_
  have f4 : Old Z n0 T3.heap := O0.keep K3 all0
  obtain ⟨_, T5, L5, X5, hQ5, st5⟩ := own_callS X3 hx (y := own_m21) hown (mvT hZ (wd hw 73 rfl)) (mvT hZ (wd hw 74 rfl)) (mvT hZ (wd hw 68 rfl)) (mvT hZ (wd hw 75 rfl)) (by decide) (backOf (W := 1) (rm_cdr_4 l Z a0 hw [] t3 kb3 [(.int (c0.toInt8.toInt32)), (.int (c1.toInt8.toInt32)), (.int (c2.toInt8.toInt32)), (.int (c3.toInt8.toInt32))] T3.heap n0 f4 fq3_0) hZ (wd hw 75 rfl) (wd hw 68 rfl) (by decide) (by decide)) (g := (mkF m 45 #[rv a, rv va, iv (0 : Int32), iv (4 : Int32), .val .null, rv t3] [(.int (4 : Int32)), (.ref t3), (.ref a)])) rfl (by rw [hml]; rfl) (argsL := [(.ref t3), (.int (4 : Int32))]) (rest := [(.ref a)]) (lenOf pd___BI_B rfl) rfl (by show 2 * 0 + _ ≤ _; exact Nat.le_of_eq rfl) (hb hby d4_45) rfl rfl (by decide) (by decide) (c' := 1) (s' := 4) rfl rfl
  obtain ⟨rfl, Nq5, eq5⟩ := hQ5
  have N5 := Fr.app N3 Nq5
  refine own_st (T' := T5) (g' := (mkF m 48 #[rv a, rv va, iv (0 : Int32), iv (4 : Int32), .val .null, rv t3] [(.int (0 : Int32)), (.ref a)])) st5 ?_
  clear st5
  have f6 : Exa Z T3.heap a "java/lang/String" := EA.keep K3
  have f7 : Fld Z T3.heap a "java/lang/String" "coder" "B" (.int (0 : Int32)) := FC.keep K3 nin0
  obtain ⟨T8, h8, X8, e8, W8, st8⟩ := putFN X5 hx hZ hown (wd hw 29 rfl) Via.refl eq5 f7 f6 (Or.inr ⟨(wd hw 25 rfl), rfl, hnm⟩) (wd hw 10 rfl) (ty := .byte) (v' := (.int (0 : Int32))) (by decide) rfl (by decide) (g := (mkF m 48 #[rv a, rv va, iv (0 : Int32), iv (4 : Int32), .val .null, rv t3] [(.int (0 : Int32)), (.ref a)])) rfl rfl (hb hby d4_48)
  have Fw8 : Fld Z h8 a "java/lang/String" "coder" "B" (.int (0 : Int32)) := Fld.same W8 f7
  have N8 := Fr.snoc X8 N5 fa
  refine own_st (T' := T8) (g' := (mkF m 51 #[rv a, rv va, iv (0 : Int32), iv (4 : Int32), .val .null, rv t3] [])) st8 ?_
  clear st8
  refine own_st (T' := T8) (g' := (mkF m 52 #[rv a, rv va, iv (0 : Int32), iv (4 : Int32), .val .null, rv t3] [(.ref a)])) (fun _ k_ => XS.aloadN X8.here hx rfl (hb hby d4_51) rfl rfl  k_) ?_
  refine own_st (T' := T8) (g' := (mkF m 54 #[rv a, rv va, iv (0 : Int32), iv (4 : Int32), .val .null, rv t3] [(.ref t3), (.ref a)])) (fun _ k_ => XS.aload X8.here hx rfl (hb hby d4_52) rfl rfl  k_) ?_
  have f9 : Exa Z h8 a "java/lang/String" := f6.wr W8
  have f10 : Fld Z T3.heap a "java/lang/String" "value" "[B" .null := FV.keep K3 nin0
  have f11 : Fld Z h8 a "java/lang/String" "value" "[B" .null := f10.other W8 (Or.inr (slot_ne (Or.inr (wd hw 24 rfl)) (Or.inr (wd hw 25 rfl)) (by decide) (t := (.array .byte)) (t' := .byte) (by decide) (by decide)))
  obtain ⟨T12, h12, X12, e12, W12, st12⟩ := putF X8 hx hZ hown (host := "") (Or.inl (wd hw 28 rfl)) Via.refl e8 f11 f9 (Or.inr ⟨(wd hw 24 rfl), rfl, hnm⟩) (wd hw 10 rfl) (ty := (.array .byte)) (by decide) rfl rfl (g := (mkF m 54 #[rv a, rv va, iv (0 : Int32), iv (4 : Int32), .val .null, rv t3] [(.ref t3), (.ref a)])) rfl rfl (hb hby d4_54)
  have Fw12 : Fld Z h12 a "java/lang/String" "value" "[B" (.ref t3) := Fld.same W12 f11
  have N12 := Fr.snoc X12 N8 fa
  refine own_st (T' := T12) (g' := (mkF m 57 #[rv a, rv va, iv (0 : Int32), iv (4 : Int32), .val .null, rv t3] [])) st12 ?_
  clear st12
  have f13 : Keep h0 T3.heap [a] := (Keep.refl h0 [a]).trans K3 all0
  have f14 : Keep h0 h8 [a] := f13.wr W8 (Or.inl (List.mem_of_getElem? (i := 0) rfl))
  have f15 : Keep h0 h12 [a] := f14.wr W12 (Or.inl (List.mem_of_getElem? (i := 0) rfl))
  have f16 : Exa Z h12 a "java/lang/String" := f9.wr W12
  have f17 : Fld Z h12 a "java/lang/String" "coder" "B" (.int (0 : Int32)) := Fw8.other W12 (Or.inr (slot_ne (Or.inr (wd hw 25 rfl)) (Or.inr (wd hw 24 rfl)) (by decide) (t := .byte) (t' := (.array .byte)) (by decide) (by decide)))
  have ne18 : a ≠ t3 := Nat.ne_of_lt (Nat.lt_of_lt_of_le EA.lt xq3_fresh_t)
  have f19 : Arv Z h8 t3 kb3 .byte (4 : Int32) [(.int (c0.toInt8.toInt32)), (.int (c1.toInt8.toInt32)), (.int (c2.toInt8.toInt32)), (.int (c3.toInt8.toInt32))] (.int (0 : Int32)) := fq3_0.other W8 (Ne.symm ne18)
  have f20 : Arv Z h12 t3 kb3 .byte (4 : Int32) [(.int (c0.toInt8.toInt32)), (.int (c1.toInt8.toInt32)), (.int (c2.toInt8.toInt32)), (.int (c3.toInt8.toInt32))] (.int (0 : Int32)) := f19.other W12 (Ne.symm ne18)
  exact own_retV X12 hx hret hlk (hb hby d4_57) (by decide) (by decide) (by rw [e12]; exact ⟨t3, kb3, rfl, N12, f15, f16, f17, Fw12, f20, (Nat.le_trans (Keep.refl h0 [a]).1 xq3_fresh_t)⟩)
theorem ef_ini1_4 (m : MethodId) (x0 : Addr) (x1 : Addr) : entryFrame m #[(.ref x0), (.ref x1)] 2 = mkF m 0 #[rv x0, rv x1] [] := by first | (simp [entryFrame, mkF, argsToLocals, Value.category]; done) | rfl
def Q_ini1_4 (Z : State) (a : Addr) (va : Addr) (kc : ClassId) (cz : Int32) (c0 : Int32) (c1 : Int32) (c2 : Int32) (c3 : Int32) (h0 : Heap) (n0 : Nat) (v : Option Value) (h : Heap) (L : List Loc) : Prop := ∃ (t : Addr) (kb : ClassId), (v = none) ∧ (Fr n0 L) ∧ (Keep h0 h [a]) ∧ (Exa Z h a "java/lang/String") ∧ (Fld Z h a "java/lang/String" "coder" "B" (.int (0 : Int32))) ∧ (Fld Z h a "java/lang/String" "value" "[B" (.ref t)) ∧ (Arv Z h t kb .byte (4 : Int32) [(.int (c0.toInt8.toInt32)), (.int (c1.toInt8.toInt32)), (.int (c2.toInt8.toInt32)), (.int (c3.toInt8.toInt32))] (.int (0 : Int32))) ∧ (h0.size ≤ t)
set_option maxRecDepth 65536 in
set_option maxHeartbeats 40000000 in
theorem rm_ini1_4 (l : Launch) (Z : State) (a0 : Array Value) (hw : ∀ d ∈ tables_1, d.before a0 Z = true) (ws : List Jvm.Cond) (a : Addr) (va : Addr) (kc : ClassId) (cz : Int32) (c0 : Int32) (c1 : Int32) (c2 : Int32) (c3 : Int32) (h0 : Heap) (n0 : Nat) (O0 : Old Z n0 h0) (EA : Exa Z h0 a "java/lang/String") (FV : Fld Z h0 a "java/lang/String" "value" "[B" .null) (FC : Fld Z h0 a "java/lang/String" "coder" "B" (.int (0 : Int32))) (fa : n0 ≤ a) (VA : Arv Z h0 va kc .char (4 : Int32) [(.int c0), (.int c1), (.int c2), (.int c3)] (.int (0 : Int32))) (SC : Sta Z Z.heap "java/lang/String" "COMPACT_STRINGS" "Z" (.int cz)) (hcz : ¬ cz = (0 : Int32)) (hp0 : ¬ (255 : Int32) < c0) (hp1 : ¬ (255 : Int32) < c1) (hp2 : ¬ (255 : Int32) < c2) (hp3 : ¬ (255 : Int32) < c3) :
    MetFree l own_m18 (head1 (Jvm.Cond.code own_m18 jdk_42_method_3_code 2 none :: ws) ({ frames := 3, cells := 4, slots := 8, locals := 52 } : Room)) (fun ar_ U => ar_ = #[(.ref a), (.ref va)] ∧ Z.Warmed39 U.vm ∧ U.heap = h0) (fun _ _ _ _ _ => True) (fun _ U o U' => ∃ v L, o = .returned v ∧ Q_ini1_4 Z a va kc cz c0 c1 c2 c3 h0 n0 v U'.heap L ∧ FrameEnd U o U' L ({ frames := 3, cells := 4, slots := 8, locals := 52 } : Room).cells ({ frames := 3, cells := 4, slots := 8, locals := 52 } : Room).slots) := by
  refine MetFree.of_bodySF (plainFor_of_name pn_0) hisR ?_
  intro p e s m args below meth c s₁ Bd hml0 hP hK
  obtain ⟨rfl, hZ, hh⟩ := hP
  have hx := Bd.exec
  have hby := Bd.bytes
  have hml : c.maxLocals = 2 := hml0
  have hown : s.vm.findClass "java/lang/String" = some m.cls := findClass_of_methodNamed Bd.named
  have hnm := (name_of_methodNamed Bd.named Bd.method).1
  have X0 : Stand p l e ({ frames := 3, cells := 4, slots := 8, locals := 52 } : Room) s m #[(.ref a), (.ref va)] below meth c s₁ [] 0 0 := Stand.of_body Bd
  have e0 : s₁.heap = h0 := by rw [← hh, Bd.state]; rfl
  have N0 := Fr.nil n0
  have hret := Bd.returns
  have hlk : meth.locks = false := Bd.notSynchronized
  show own_E p e below s ({ frames := 3, cells := 4, slots := 8, locals := 52 } : Room).cells ({ frames := 3, cells := 4, slots := 8, locals := 52 } : Room).slots (Q_ini1_4 Z a va kc cz c0 c1 c2 c3 h0 n0) s₁ (entryFrame m #[(.ref a), (.ref va)] 2)
  rw [ef_ini1_4 m a va]
  refine own_st (T' := s₁) (g' := (mkF m 1 #[rv a, rv va] [(.ref a)])) (fun _ k_ => XS.aloadN X0.here hx rfl (hb hby d3_0) rfl rfl  k_) ?_
  refine own_st (T' := s₁) (g' := (mkF m 2 #[rv a, rv va] [(.ref va), (.ref a)])) (fun _ k_ => XS.aloadN X0.here hx rfl (hb hby d3_1) rfl rfl  k_) ?_
  refine own_st (T' := s₁) (g' := (mkF m 3 #[rv a, rv va] [(.int (0 : Int32)), (.ref va), (.ref a)])) (fun _ k_ => XS.iconst X0.here hx rfl (hb hby d3_2) k_) ?_
  refine own_st (T' := s₁) (g' := (mkF m 4 #[rv a, rv va] [(.ref va), (.int (0 : Int32)), (.ref va), (.ref a)])) (fun _ k_ => XS.aloadN X0.here hx rfl (hb hby d3_3) rfl rfl  k_) ?_
  obtain ⟨cl1, Ar1, -, S1, N1, -, -⟩ := id VA
  refine own_st (T' := s₁) (g' := (mkF m 5 #[rv a, rv va] [(.int (4 : Int32)), (.int (0 : Int32)), (.ref va), (.ref a)])) (fun t_ k_ => X0.arraylength hx (by rw [e0]; exact Ar1.1) (State.isArrayOf_alike hZ.alike Ar1.2.1) (g := (mkF m 4 #[rv a, rv va] [(.ref va), (.int (0 : Int32)), (.ref va), (.ref a)])) rfl rfl (hb hby d3_4) _ (by rw [len_of S1 N1]; exact k_)) ?_
  refine own_st (T' := s₁) (g' := (mkF m 6 #[rv a, rv va] [.null, (.int (4 : Int32)), (.int (0 : Int32)), (.ref va), (.ref a)])) (fun _ k_ => XS.aconstNull X0.here hx rfl (hb hby d3_5) k_) ?_
  obtain ⟨_, T2, L2, X2, hQ2, st2⟩ := own_callI X0 hx (y := own_m17) rfl hown (mvT hZ (wd hw 15 rfl)) (mvT hZ (wd hw 16 rfl)) (mvT hZ (wd hw 18 rfl)) (by decide) (backOf (W := 0) (rm_ini4_4 l Z a0 hw [] a va kc cz c0 c1 c2 c3 h0 n0 O0 EA FV FC fa VA SC hcz hp0 hp1 hp2 hp3) hZ (wd hw 18 rfl) (wd hw 11 rfl) (by decide) (by decide)) (g := (mkF m 6 #[rv a, rv va] [.null, (.int (4 : Int32)), (.int (0 : Int32)), (.ref va), (.ref a)])) rfl (by rw [hml]; rfl) (a := a) (argsL := [(.ref va), (.int (0 : Int32)), (.int (4 : Int32)), .null]) (rest := []) (lenOf pd___CIILjava_lang_Void__V rfl) rfl (by show 2 * 0 + _ ≤ _; exact Nat.le_of_eq rfl) (hb hby d3_6) rfl e0 (by decide) (by decide) (c' := 1) (s' := 4) rfl rfl
  obtain ⟨t2, kb2, rfl, Nq2, K2, fq2_0, fq2_1, fq2_2, fq2_3, xq2_fresh_t⟩ := hQ2
  have N2 := Fr.app N0 Nq2
  refine own_st (T' := T2) (g' := (mkF m 9 #[rv a, rv va] [])) st2 ?_
  clear st2
  have f3 : Keep h0 T2.heap [a] := (Keep.refl h0 [a]).trans K2 (allS (Or.inl (List.mem_of_getElem? (i := 0) rfl)) all0)
  exact own_retV X2 hx hret hlk (hb hby d3_9) (by decide) (by decide) ⟨t2, kb2, rfl, N2, f3, fq2_0, fq2_1, fq2_2, fq2_3, (Nat.le_trans (Keep.refl h0 [a]).1 xq2_fresh_t)⟩
def own_wi (c : Int32) : Int32 := if own_wb c then 1 else 0
theorem own_wi32 {c : Int32} (h : c = 32) : own_wi c = 1 := by subst h; rfl
theorem own_wi9 {c : Int32} (h : c = 9) : own_wi c = 1 := by subst h; rfl
theorem own_wi0 {c : Int32} (h : ¬ c = 32) (q : ¬ c = 9) : own_wi c = 0 := by unfold own_wi own_wb; simp [h, q]
theorem own_wiF {c : Int32} (h : own_wi c = 0) : own_wb c = false := by
  unfold own_wi at h; cases q : own_wb c
  · rfl
  · rw [q] at h; cases h
theorem own_wiT {c : Int32} (h : ¬ own_wi c = 0) : own_wb c = true := by
  unfold own_wi at h; cases q : own_wb c
  · rw [q] at h; exact absurd rfl h
  · rfl
theorem own_ieE (cs : List Int32) (i : Nat) (h : i < cs.length) (hi : own_wb (cs.getD i 0) = false) (hl : ∀ j, i < j → j < cs.length → own_wb (cs.getD j 0) = true) : own_ie cs = i + 1 := by
  have a : ¬ i < own_is cs := fun q => by have := own_isA cs i q; rw [hi] at this; cases this
  have b := own_ieB cs (by omega)
  have c := own_ieL cs
  by_cases q : own_ie cs ≤ i
  · have := own_ieA cs i q h; rw [hi] at this; cases this
  · by_cases r : i < own_ie cs - 1
    · have := hl _ r (by omega); rw [b.2] at this; cases this
    · omega
theorem own_subg (cs : List Int32) (is le k : Nat) (h : k < le) (q : is + le ≤ cs.length) : (own_sub cs is (is + le)).getD k 0 = cs.getD (is + k) 0 := by
  unfold own_sub
  have r1 : k < is + le - is := by omega
  simp [List.getD_eq_getElem?_getD, List.getElem?_take, List.getElem?_drop, r1, h]
theorem own_rem5 (x : Int32) : (x &&& 2147483647) % 5 = 0 ∨ (x &&& 2147483647) % 5 = 1 ∨ (x &&& 2147483647) % 5 = 2 ∨ (x &&& 2147483647) % 5 = 3 ∨ (x &&& 2147483647) % 5 = 4 := by
  have k := own_rem x 5 5 (by decide) rfl
  have h : ((x &&& 2147483647) % 5).toInt = 0 ∨ ((x &&& 2147483647) % 5).toInt = 1 ∨ ((x &&& 2147483647) % 5).toInt = 2 ∨ ((x &&& 2147483647) % 5).toInt = 3 ∨ ((x &&& 2147483647) % 5).toInt = 4 := by omega
  rcases h with h | h | h | h | h
  · exact Or.inl (own_eqI h)
  · exact Or.inr (Or.inl (own_eqI h))
  · exact Or.inr (Or.inr (Or.inl (own_eqI h)))
  · exact Or.inr (Or.inr (Or.inr (Or.inl (own_eqI h))))
  · exact Or.inr (Or.inr (Or.inr (Or.inr (own_eqI h))))
theorem own_cR0 : ∀ c ∈ ([] : List Int32), ¬ c < 0 ∧ ¬ (255 : Int32) < c := fun _ q => nomatch q
theorem own_cRS {x : Int32} {r : List Int32} (h : ¬ x < 0 ∧ ¬ (255 : Int32) < x) (q : ∀ c ∈ r, ¬ c < 0 ∧ ¬ (255 : Int32) < c) : ∀ c ∈ x :: r, ¬ c < 0 ∧ ¬ (255 : Int32) < c := fun c m => (List.mem_cons.mp m).elim (fun z => z ▸ h) (q c)
theorem d1_0 : decode method_2_code 0 = .ok (.iload_n 0, 1) := by decide +kernel
theorem d1_1 : decode method_2_code 1 = .ok (.iconst 3, 1) := by decide +kernel
theorem d1_2 : decode method_2_code 2 = .ok (.iand, 1) := by decide +kernel
theorem d1_3 : decode method_2_code 3 = .ok (.istore_n 1, 1) := by decide +kernel
theorem d1_4 : decode method_2_code 4 = .ok (.iload_n 1, 1) := by decide +kernel
theorem d1_5 : decode method_2_code 5 = .ok (.ifCond .ne 6, 3) := by decide +kernel
theorem d1_8 : decode method_2_code 8 = .ok (.bipush 32, 2) := by decide +kernel
theorem d1_10 : decode method_2_code 10 = .ok (.ireturn, 1) := by decide +kernel
theorem d1_11 : decode method_2_code 11 = .ok (.iload_n 1, 1) := by decide +kernel
theorem d1_12 : decode method_2_code 12 = .ok (.iconst 1, 1) := by decide +kernel
theorem d1_13 : decode method_2_code 13 = .ok (.if_icmp .ne 6, 3) := by decide +kernel
theorem d1_16 : decode method_2_code 16 = .ok (.bipush 9, 2) := by decide +kernel
theorem d1_18 : decode method_2_code 18 = .ok (.ireturn, 1) := by decide +kernel
theorem d1_19 : decode method_2_code 19 = .ok (.iload_n 0, 1) := by decide +kernel
theorem d1_20 : decode method_2_code 20 = .ok (.iconst 2, 1) := by decide +kernel
theorem d1_21 : decode method_2_code 21 = .ok (.iushr, 1) := by decide +kernel
theorem d1_22 : decode method_2_code 22 = .ok (.sipush 255, 3) := by decide +kernel
theorem d1_25 : decode method_2_code 25 = .ok (.iand, 1) := by decide +kernel
theorem d1_26 : decode method_2_code 26 = .ok (.i2c, 1) := by decide +kernel
theorem d1_27 : decode method_2_code 27 = .ok (.ireturn, 1) := by decide +kernel
theorem pn_6 : plainName "com/example/sheafgate/sheafgate/http/RequestFieldsStripPinLaw" = true := by first | (simp [plainName, overriddenIn]; done) | decide +kernel
theorem ef_pick (m : MethodId) (x0 : Int32) : entryFrame m #[(.int x0)] 2 = mkF m 0 #[iv x0, .unset] [] := by first | (simp [entryFrame, mkF, argsToLocals, Value.category]; done) | rfl
def Q_pick (Z : State) (bits : Int32) (h0 : Heap) (n0 : Nat) (v : Option Value) (h : Heap) (L : List Loc) : Prop := ∃ (cc : Int32), (v = some (.int cc)) ∧ (Fr n0 L) ∧ (h = h0) ∧ (¬ cc < 0 ∧ ¬ (255 : Int32) < cc)
set_option maxRecDepth 65536 in
set_option maxHeartbeats 40000000 in
theorem rm_pick (l : Launch) (Z : State) (a0 : Array Value) (hw : ∀ d ∈ tables_1, d.before a0 Z = true) (ws : List Jvm.Cond) (bits : Int32) (h0 : Heap) (n0 : Nat) (O0 : Old Z n0 h0) :
    MetFree l own_m22 (head1 (Jvm.Cond.code own_m22 method_2_code 2 (some .char) :: ws) ({ frames := 0, cells := 0, slots := 0, locals := 0 } : Room)) (fun ar_ U => ar_ = #[(.int bits)] ∧ Z.Warmed39 U.vm ∧ U.heap = h0) (fun _ _ _ _ _ => True) (fun _ U o U' => ∃ v L, o = .returned v ∧ Q_pick Z bits h0 n0 v U'.heap L ∧ FrameEnd U o U' L ({ frames := 0, cells := 0, slots := 0, locals := 0 } : Room).cells ({ frames := 0, cells := 0, slots := 0, locals := 0 } : Room).slots) := by
  refine MetFree.of_bodySF (plainFor_of_name pn_6) hisR ?_
  intro p e s m args below meth c s₁ Bd hml0 hP hK
  obtain ⟨rfl, hZ, hh⟩ := hP
  have hx := Bd.exec
  have hby := Bd.bytes
  have hml : c.maxLocals = 2 := hml0
  have hown : s.vm.findClass "com/example/sheafgate/sheafgate/http/RequestFieldsStripPinLaw" = some m.cls := findClass_of_methodNamed Bd.named
  have hnm := (name_of_methodNamed Bd.named Bd.method).1
  have X0 : Stand p l e ({ frames := 0, cells := 0, slots := 0, locals := 0 } : Room) s m #[(.int bits)] below meth c s₁ [] 0 0 := Stand.of_body Bd
  have e0 : s₁.heap = h0 := by rw [← hh, Bd.state]; rfl
  have N0 := Fr.nil n0
  have hret := Bd.returns
  have hlk : meth.locks = false := Bd.notSynchronized
  show own_E p e below s ({ frames := 0, cells := 0, slots := 0, locals := 0 } : Room).cells ({ frames := 0, cells := 0, slots := 0, locals := 0 } : Room).slots (Q_pick Z bits h0 n0) s₁ (entryFrame m #[(.int bits)] 2)
  rw [ef_pick m bits]
  refine own_st (T' := s₁) (g' := (mkF m 1 #[iv bits, .unset] [(.int bits)])) (fun _ k_ => XS.iloadN X0.here hx rfl (hb hby d1_0) rfl  k_) ?_
  refine own_st (T' := s₁) (g' := (mkF m 2 #[iv bits, .unset] [(.int (3 : Int32)), (.int bits)])) (fun _ k_ => XS.iconst X0.here hx rfl (hb hby d1_1) k_) ?_
  refine own_st (T' := s₁) (g' := (mkF m 3 #[iv bits, .unset] [(.int (bits &&& (3 : Int32)))])) (fun _ k_ => XS.iand X0.here hx rfl (hb hby d1_2) rfl k_) ?_
  refine own_st (T' := s₁) (g' := (mkF m 4 #[iv bits, iv (bits &&& (3 : Int32))] [])) (fun _ k_ => XS.istoreN X0.here hx rfl (hb hby d1_3) rfl (l' := #[iv bits, iv (bits &&& (3 : Int32))]) rfl k_) ?_
  refine own_st (T' := s₁) (g' := (mkF m 5 #[iv bits, iv (bits &&& (3 : Int32))] [(.int (bits &&& (3 : Int32)))])) (fun _ k_ => XS.iloadN X0.here hx rfl (hb hby d1_4) rfl  k_) ?_
  by_cases hc1 : (bits &&& (3 : Int32)) = (0 : Int32)
  · refine own_st (T' := s₁) (g' := (mkF m 8 #[iv bits, iv (bits &&& (3 : Int32))] [])) (fun _ k_ => XS.ifNo X0.here hx rfl (hb hby d1_5) rfl ((if0 _ _).trans (teq hc1).2) k_) ?_
    refine own_st (T' := s₁) (g' := (mkF m 10 #[iv bits, iv (bits &&& (3 : Int32))] [(.int (32 : Int32))])) (fun _ k_ => XS.bipush X0.here hx rfl (hb hby d1_8) k_) ?_
    exact own_retN X0 hx (t := .char) hret (by simp) hlk (hb hby d1_10) (by decide) (by decide) ⟨32, rfl, N0, e0, by decide⟩
  · refine own_st (T' := s₁) (g' := (mkF m 11 #[iv bits, iv (bits &&& (3 : Int32))] [])) (fun _ k_ => XS.ifYes X0.here hx rfl (pc0 := 5) (pc' := 11) rfl (hb hby d1_5) rfl ((if0 _ _).trans (feq hc1).2) (by decide) (by decide) k_) ?_
    refine own_st (T' := s₁) (g' := (mkF m 12 #[iv bits, iv (bits &&& (3 : Int32))] [(.int (bits &&& (3 : Int32)))])) (fun _ k_ => XS.iloadN X0.here hx rfl (hb hby d1_11) rfl  k_) ?_
    refine own_st (T' := s₁) (g' := (mkF m 13 #[iv bits, iv (bits &&& (3 : Int32))] [(.int (1 : Int32)), (.int (bits &&& (3 : Int32)))])) (fun _ k_ => XS.iconst X0.here hx rfl (hb hby d1_12) k_) ?_
    by_cases hc2 : (bits &&& (3 : Int32)) = (1 : Int32)
    · refine own_st (T' := s₁) (g' := (mkF m 16 #[iv bits, iv (bits &&& (3 : Int32))] [])) (fun _ k_ => XS.icmpNo X0.here hx rfl (hb hby d1_13) rfl (teq hc2).2 k_) ?_
      refine own_st (T' := s₁) (g' := (mkF m 18 #[iv bits, iv (bits &&& (3 : Int32))] [(.int (9 : Int32))])) (fun _ k_ => XS.bipush X0.here hx rfl (hb hby d1_16) k_) ?_
      exact own_retN X0 hx (t := .char) hret (by simp) hlk (hb hby d1_18) (by decide) (by decide) ⟨9, rfl, N0, e0, by decide⟩
    · refine own_st (T' := s₁) (g' := (mkF m 19 #[iv bits, iv (bits &&& (3 : Int32))] [])) (fun _ k_ => XS.icmpYes X0.here hx rfl (pc0 := 13) (pc' := 19) rfl (hb hby d1_13) rfl (feq hc2).2 (by decide) (by decide) k_) ?_
      refine own_st (T' := s₁) (g' := (mkF m 20 #[iv bits, iv (bits &&& (3 : Int32))] [(.int bits)])) (fun _ k_ => XS.iloadN X0.here hx rfl (hb hby d1_19) rfl  k_) ?_
      refine own_st (T' := s₁) (g' := (mkF m 21 #[iv bits, iv (bits &&& (3 : Int32))] [(.int (2 : Int32)), (.int bits)])) (fun _ k_ => XS.iconst X0.here hx rfl (hb hby d1_20) k_) ?_
      refine own_st (T' := s₁) (g' := (mkF m 22 #[iv bits, iv (bits &&& (3 : Int32))] [(.int ((bits.toUInt32 >>> ((2 : Int32) &&& 31).toUInt32).toInt32))])) (fun _ k_ => XS.iushr X0.here hx rfl (hb hby d1_21) rfl k_) ?_
      refine own_st (T' := s₁) (g' := (mkF m 25 #[iv bits, iv (bits &&& (3 : Int32))] [(.int (255 : Int32)), (.int ((bits.toUInt32 >>> ((2 : Int32) &&& 31).toUInt32).toInt32))])) (fun _ k_ => XS.sipush X0.here hx rfl (hb hby d1_22) k_) ?_
      refine own_st (T' := s₁) (g' := (mkF m 26 #[iv bits, iv (bits &&& (3 : Int32))] [(.int (((bits.toUInt32 >>> ((2 : Int32) &&& 31).toUInt32).toInt32) &&& (255 : Int32)))])) (fun _ k_ => XS.iand X0.here hx rfl (hb hby d1_25) rfl k_) ?_
      refine own_st (T' := s₁) (g' := (mkF m 27 #[iv bits, iv (bits &&& (3 : Int32))] [(.int ((((bits.toUInt32 >>> ((2 : Int32) &&& 31).toUInt32).toInt32) &&& (255 : Int32)).toUInt32.toUInt16.toUInt32.toInt32))])) (fun _ k_ => XS.i2c X0.here hx rfl (hb hby d1_26) rfl k_) ?_
      exact own_retN X0 hx (t := .char) hret (by simp) hlk (hb hby d1_27) (by decide) (by decide) ⟨_, congrArg (fun z => some (Value.int z)) (own_nc _), N0, e0, own_r255 _⟩
theorem d12_0 : decode method_3_code 0 = .ok (.iload_n 0, 1) := by decide +kernel
theorem d12_1 : decode method_3_code 1 = .ok (.bipush 32, 2) := by decide +kernel
theorem d12_3 : decode method_3_code 3 = .ok (.if_icmp .eq 9, 3) := by decide +kernel
theorem d12_6 : decode method_3_code 6 = .ok (.iload_n 0, 1) := by decide +kernel
theorem d12_7 : decode method_3_code 7 = .ok (.bipush 9, 2) := by decide +kernel
theorem d12_9 : decode method_3_code 9 = .ok (.if_icmp .ne 7, 3) := by decide +kernel
theorem d12_12 : decode method_3_code 12 = .ok (.iconst 1, 1) := by decide +kernel
theorem d12_13 : decode method_3_code 13 = .ok (.goto 4, 3) := by decide +kernel
theorem d12_16 : decode method_3_code 16 = .ok (.iconst 0, 1) := by decide +kernel
theorem d12_17 : decode method_3_code 17 = .ok (.ireturn, 1) := by decide +kernel
theorem ef_ws (m : MethodId) (x0 : Int32) : entryFrame m #[(.int x0)] 1 = mkF m 0 #[iv x0] [] := by first | (simp [entryFrame, mkF, argsToLocals, Value.category]; done) | rfl
def Q_ws (Z : State) (cc : Int32) (h0 : Heap) (n0 : Nat) (v : Option Value) (h : Heap) (L : List Loc) : Prop := (v = some (.int (own_wi cc))) ∧ (Fr n0 L) ∧ (h = h0)
set_option maxRecDepth 65536 in
set_option maxHeartbeats 40000000 in
theorem rm_ws (l : Launch) (Z : State) (a0 : Array Value) (hw : ∀ d ∈ tables_1, d.before a0 Z = true) (ws : List Jvm.Cond) (cc : Int32) (h0 : Heap) (n0 : Nat) (O0 : Old Z n0 h0) :
    MetFree l own_m23 (head1 (Jvm.Cond.code own_m23 method_3_code 1 (some .boolean) :: ws) ({ frames := 0, cells := 0, slots := 0, locals := 0 } : Room)) (fun ar_ U => ar_ = #[(.int cc)] ∧ Z.Warmed39 U.vm ∧ U.heap = h0) (fun _ _ _ _ _ => True) (fun _ U o U' => ∃ v L, o = .returned v ∧ Q_ws Z cc h0 n0 v U'.heap L ∧ FrameEnd U o U' L ({ frames := 0, cells := 0, slots := 0, locals := 0 } : Room).cells ({ frames := 0, cells := 0, slots := 0, locals := 0 } : Room).slots) := by
  refine MetFree.of_bodySF (plainFor_of_name pn_6) hisR ?_
  intro p e s m args below meth c s₁ Bd hml0 hP hK
  obtain ⟨rfl, hZ, hh⟩ := hP
  have hx := Bd.exec
  have hby := Bd.bytes
  have hml : c.maxLocals = 1 := hml0
  have hown : s.vm.findClass "com/example/sheafgate/sheafgate/http/RequestFieldsStripPinLaw" = some m.cls := findClass_of_methodNamed Bd.named
  have hnm := (name_of_methodNamed Bd.named Bd.method).1
  have X0 : Stand p l e ({ frames := 0, cells := 0, slots := 0, locals := 0 } : Room) s m #[(.int cc)] below meth c s₁ [] 0 0 := Stand.of_body Bd
  have e0 : s₁.heap = h0 := by rw [← hh, Bd.state]; rfl
  have N0 := Fr.nil n0
  have hret := Bd.returns
  have hlk : meth.locks = false := Bd.notSynchronized
  show own_E p e below s ({ frames := 0, cells := 0, slots := 0, locals := 0 } : Room).cells ({ frames := 0, cells := 0, slots := 0, locals := 0 } : Room).slots (Q_ws Z cc h0 n0) s₁ (entryFrame m #[(.int cc)] 1)
  rw [ef_ws m cc]
  refine own_st (T' := s₁) (g' := (mkF m 1 #[iv cc] [(.int cc)])) (fun _ k_ => XS.iloadN X0.here hx rfl (hb hby d12_0) rfl  k_) ?_
  refine own_st (T' := s₁) (g' := (mkF m 3 #[iv cc] [(.int (32 : Int32)), (.int cc)])) (fun _ k_ => XS.bipush X0.here hx rfl (hb hby d12_1) k_) ?_
  by_cases hc1 : cc = (32 : Int32)
  · refine own_st (T' := s₁) (g' := (mkF m 12 #[iv cc] [])) (fun _ k_ => XS.icmpYes X0.here hx rfl (pc0 := 3) (pc' := 12) rfl (hb hby d12_3) rfl (teq hc1).1 (by decide) (by decide) k_) ?_
    refine own_st (T' := s₁) (g' := (mkF m 13 #[iv cc] [(.int (1 : Int32))])) (fun _ k_ => XS.iconst X0.here hx rfl (hb hby d12_12) k_) ?_
    refine own_st (T' := s₁) (g' := (mkF m 17 #[iv cc] [(.int (1 : Int32))])) (fun _ k_ => XS.goto X0.here hx rfl (pc0 := 13) (pc' := 17) rfl (hb hby d12_13) (by decide) (by decide) k_) ?_
    exact own_retN X0 hx (t := .boolean) hret (by simp) hlk (hb hby d12_17) (by decide) (by decide) ⟨congrArg (fun z => some (Value.int z)) (own_wi32 hc1).symm, N0, e0⟩
  · refine own_st (T' := s₁) (g' := (mkF m 6 #[iv cc] [])) (fun _ k_ => XS.icmpNo X0.here hx rfl (hb hby d12_3) rfl (feq hc1).1 k_) ?_
    refine own_st (T' := s₁) (g' := (mkF m 7 #[iv cc] [(.int cc)])) (fun _ k_ => XS.iloadN X0.here hx rfl (hb hby d12_6) rfl  k_) ?_
    refine own_st (T' := s₁) (g' := (mkF m 9 #[iv cc] [(.int (9 : Int32)), (.int cc)])) (fun _ k_ => XS.bipush X0.here hx rfl (hb hby d12_7) k_) ?_
    by_cases hc2 : cc = (9 : Int32)
    · refine own_st (T' := s₁) (g' := (mkF m 12 #[iv cc] [])) (fun _ k_ => XS.icmpNo X0.here hx rfl (hb hby d12_9) rfl (teq hc2).2 k_) ?_
      refine own_st (T' := s₁) (g' := (mkF m 13 #[iv cc] [(.int (1 : Int32))])) (fun _ k_ => XS.iconst X0.here hx rfl (hb hby d12_12) k_) ?_
      refine own_st (T' := s₁) (g' := (mkF m 17 #[iv cc] [(.int (1 : Int32))])) (fun _ k_ => XS.goto X0.here hx rfl (pc0 := 13) (pc' := 17) rfl (hb hby d12_13) (by decide) (by decide) k_) ?_
      exact own_retN X0 hx (t := .boolean) hret (by simp) hlk (hb hby d12_17) (by decide) (by decide) ⟨congrArg (fun z => some (Value.int z)) (own_wi9 hc2).symm, N0, e0⟩
    · refine own_st (T' := s₁) (g' := (mkF m 16 #[iv cc] [])) (fun _ k_ => XS.icmpYes X0.here hx rfl (pc0 := 9) (pc' := 16) rfl (hb hby d12_9) rfl (feq hc2).2 (by decide) (by decide) k_) ?_
      refine own_st (T' := s₁) (g' := (mkF m 17 #[iv cc] [(.int (0 : Int32))])) (fun _ k_ => XS.iconst X0.here hx rfl (hb hby d12_16) k_) ?_
      exact own_retN X0 hx (t := .boolean) hret (by simp) hlk (hb hby d12_17) (by decide) (by decide) ⟨congrArg (fun z => some (Value.int z)) (own_wi0 hc1 hc2).symm, N0, e0⟩
theorem d2_0 : decode method_4_code 0 = .ok (.iload_n 0, 1) := by decide +kernel
theorem d2_1 : decode method_4_code 1 = .ok (.ifCond .ne 7, 3) := by decide +kernel
theorem d2_4 : decode method_4_code 4 = .ok (.iconst 0, 1) := by decide +kernel
theorem d2_5 : decode method_4_code 5 = .ok (.newarray .char, 2) := by decide +kernel
theorem d2_7 : decode method_4_code 7 = .ok (.areturn, 1) := by decide +kernel
theorem ef_make0 (m : MethodId) (x0 : Int32) : entryFrame m #[(.int x0)] 1 = mkF m 0 #[iv x0] [] := by first | (simp [entryFrame, mkF, argsToLocals, Value.category]; done) | rfl
def Q_make0 (Z : State)  (h0 : Heap) (n0 : Nat) (v : Option Value) (h : Heap) (L : List Loc) : Prop := ∃ (va : Addr) (kc : ClassId), (v = some (.ref va)) ∧ (Fr n0 L) ∧ (Keep h0 h []) ∧ (Arv Z h va kc .char (0 : Int32) [] (.int (0 : Int32))) ∧ (h0.size ≤ va)
set_option maxRecDepth 65536 in
set_option maxHeartbeats 40000000 in
theorem rm_make0 (l : Launch) (Z : State) (a0 : Array Value) (hw : ∀ d ∈ tables_1, d.before a0 Z = true) (ws : List Jvm.Cond)  (h0 : Heap) (n0 : Nat) (O0 : Old Z n0 h0) :
    MetFree l own_m24 (head1 (Jvm.Cond.code own_m24 method_4_code 1 (some (.array .char)) :: ws) ({ frames := 0, cells := 1, slots := 4, locals := 0 } : Room)) (fun ar_ U => ar_ = #[(.int (0 : Int32))] ∧ Z.Warmed39 U.vm ∧ U.heap = h0) (fun _ _ _ _ _ => True) (fun _ U o U' => ∃ v L, o = .returned v ∧ Q_make0 Z  h0 n0 v U'.heap L ∧ FrameEnd U o U' L ({ frames := 0, cells := 1, slots := 4, locals := 0 } : Room).cells ({ frames := 0, cells := 1, slots := 4, locals := 0 } : Room).slots) := by
  refine MetFree.of_bodySF (plainFor_of_name pn_6) hisR ?_
  intro p e s m args below meth c s₁ Bd hml0 hP hK
  obtain ⟨rfl, hZ, hh⟩ := hP
  have hx := Bd.exec
  have hby := Bd.bytes
  have hml : c.maxLocals = 1 := hml0
  have hown : s.vm.findClass "com/example/sheafgate/sheafgate/http/RequestFieldsStripPinLaw" = some m.cls := findClass_of_methodNamed Bd.named
  have hnm := (name_of_methodNamed Bd.named Bd.method).1
  have X0 : Stand p l e ({ frames := 0, cells := 1, slots := 4, locals := 0 } : Room) s m #[(.int (0 : Int32))] below meth c s₁ [] 0 0 := Stand.of_body Bd
  have e0 : s₁.heap = h0 := by rw [← hh, Bd.state]; rfl
  have N0 := Fr.nil n0
  have hret := Bd.returns
  have hlk : meth.locks = false := Bd.notSynchronized
  show own_E p e below s ({ frames := 0, cells := 1, slots := 4, locals := 0 } : Room).cells ({ frames := 0, cells := 1, slots := 4, locals := 0 } : Room).slots (Q_make0 Z  h0 n0) s₁ (entryFrame m #[(.int (0 : Int32))] 1)
  rw [ef_make0 m (0 : Int32)]
  refine own_st (T' := s₁) (g' := (mkF m 1 #[iv (0 : Int32)] [(.int (0 : Int32))])) (fun _ k_ => XS.iloadN X0.here hx rfl (hb hby d2_0) rfl  k_) ?_
  refine own_st (T' := s₁) (g' := (mkF m 4 #[iv (0 : Int32)] [])) (fun _ k_ => XS.ifNo X0.here hx rfl (hb hby d2_1) rfl ((if0 _ _).trans (teq (rfl : (0 : Int32) = (0 : Int32))).2) k_) ?_
  refine own_st (T' := s₁) (g' := (mkF m 5 #[iv (0 : Int32)] [(.int (0 : Int32))])) (fun _ k_ => XS.iconst X0.here hx rfl (hb hby d2_4) k_) ?_
  obtain ⟨T1, h1, k1, X1, e1, E1, A1, st1⟩ := newP X0 hx hZ (wd hw 8 rfl) e0 (g := (mkF m 5 #[iv (0 : Int32)] [(.int (0 : Int32))])) rfl (hb hby d2_5) rfl (by decide) (cap := 0) (by decide) (by decide) (by decide) (by decide)
  obtain ⟨b1, g1⟩ : ∃ z, z = h0.size := ⟨_, rfl⟩
  rw [← g1] at A1 st1
  have fr1 : n0 ≤ b1 := Nat.le_trans (own_z O0) (Nat.le_of_eq g1.symm)
  have sz1 : h0.size ≤ b1 := Nat.le_trans (Keep.refl h0 []).1 (Nat.le_of_eq g1.symm)
  have V1 : Arv Z h1 b1 k1 .char (0 : Int32) [] (.int (0 : Int32)) := Arv.new A1 (by decide)
  refine own_st (T' := T1) (g' := (mkF m 7 #[iv (0 : Int32)] [(.ref b1)])) st1 ?_
  clear st1
  have f2 : Keep h0 h1 [] := (Keep.refl h0 []).ext E1
  exact own_retA X1 hx hret rfl rfl hlk (hb hby d2_7) (by decide) (by decide) (by rw [e1]; exact ⟨b1, k1, rfl, N0, f2, V1, sz1⟩)
theorem d2_8 : decode method_4_code 8 = .ok (.iload_n 0, 1) := by decide +kernel
theorem d2_9 : decode method_4_code 9 = .ok (.iconst 1, 1) := by decide +kernel
theorem d2_10 : decode method_4_code 10 = .ok (.if_icmp .ne 7, 3) := by decide +kernel
theorem d2_13 : decode method_4_code 13 = .ok (.iconst 1, 1) := by decide +kernel
theorem d2_14 : decode method_4_code 14 = .ok (.newarray .char, 2) := by decide +kernel
theorem d2_16 : decode method_4_code 16 = .ok (.areturn, 1) := by decide +kernel
theorem ef_make1 (m : MethodId) (x0 : Int32) : entryFrame m #[(.int x0)] 1 = mkF m 0 #[iv x0] [] := by first | (simp [entryFrame, mkF, argsToLocals, Value.category]; done) | rfl
def Q_make1 (Z : State)  (h0 : Heap) (n0 : Nat) (v : Option Value) (h : Heap) (L : List Loc) : Prop := ∃ (va : Addr) (kc : ClassId), (v = some (.ref va)) ∧ (Fr n0 L) ∧ (Keep h0 h []) ∧ (Arv Z h va kc .char (1 : Int32) [(.int (0 : Int32))] (.int (0 : Int32))) ∧ (h0.size ≤ va)
set_option maxRecDepth 65536 in
set_option maxHeartbeats 40000000 in
theorem rm_make1 (l : Launch) (Z : State) (a0 : Array Value) (hw : ∀ d ∈ tables_1, d.before a0 Z = true) (ws : List Jvm.Cond)  (h0 : Heap) (n0 : Nat) (O0 : Old Z n0 h0) :
    MetFree l own_m24 (head1 (Jvm.Cond.code own_m24 method_4_code 1 (some (.array .char)) :: ws) ({ frames := 0, cells := 1, slots := 4, locals := 0 } : Room)) (fun ar_ U => ar_ = #[(.int (1 : Int32))] ∧ Z.Warmed39 U.vm ∧ U.heap = h0) (fun _ _ _ _ _ => True) (fun _ U o U' => ∃ v L, o = .returned v ∧ Q_make1 Z  h0 n0 v U'.heap L ∧ FrameEnd U o U' L ({ frames := 0, cells := 1, slots := 4, locals := 0 } : Room).cells ({ frames := 0, cells := 1, slots := 4, locals := 0 } : Room).slots) := by
  refine MetFree.of_bodySF (plainFor_of_name pn_6) hisR ?_
  intro p e s m args below meth c s₁ Bd hml0 hP hK
  obtain ⟨rfl, hZ, hh⟩ := hP
  have hx := Bd.exec
  have hby := Bd.bytes
  have hml : c.maxLocals = 1 := hml0
  have hown : s.vm.findClass "com/example/sheafgate/sheafgate/http/RequestFieldsStripPinLaw" = some m.cls := findClass_of_methodNamed Bd.named
  have hnm := (name_of_methodNamed Bd.named Bd.method).1
  have X0 : Stand p l e ({ frames := 0, cells := 1, slots := 4, locals := 0 } : Room) s m #[(.int (1 : Int32))] below meth c s₁ [] 0 0 := Stand.of_body Bd
  have e0 : s₁.heap = h0 := by rw [← hh, Bd.state]; rfl
  have N0 := Fr.nil n0
  have hret := Bd.returns
  have hlk : meth.locks = false := Bd.notSynchronized
  show own_E p e below s ({ frames := 0, cells := 1, slots := 4, locals := 0 } : Room).cells ({ frames := 0, cells := 1, slots := 4, locals := 0 } : Room).slots (Q_make1 Z  h0 n0) s₁ (entryFrame m #[(.int (1 : Int32))] 1)
  rw [ef_make1 m (1 : Int32)]
  refine own_st (T' := s₁) (g' := (mkF m 1 #[iv (1 : Int32)] [(.int (1 : Int32))])) (fun _ k_ => XS.iloadN X0.here hx rfl (hb hby d2_0) rfl  k_) ?_
  refine own_st (T' := s₁) (g' := (mkF m 8 #[iv (1 : Int32)] [])) (fun _ k_ => XS.ifYes X0.here hx rfl (pc0 := 1) (pc' := 8) rfl (hb hby d2_1) rfl ((if0 _ _).trans (feq (by decide : ¬ ((1 : Int32) = (0 : Int32)))).2) (by decide) (by decide) k_) ?_
  refine own_st (T' := s₁) (g' := (mkF m 9 #[iv (1 : Int32)] [(.int (1 : Int32))])) (fun _ k_ => XS.iloadN X0.here hx rfl (hb hby d2_8) rfl  k_) ?_
  refine own_st (T' := s₁) (g' := (mkF m 10 #[iv (1 : Int32)] [(.int (1 : Int32)), (.int (1 : Int32))])) (fun _ k_ => XS.iconst X0.here hx rfl (hb hby d2_9) k_) ?_
  refine own_st (T' := s₁) (g' := (mkF m 13 #[iv (1 : Int32)] [])) (fun _ k_ => XS.icmpNo X0.here hx rfl (hb hby d2_10) rfl (teq (rfl : (1 : Int32) = (1 : Int32))).2 k_) ?_
  refine own_st (T' := s₁) (g' := (mkF m 14 #[iv (1 : Int32)] [(.int (1 : Int32))])) (fun _ k_ => XS.iconst X0.here hx rfl (hb hby d2_13) k_) ?_
  obtain ⟨T1, h1, k1, X1, e1, E1, A1, st1⟩ := newP X0 hx hZ (wd hw 8 rfl) e0 (g := (mkF m 14 #[iv (1 : Int32)] [(.int (1 : Int32))])) rfl (hb hby d2_14) rfl (by decide) (cap := 1) (by decide) (by decide) (by decide) (by decide)
  obtain ⟨b1, g1⟩ : ∃ z, z = h0.size := ⟨_, rfl⟩
  rw [← g1] at A1 st1
  have fr1 : n0 ≤ b1 := Nat.le_trans (own_z O0) (Nat.le_of_eq g1.symm)
  have sz1 : h0.size ≤ b1 := Nat.le_trans (Keep.refl h0 []).1 (Nat.le_of_eq g1.symm)
  have V1 : Arv Z h1 b1 k1 .char (1 : Int32) [(.int (0 : Int32))] (.int (0 : Int32)) := (Arv.new A1 (by decide)).pad (pad_rep [] (.int (0 : Int32)) 1)
  refine own_st (T' := T1) (g' := (mkF m 16 #[iv (1 : Int32)] [(.ref b1)])) st1 ?_
  clear st1
  have f2 : Keep h0 h1 [] := (Keep.refl h0 []).ext E1
  exact own_retA X1 hx hret rfl rfl hlk (hb hby d2_16) (by decide) (by decide) (by rw [e1]; exact ⟨b1, k1, rfl, N0, f2, V1, sz1⟩)
theorem d2_17 : decode method_4_code 17 = .ok (.iload_n 0, 1) := by decide +kernel
theorem d2_18 : decode method_4_code 18 = .ok (.iconst 2, 1) := by decide +kernel
theorem d2_19 : decode method_4_code 19 = .ok (.if_icmp .ne 7, 3) := by decide +kernel
theorem d2_22 : decode method_4_code 22 = .ok (.iconst 2, 1) := by decide +kernel
theorem d2_23 : decode method_4_code 23 = .ok (.newarray .char, 2) := by decide +kernel
theorem d2_25 : decode method_4_code 25 = .ok (.areturn, 1) := by decide +kernel
theorem ef_make2 (m : MethodId) (x0 : Int32) : entryFrame m #[(.int x0)] 1 = mkF m 0 #[iv x0] [] := by first | (simp [entryFrame, mkF, argsToLocals, Value.category]; done) | rfl
def Q_make2 (Z : State)  (h0 : Heap) (n0 : Nat) (v : Option Value) (h : Heap) (L : List Loc) : Prop := ∃ (va : Addr) (kc : ClassId), (v = some (.ref va)) ∧ (Fr n0 L) ∧ (Keep h0 h []) ∧ (Arv Z h va kc .char (2 : Int32) [(.int (0 : Int32)), (.int (0 : Int32))] (.int (0 : Int32))) ∧ (h0.size ≤ va)
set_option maxRecDepth 65536 in
set_option maxHeartbeats 40000000 in
theorem rm_make2 (l : Launch) (Z : State) (a0 : Array Value) (hw : ∀ d ∈ tables_1, d.before a0 Z = true) (ws : List Jvm.Cond)  (h0 : Heap) (n0 : Nat) (O0 : Old Z n0 h0) :
    MetFree l own_m24 (head1 (Jvm.Cond.code own_m24 method_4_code 1 (some (.array .char)) :: ws) ({ frames := 0, cells := 1, slots := 4, locals := 0 } : Room)) (fun ar_ U => ar_ = #[(.int (2 : Int32))] ∧ Z.Warmed39 U.vm ∧ U.heap = h0) (fun _ _ _ _ _ => True) (fun _ U o U' => ∃ v L, o = .returned v ∧ Q_make2 Z  h0 n0 v U'.heap L ∧ FrameEnd U o U' L ({ frames := 0, cells := 1, slots := 4, locals := 0 } : Room).cells ({ frames := 0, cells := 1, slots := 4, locals := 0 } : Room).slots) := by
  refine MetFree.of_bodySF (plainFor_of_name pn_6) hisR ?_
  intro p e s m args below meth c s₁ Bd hml0 hP hK
  obtain ⟨rfl, hZ, hh⟩ := hP
  have hx := Bd.exec
  have hby := Bd.bytes
  have hml : c.maxLocals = 1 := hml0
  have hown : s.vm.findClass "com/example/sheafgate/sheafgate/http/RequestFieldsStripPinLaw" = some m.cls := findClass_of_methodNamed Bd.named
  have hnm := (name_of_methodNamed Bd.named Bd.method).1
  have X0 : Stand p l e ({ frames := 0, cells := 1, slots := 4, locals := 0 } : Room) s m #[(.int (2 : Int32))] below meth c s₁ [] 0 0 := Stand.of_body Bd
  have e0 : s₁.heap = h0 := by rw [← hh, Bd.state]; rfl
  have N0 := Fr.nil n0
  have hret := Bd.returns
  have hlk : meth.locks = false := Bd.notSynchronized
  show own_E p e below s ({ frames := 0, cells := 1, slots := 4, locals := 0 } : Room).cells ({ frames := 0, cells := 1, slots := 4, locals := 0 } : Room).slots (Q_make2 Z  h0 n0) s₁ (entryFrame m #[(.int (2 : Int32))] 1)
  rw [ef_make2 m (2 : Int32)]
  refine own_st (T' := s₁) (g' := (mkF m 1 #[iv (2 : Int32)] [(.int (2 : Int32))])) (fun _ k_ => XS.iloadN X0.here hx rfl (hb hby d2_0) rfl  k_) ?_
  refine own_st (T' := s₁) (g' := (mkF m 8 #[iv (2 : Int32)] [])) (fun _ k_ => XS.ifYes X0.here hx rfl (pc0 := 1) (pc' := 8) rfl (hb hby d2_1) rfl ((if0 _ _).trans (feq (by decide : ¬ ((2 : Int32) = (0 : Int32)))).2) (by decide) (by decide) k_) ?_
  refine own_st (T' := s₁) (g' := (mkF m 9 #[iv (2 : Int32)] [(.int (2 : Int32))])) (fun _ k_ => XS.iloadN X0.here hx rfl (hb hby d2_8) rfl  k_) ?_
  refine own_st (T' := s₁) (g' := (mkF m 10 #[iv (2 : Int32)] [(.int (1 : Int32)), (.int (2 : Int32))])) (fun _ k_ => XS.iconst X0.here hx rfl (hb hby d2_9) k_) ?_
  refine own_st (T' := s₁) (g' := (mkF m 17 #[iv (2 : Int32)] [])) (fun _ k_ => XS.icmpYes X0.here hx rfl (pc0 := 10) (pc' := 17) rfl (hb hby d2_10) rfl (feq (by decide : ¬ ((2 : Int32) = (1 : Int32)))).2 (by decide) (by decide) k_) ?_
  refine own_st (T' := s₁) (g' := (mkF m 18 #[iv (2 : Int32)] [(.int (2 : Int32))])) (fun _ k_ => XS.iloadN X0.here hx rfl (hb hby d2_17) rfl  k_) ?_
  refine own_st (T' := s₁) (g' := (mkF m 19 #[iv (2 : Int32)] [(.int (2 : Int32)), (.int (2 : Int32))])) (fun _ k_ => XS.iconst X0.here hx rfl (hb hby d2_18) k_) ?_
  refine own_st (T' := s₁) (g' := (mkF m 22 #[iv (2 : Int32)] [])) (fun _ k_ => XS.icmpNo X0.here hx rfl (hb hby d2_19) rfl (teq (rfl : (2 : Int32) = (2 : Int32))).2 k_) ?_
  refine own_st (T' := s₁) (g' := (mkF m 23 #[iv (2 : Int32)] [(.int (2 : Int32))])) (fun _ k_ => XS.iconst X0.here hx rfl (hb hby d2_22) k_) ?_
  obtain ⟨T1, h1, k1, X1, e1, E1, A1, st1⟩ := newP X0 hx hZ (wd hw 8 rfl) e0 (g := (mkF m 23 #[iv (2 : Int32)] [(.int (2 : Int32))])) rfl (hb hby d2_23) rfl (by decide) (cap := 2) (by decide) (by decide) (by decide) (by decide)
  obtain ⟨b1, g1⟩ : ∃ z, z = h0.size := ⟨_, rfl⟩
  rw [← g1] at A1 st1
  have fr1 : n0 ≤ b1 := Nat.le_trans (own_z O0) (Nat.le_of_eq g1.symm)
  have sz1 : h0.size ≤ b1 := Nat.le_trans (Keep.refl h0 []).1 (Nat.le_of_eq g1.symm)
  have V1 : Arv Z h1 b1 k1 .char (2 : Int32) [(.int (0 : Int32)), (.int (0 : Int32))] (.int (0 : Int32)) := (Arv.new A1 (by decide)).pad (pad_rep [] (.int (0 : Int32)) 2)
  refine own_st (T' := T1) (g' := (mkF m 25 #[iv (2 : Int32)] [(.ref b1)])) st1 ?_
  clear st1
  have f2 : Keep h0 h1 [] := (Keep.refl h0 []).ext E1
  exact own_retA X1 hx hret rfl rfl hlk (hb hby d2_25) (by decide) (by decide) (by rw [e1]; exact ⟨b1, k1, rfl, N0, f2, V1, sz1⟩)
theorem d2_26 : decode method_4_code 26 = .ok (.iload_n 0, 1) := by decide +kernel
theorem d2_27 : decode method_4_code 27 = .ok (.iconst 3, 1) := by decide +kernel
theorem d2_28 : decode method_4_code 28 = .ok (.if_icmp .ne 7, 3) := by decide +kernel
theorem d2_31 : decode method_4_code 31 = .ok (.iconst 3, 1) := by decide +kernel
theorem d2_32 : decode method_4_code 32 = .ok (.newarray .char, 2) := by decide +kernel
theorem d2_34 : decode method_4_code 34 = .ok (.areturn, 1) := by decide +kernel
theorem ef_make3 (m : MethodId) (x0 : Int32) : entryFrame m #[(.int x0)] 1 = mkF m 0 #[iv x0] [] := by first | (simp [entryFrame, mkF, argsToLocals, Value.category]; done) | rfl
def Q_make3 (Z : State)  (h0 : Heap) (n0 : Nat) (v : Option Value) (h : Heap) (L : List Loc) : Prop := ∃ (va : Addr) (kc : ClassId), (v = some (.ref va)) ∧ (Fr n0 L) ∧ (Keep h0 h []) ∧ (Arv Z h va kc .char (3 : Int32) [(.int (0 : Int32)), (.int (0 : Int32)), (.int (0 : Int32))] (.int (0 : Int32))) ∧ (h0.size ≤ va)
set_option maxRecDepth 65536 in
set_option maxHeartbeats 40000000 in
theorem rm_make3 (l : Launch) (Z : State) (a0 : Array Value) (hw : ∀ d ∈ tables_1, d.before a0 Z = true) (ws : List Jvm.Cond)  (h0 : Heap) (n0 : Nat) (O0 : Old Z n0 h0) :
    MetFree l own_m24 (head1 (Jvm.Cond.code own_m24 method_4_code 1 (some (.array .char)) :: ws) ({ frames := 0, cells := 1, slots := 4, locals := 0 } : Room)) (fun ar_ U => ar_ = #[(.int (3 : Int32))] ∧ Z.Warmed39 U.vm ∧ U.heap = h0) (fun _ _ _ _ _ => True) (fun _ U o U' => ∃ v L, o = .returned v ∧ Q_make3 Z  h0 n0 v U'.heap L ∧ FrameEnd U o U' L ({ frames := 0, cells := 1, slots := 4, locals := 0 } : Room).cells ({ frames := 0, cells := 1, slots := 4, locals := 0 } : Room).slots) := by
  refine MetFree.of_bodySF (plainFor_of_name pn_6) hisR ?_
  intro p e s m args below meth c s₁ Bd hml0 hP hK
  obtain ⟨rfl, hZ, hh⟩ := hP
  have hx := Bd.exec
  have hby := Bd.bytes
  have hml : c.maxLocals = 1 := hml0
  have hown : s.vm.findClass "com/example/sheafgate/sheafgate/http/RequestFieldsStripPinLaw" = some m.cls := findClass_of_methodNamed Bd.named
  have hnm := (name_of_methodNamed Bd.named Bd.method).1
  have X0 : Stand p l e ({ frames := 0, cells := 1, slots := 4, locals := 0 } : Room) s m #[(.int (3 : Int32))] below meth c s₁ [] 0 0 := Stand.of_body Bd
  have e0 : s₁.heap = h0 := by rw [← hh, Bd.state]; rfl
  have N0 := Fr.nil n0
  have hret := Bd.returns
  have hlk : meth.locks = false := Bd.notSynchronized
  show own_E p e below s ({ frames := 0, cells := 1, slots := 4, locals := 0 } : Room).cells ({ frames := 0, cells := 1, slots := 4, locals := 0 } : Room).slots (Q_make3 Z  h0 n0) s₁ (entryFrame m #[(.int (3 : Int32))] 1)
  rw [ef_make3 m (3 : Int32)]
  refine own_st (T' := s₁) (g' := (mkF m 1 #[iv (3 : Int32)] [(.int (3 : Int32))])) (fun _ k_ => XS.iloadN X0.here hx rfl (hb hby d2_0) rfl  k_) ?_
  refine own_st (T' := s₁) (g' := (mkF m 8 #[iv (3 : Int32)] [])) (fun _ k_ => XS.ifYes X0.here hx rfl (pc0 := 1) (pc' := 8) rfl (hb hby d2_1) rfl ((if0 _ _).trans (feq (by decide : ¬ ((3 : Int32) = (0 : Int32)))).2) (by decide) (by decide) k_) ?_
  refine own_st (T' := s₁) (g' := (mkF m 9 #[iv (3 : Int32)] [(.int (3 : Int32))])) (fun _ k_ => XS.iloadN X0.here hx rfl (hb hby d2_8) rfl  k_) ?_
  refine own_st (T' := s₁) (g' := (mkF m 10 #[iv (3 : Int32)] [(.int (1 : Int32)), (.int (3 : Int32))])) (fun _ k_ => XS.iconst X0.here hx rfl (hb hby d2_9) k_) ?_
  refine own_st (T' := s₁) (g' := (mkF m 17 #[iv (3 : Int32)] [])) (fun _ k_ => XS.icmpYes X0.here hx rfl (pc0 := 10) (pc' := 17) rfl (hb hby d2_10) rfl (feq (by decide : ¬ ((3 : Int32) = (1 : Int32)))).2 (by decide) (by decide) k_) ?_
  refine own_st (T' := s₁) (g' := (mkF m 18 #[iv (3 : Int32)] [(.int (3 : Int32))])) (fun _ k_ => XS.iloadN X0.here hx rfl (hb hby d2_17) rfl  k_) ?_
  refine own_st (T' := s₁) (g' := (mkF m 19 #[iv (3 : Int32)] [(.int (2 : Int32)), (.int (3 : Int32))])) (fun _ k_ => XS.iconst X0.here hx rfl (hb hby d2_18) k_) ?_
  refine own_st (T' := s₁) (g' := (mkF m 26 #[iv (3 : Int32)] [])) (fun _ k_ => XS.icmpYes X0.here hx rfl (pc0 := 19) (pc' := 26) rfl (hb hby d2_19) rfl (feq (by decide : ¬ ((3 : Int32) = (2 : Int32)))).2 (by decide) (by decide) k_) ?_
  refine own_st (T' := s₁) (g' := (mkF m 27 #[iv (3 : Int32)] [(.int (3 : Int32))])) (fun _ k_ => XS.iloadN X0.here hx rfl (hb hby d2_26) rfl  k_) ?_
  refine own_st (T' := s₁) (g' := (mkF m 28 #[iv (3 : Int32)] [(.int (3 : Int32)), (.int (3 : Int32))])) (fun _ k_ => XS.iconst X0.here hx rfl (hb hby d2_27) k_) ?_
  refine own_st (T' := s₁) (g' := (mkF m 31 #[iv (3 : Int32)] [])) (fun _ k_ => XS.icmpNo X0.here hx rfl (hb hby d2_28) rfl (teq (rfl : (3 : Int32) = (3 : Int32))).2 k_) ?_
  refine own_st (T' := s₁) (g' := (mkF m 32 #[iv (3 : Int32)] [(.int (3 : Int32))])) (fun _ k_ => XS.iconst X0.here hx rfl (hb hby d2_31) k_) ?_
  obtain ⟨T1, h1, k1, X1, e1, E1, A1, st1⟩ := newP X0 hx hZ (wd hw 8 rfl) e0 (g := (mkF m 32 #[iv (3 : Int32)] [(.int (3 : Int32))])) rfl (hb hby d2_32) rfl (by decide) (cap := 3) (by decide) (by decide) (by decide) (by decide)
  obtain ⟨b1, g1⟩ : ∃ z, z = h0.size := ⟨_, rfl⟩
  rw [← g1] at A1 st1
  have fr1 : n0 ≤ b1 := Nat.le_trans (own_z O0) (Nat.le_of_eq g1.symm)
  have sz1 : h0.size ≤ b1 := Nat.le_trans (Keep.refl h0 []).1 (Nat.le_of_eq g1.symm)
  have V1 : Arv Z h1 b1 k1 .char (3 : Int32) [(.int (0 : Int32)), (.int (0 : Int32)), (.int (0 : Int32))] (.int (0 : Int32)) := (Arv.new A1 (by decide)).pad (pad_rep [] (.int (0 : Int32)) 3)
  refine own_st (T' := T1) (g' := (mkF m 34 #[iv (3 : Int32)] [(.ref b1)])) st1 ?_
  clear st1
  have f2 : Keep h0 h1 [] := (Keep.refl h0 []).ext E1
  exact own_retA X1 hx hret rfl rfl hlk (hb hby d2_34) (by decide) (by decide) (by rw [e1]; exact ⟨b1, k1, rfl, N0, f2, V1, sz1⟩)
theorem d2_35 : decode method_4_code 35 = .ok (.iconst 4, 1) := by decide +kernel
theorem d2_36 : decode method_4_code 36 = .ok (.newarray .char, 2) := by decide +kernel
theorem d2_38 : decode method_4_code 38 = .ok (.areturn, 1) := by decide +kernel
theorem ef_make4 (m : MethodId) (x0 : Int32) : entryFrame m #[(.int x0)] 1 = mkF m 0 #[iv x0] [] := by first | (simp [entryFrame, mkF, argsToLocals, Value.category]; done) | rfl
def Q_make4 (Z : State)  (h0 : Heap) (n0 : Nat) (v : Option Value) (h : Heap) (L : List Loc) : Prop := ∃ (va : Addr) (kc : ClassId), (v = some (.ref va)) ∧ (Fr n0 L) ∧ (Keep h0 h []) ∧ (Arv Z h va kc .char (4 : Int32) [(.int (0 : Int32)), (.int (0 : Int32)), (.int (0 : Int32)), (.int (0 : Int32))] (.int (0 : Int32))) ∧ (h0.size ≤ va)
set_option maxRecDepth 65536 in
set_option maxHeartbeats 40000000 in
theorem rm_make4 (l : Launch) (Z : State) (a0 : Array Value) (hw : ∀ d ∈ tables_1, d.before a0 Z = true) (ws : List Jvm.Cond)  (h0 : Heap) (n0 : Nat) (O0 : Old Z n0 h0) :
    MetFree l own_m24 (head1 (Jvm.Cond.code own_m24 method_4_code 1 (some (.array .char)) :: ws) ({ frames := 0, cells := 1, slots := 4, locals := 0 } : Room)) (fun ar_ U => ar_ = #[(.int (4 : Int32))] ∧ Z.Warmed39 U.vm ∧ U.heap = h0) (fun _ _ _ _ _ => True) (fun _ U o U' => ∃ v L, o = .returned v ∧ Q_make4 Z  h0 n0 v U'.heap L ∧ FrameEnd U o U' L ({ frames := 0, cells := 1, slots := 4, locals := 0 } : Room).cells ({ frames := 0, cells := 1, slots := 4, locals := 0 } : Room).slots) := by
  refine MetFree.of_bodySF (plainFor_of_name pn_6) hisR ?_
  intro p e s m args below meth c s₁ Bd hml0 hP hK
  obtain ⟨rfl, hZ, hh⟩ := hP
  have hx := Bd.exec
  have hby := Bd.bytes
  have hml : c.maxLocals = 1 := hml0
  have hown : s.vm.findClass "com/example/sheafgate/sheafgate/http/RequestFieldsStripPinLaw" = some m.cls := findClass_of_methodNamed Bd.named
  have hnm := (name_of_methodNamed Bd.named Bd.method).1
  have X0 : Stand p l e ({ frames := 0, cells := 1, slots := 4, locals := 0 } : Room) s m #[(.int (4 : Int32))] below meth c s₁ [] 0 0 := Stand.of_body Bd
  have e0 : s₁.heap = h0 := by rw [← hh, Bd.state]; rfl
  have N0 := Fr.nil n0
  have hret := Bd.returns
  have hlk : meth.locks = false := Bd.notSynchronized
  show own_E p e below s ({ frames := 0, cells := 1, slots := 4, locals := 0 } : Room).cells ({ frames := 0, cells := 1, slots := 4, locals := 0 } : Room).slots (Q_make4 Z  h0 n0) s₁ (entryFrame m #[(.int (4 : Int32))] 1)
  rw [ef_make4 m (4 : Int32)]
  refine own_st (T' := s₁) (g' := (mkF m 1 #[iv (4 : Int32)] [(.int (4 : Int32))])) (fun _ k_ => XS.iloadN X0.here hx rfl (hb hby d2_0) rfl  k_) ?_
  refine own_st (T' := s₁) (g' := (mkF m 8 #[iv (4 : Int32)] [])) (fun _ k_ => XS.ifYes X0.here hx rfl (pc0 := 1) (pc' := 8) rfl (hb hby d2_1) rfl ((if0 _ _).trans (feq (by decide : ¬ ((4 : Int32) = (0 : Int32)))).2) (by decide) (by decide) k_) ?_
  refine own_st (T' := s₁) (g' := (mkF m 9 #[iv (4 : Int32)] [(.int (4 : Int32))])) (fun _ k_ => XS.iloadN X0.here hx rfl (hb hby d2_8) rfl  k_) ?_
  refine own_st (T' := s₁) (g' := (mkF m 10 #[iv (4 : Int32)] [(.int (1 : Int32)), (.int (4 : Int32))])) (fun _ k_ => XS.iconst X0.here hx rfl (hb hby d2_9) k_) ?_
  refine own_st (T' := s₁) (g' := (mkF m 17 #[iv (4 : Int32)] [])) (fun _ k_ => XS.icmpYes X0.here hx rfl (pc0 := 10) (pc' := 17) rfl (hb hby d2_10) rfl (feq (by decide : ¬ ((4 : Int32) = (1 : Int32)))).2 (by decide) (by decide) k_) ?_
  refine own_st (T' := s₁) (g' := (mkF m 18 #[iv (4 : Int32)] [(.int (4 : Int32))])) (fun _ k_ => XS.iloadN X0.here hx rfl (hb hby d2_17) rfl  k_) ?_
  refine own_st (T' := s₁) (g' := (mkF m 19 #[iv (4 : Int32)] [(.int (2 : Int32)), (.int (4 : Int32))])) (fun _ k_ => XS.iconst X0.here hx rfl (hb hby d2_18) k_) ?_
  refine own_st (T' := s₁) (g' := (mkF m 26 #[iv (4 : Int32)] [])) (fun _ k_ => XS.icmpYes X0.here hx rfl (pc0 := 19) (pc' := 26) rfl (hb hby d2_19) rfl (feq (by decide : ¬ ((4 : Int32) = (2 : Int32)))).2 (by decide) (by decide) k_) ?_
  refine own_st (T' := s₁) (g' := (mkF m 27 #[iv (4 : Int32)] [(.int (4 : Int32))])) (fun _ k_ => XS.iloadN X0.here hx rfl (hb hby d2_26) rfl  k_) ?_
  refine own_st (T' := s₁) (g' := (mkF m 28 #[iv (4 : Int32)] [(.int (3 : Int32)), (.int (4 : Int32))])) (fun _ k_ => XS.iconst X0.here hx rfl (hb hby d2_27) k_) ?_
  refine own_st (T' := s₁) (g' := (mkF m 35 #[iv (4 : Int32)] [])) (fun _ k_ => XS.icmpYes X0.here hx rfl (pc0 := 28) (pc' := 35) rfl (hb hby d2_28) rfl (feq (by decide : ¬ ((4 : Int32) = (3 : Int32)))).2 (by decide) (by decide) k_) ?_
  refine own_st (T' := s₁) (g' := (mkF m 36 #[iv (4 : Int32)] [(.int (4 : Int32))])) (fun _ k_ => XS.iconst X0.here hx rfl (hb hby d2_35) k_) ?_
  obtain ⟨T1, h1, k1, X1, e1, E1, A1, st1⟩ := newP X0 hx hZ (wd hw 8 rfl) e0 (g := (mkF m 36 #[iv (4 : Int32)] [(.int (4 : Int32))])) rfl (hb hby d2_36) rfl (by decide) (cap := 4) (by decide) (by decide) (by decide) (by decide)
  obtain ⟨b1, g1⟩ : ∃ z, z = h0.size := ⟨_, rfl⟩
  rw [← g1] at A1 st1
  have fr1 : n0 ≤ b1 := Nat.le_trans (own_z O0) (Nat.le_of_eq g1.symm)
  have sz1 : h0.size ≤ b1 := Nat.le_trans (Keep.refl h0 []).1 (Nat.le_of_eq g1.symm)
  have V1 : Arv Z h1 b1 k1 .char (4 : Int32) [(.int (0 : Int32)), (.int (0 : Int32)), (.int (0 : Int32)), (.int (0 : Int32))] (.int (0 : Int32)) := (Arv.new A1 (by decide)).pad (pad_rep [] (.int (0 : Int32)) 4)
  refine own_st (T' := T1) (g' := (mkF m 38 #[iv (4 : Int32)] [(.ref b1)])) st1 ?_
  clear st1
  have f2 : Keep h0 h1 [] := (Keep.refl h0 []).ext E1
  exact own_retA X1 hx hret rfl rfl hlk (hb hby d2_38) (by decide) (by decide) (by rw [e1]; exact ⟨b1, k1, rfl, N0, f2, V1, sz1⟩)
theorem own_mapg (al : List Int32) (i : Nat) (h : i < al.length) : (al.map Value.int).getD i (Value.int 0) = Value.int (al.getD i 0) := by
  simp [List.getD_eq_getElem?_getD, h]
theorem d13_0 : decode method_5_code 0 = .ok (.iload 4, 2) := by decide +kernel
theorem d13_2 : decode method_5_code 2 = .ok (.iload_n 3, 1) := by decide +kernel
theorem d13_3 : decode method_5_code 3 = .ok (.if_icmp .lt 5, 3) := by decide +kernel
theorem d13_6 : decode method_5_code 6 = .ok (.iconst 1, 1) := by decide +kernel
theorem d13_7 : decode method_5_code 7 = .ok (.ireturn, 1) := by decide +kernel
theorem d13_8 : decode method_5_code 8 = .ok (.aload_n 0, 1) := by decide +kernel
theorem d13_9 : decode method_5_code 9 = .ok (.iload 4, 2) := by decide +kernel
theorem d13_11 : decode method_5_code 11 = .ok (.invokevirtual 7, 3) := by decide +kernel
theorem d13_14 : decode method_5_code 14 = .ok (.aload_n 1, 1) := by decide +kernel
theorem d13_15 : decode method_5_code 15 = .ok (.iload_n 2, 1) := by decide +kernel
theorem d13_16 : decode method_5_code 16 = .ok (.iload 4, 2) := by decide +kernel
theorem d13_18 : decode method_5_code 18 = .ok (.iadd, 1) := by decide +kernel
theorem d13_19 : decode method_5_code 19 = .ok (.caload, 1) := by decide +kernel
theorem d13_20 : decode method_5_code 20 = .ok (.if_icmp .ne 7, 3) := by decide +kernel
theorem d13_23 : decode method_5_code 23 = .ok (.iconst 1, 1) := by decide +kernel
theorem d13_24 : decode method_5_code 24 = .ok (.goto 4, 3) := by decide +kernel
theorem d13_28 : decode method_5_code 28 = .ok (.ireturn, 1) := by decide +kernel
theorem ef_same (m : MethodId) (x0 : Addr) (x1 : Addr) (x2 : Int32) (x3 : Int32) (x4 : Int32) : entryFrame m #[(.ref x0), (.ref x1), (.int x2), (.int x3), (.int x4)] 5 = mkF m 0 #[rv x0, rv x1, iv x2, iv x3, iv x4] [] := by first | (simp [entryFrame, mkF, argsToLocals, Value.category]; done) | rfl
def Q_same (Z : State) (x : Addr) (va : Addr) (ss : Int32) (ll : Int32) (kk : Int32) (t : Addr) (kt : ClassId) (cs : List Int32) (al : List Int32) (kc : ClassId) (is : Nat) (le : Nat) (ik : Nat) (cz : Int32) (fm : Value) (h0 : Heap) (n0 : Nat) (v : Option Value) (h : Heap) (L : List Loc) : Prop := (v = some (.int (1 : Int32))) ∧ (Fr n0 L) ∧ (h = h0)
set_option maxRecDepth 65536 in
set_option maxHeartbeats 40000000 in
theorem rm_same (l : Launch) (Z : State) (a0 : Array Value) (hw : ∀ d ∈ tables_1, d.before a0 Z = true) (ws : List Jvm.Cond) (x : Addr) (va : Addr) (ss : Int32) (ll : Int32) (kk : Int32) (t : Addr) (kt : ClassId) (cs : List Int32) (al : List Int32) (kc : ClassId) (is : Nat) (le : Nat) (ik : Nat) (cz : Int32) (fm : Value) (h0 : Heap) (n0 : Nat) (O0 : Old Z n0 h0) (E_x : Exa Z h0 x "java/lang/String") (V_x : Fld Z h0 x "java/lang/String" "value" "[B" (.ref t)) (C_x : Fld Z h0 x "java/lang/String" "coder" "B" (.int (0 : Int32))) (A_x : Arv Z h0 t kt .byte (Int32.ofNat cs.length) ((cs.map StrChars.lo8).map Value.int) (.int (0 : Int32))) (VA : Arv Z h0 va kc .char (Int32.ofNat al.length) (al.map Value.int) (.int (0 : Int32))) (hss : ss = Int32.ofNat is) (hll : ll = Int32.ofNat le) (hkk : kk = Int32.ofNat ik) (hik : ik ≤ 4) (hcl : cs.length = le) (hal : is + le ≤ al.length) (lal : al.length ≤ 4) (hp : ∀ c ∈ cs, ¬ c < 0 ∧ ¬ (255 : Int32) < c) (hv : ∀ k, k < le → cs.getD k 0 = al.getD (is + k) 0) (SC : Sta Z Z.heap "java/lang/String" "COMPACT_STRINGS" "Z" (.int cz)) (hcz : ¬ cz = (0 : Int32)) (SF : Sta Z Z.heap "jdk/internal/util/Preconditions" "SIOOBE_FORMATTER" "Ljava/util/function/BiFunction;" fm) (hfm : fm.isRef = true) :
    MetFree l own_m25 (head1 (Jvm.Cond.code own_m25 method_5_code 5 (some .boolean) :: ws) ({ frames := 4, cells := 0, slots := 0, locals := 53 } : Room)) (fun ar_ U => ar_ = #[(.ref x), (.ref va), (.int ss), (.int ll), (.int kk)] ∧ Z.Warmed39 U.vm ∧ U.heap = h0) (fun _ _ _ _ _ => True) (fun _ U o U' => ∃ v L, o = .returned v ∧ Q_same Z x va ss ll kk t kt cs al kc is le ik cz fm h0 n0 v U'.heap L ∧ FrameEnd U o U' L ({ frames := 4, cells := 0, slots := 0, locals := 53 } : Room).cells ({ frames := 4, cells := 0, slots := 0, locals := 53 } : Room).slots) := by
  refine MetFree.of_bodySF (plainFor_of_name pn_6) hisR ?_
  intro p e s m args below meth c s₁ Bd hml0 hP hK
  obtain ⟨rfl, hZ, hh⟩ := hP
  have hx := Bd.exec
  have hby := Bd.bytes
  have hml : c.maxLocals = 5 := hml0
  have hown : s.vm.findClass "com/example/sheafgate/sheafgate/http/RequestFieldsStripPinLaw" = some m.cls := findClass_of_methodNamed Bd.named
  have hnm := (name_of_methodNamed Bd.named Bd.method).1
  have X0 : Stand p l e ({ frames := 4, cells := 0, slots := 0, locals := 53 } : Room) s m #[(.ref x), (.ref va), (.int ss), (.int ll), (.int kk)] below meth c s₁ [] 0 0 := Stand.of_body Bd
  have e0 : s₁.heap = h0 := by rw [← hh, Bd.state]; rfl
  have N0 := Fr.nil n0
  have hret := Bd.returns
  have hlk : meth.locks = false := Bd.notSynchronized
  show own_E p e below s ({ frames := 4, cells := 0, slots := 0, locals := 53 } : Room).cells ({ frames := 4, cells := 0, slots := 0, locals := 53 } : Room).slots (Q_same Z x va ss ll kk t kt cs al kc is le ik cz fm h0 n0) s₁ (entryFrame m #[(.ref x), (.ref va), (.int ss), (.int ll), (.int kk)] 5)
  rw [ef_same m x va ss ll kk]
  subst hss hll hkk
  refine own_st (T' := s₁) (g' := (mkF m 2 #[rv x, rv va, iv (Int32.ofNat is), iv (Int32.ofNat le), iv (Int32.ofNat ik)] [(.int (Int32.ofNat ik))])) (fun _ k_ => XS.iload X0.here hx rfl (hb hby d13_0) rfl  k_) ?_
  refine own_st (T' := s₁) (g' := (mkF m 3 #[rv x, rv va, iv (Int32.ofNat is), iv (Int32.ofNat le), iv (Int32.ofNat ik)] [(.int (Int32.ofNat le)), (.int (Int32.ofNat ik))])) (fun _ k_ => XS.iloadN X0.here hx rfl (hb hby d13_2) rfl  k_) ?_
  by_cases hc1 : (Int32.ofNat ik) < (Int32.ofNat le)
  · refine own_st (T' := s₁) (g' := (mkF m 8 #[rv x, rv va, iv (Int32.ofNat is), iv (Int32.ofNat le), iv (Int32.ofNat ik)] [])) (fun _ k_ => XS.icmpYes X0.here hx rfl (pc0 := 3) (pc' := 8) rfl (hb hby d13_3) rfl (tlt hc1).1 (by decide) (by decide) k_) ?_
    refine own_st (T' := s₁) (g' := (mkF m 9 #[rv x, rv va, iv (Int32.ofNat is), iv (Int32.ofNat le), iv (Int32.ofNat ik)] [(.ref x)])) (fun _ k_ => XS.aloadN X0.here hx rfl (hb hby d13_8) rfl rfl  k_) ?_
    refine own_st (T' := s₁) (g' := (mkF m 11 #[rv x, rv va, iv (Int32.ofNat is), iv (Int32.ofNat le), iv (Int32.ofNat ik)] [(.int (Int32.ofNat ik)), (.ref x)])) (fun _ k_ => XS.iload X0.here hx rfl (hb hby d13_9) rfl  k_) ?_
    obtain ⟨cq2, kq2, q2a, q2b, q2c⟩ := isOf hZ e0 E_x
    obtain ⟨_, T2, L2, X2, hQ2, st2⟩ := own_callV X0 hx (y := own_m15) (z := own_m15) hown (mvT hZ (wd hw 121 rfl)) (mvT hZ (wd hw 77 rfl)) (notFace_of_selects (args := #[]) (mvT hZ (wd hw 79 rfl))) (mvT hZ (wd hw 79 rfl)) (mvT hZ (wd hw 78 rfl)) (by decide) (backOf (W := 0) (rm_chat l Z a0 hw [] x t kt cs (Int32.ofNat ik) ik cz fm h0 n0 O0 E_x V_x C_x A_x rfl (by have q := ((own_olt (by omega) (by omega)).mp hc1); omega) (by omega) hp SC hcz SF hfm) hZ (wd hw 80 rfl) (wd hw 11 rfl) (by decide) (by decide)) q2a q2c (g := (mkF m 11 #[rv x, rv va, iv (Int32.ofNat is), iv (Int32.ofNat le), iv (Int32.ofNat ik)] [(.int (Int32.ofNat ik)), (.ref x)])) rfl (by rw [hml]; rfl) (argsL := [(.int (Int32.ofNat ik))]) (rest := []) (lenOf pd__I_C rfl) rfl (by show 2 * 0 + _ ≤ _; exact Nat.le_of_eq rfl) (hb hby d13_11) rfl e0 (by decide) (by decide) (c' := 0) (s' := 0) rfl rfl
    clear q2a q2b q2c kq2 cq2
    obtain ⟨rfl, Nq2, eq2⟩ := hQ2
    have N2 := Fr.app N0 Nq2
    refine own_st (T' := T2) (g' := (mkF m 14 #[rv x, rv va, iv (Int32.ofNat is), iv (Int32.ofNat le), iv (Int32.ofNat ik)] [(.int (List.getD cs ik 0))])) st2 ?_
    clear st2
    refine own_st (T' := T2) (g' := (mkF m 15 #[rv x, rv va, iv (Int32.ofNat is), iv (Int32.ofNat le), iv (Int32.ofNat ik)] [(.ref va), (.int (List.getD cs ik 0))])) (fun _ k_ => XS.aloadN X2.here hx rfl (hb hby d13_14) rfl rfl  k_) ?_
    refine own_st (T' := T2) (g' := (mkF m 16 #[rv x, rv va, iv (Int32.ofNat is), iv (Int32.ofNat le), iv (Int32.ofNat ik)] [(.int (Int32.ofNat is)), (.ref va), (.int (List.getD cs ik 0))])) (fun _ k_ => XS.iloadN X2.here hx rfl (hb hby d13_15) rfl  k_) ?_
    refine own_st (T' := T2) (g' := (mkF m 18 #[rv x, rv va, iv (Int32.ofNat is), iv (Int32.ofNat le), iv (Int32.ofNat ik)] [(.int (Int32.ofNat ik)), (.int (Int32.ofNat is)), (.ref va), (.int (List.getD cs ik 0))])) (fun _ k_ => XS.iload X2.here hx rfl (hb hby d13_16) rfl  k_) ?_
    refine own_st (T' := T2) (g' := (mkF m 19 #[rv x, rv va, iv (Int32.ofNat is), iv (Int32.ofNat le), iv (Int32.ofNat ik)] [(.int ((Int32.ofNat is) + (Int32.ofNat ik))), (.ref va), (.int (List.getD cs ik 0))])) (fun _ k_ => XS.iadd X2.here hx rfl (hb hby d13_18) rfl k_) ?_
    have hq := ((own_olt (by omega) (by omega)).mp hc1)
    rw [own_oadd (by omega)]
    obtain ⟨cl3, Ar3, q3, S3, N3, H3, G3⟩ := id VA
    have hin3 : ¬ ((Int32.ofNat (is + ik)) < 0 ∨ cl3.slots.size ≤ ((Int32.ofNat (is + ik))).toNatClampNeg) := inb_of S3 ⟨own_on0 (by omega), (own_olt (by omega) (by omega)).mpr (by omega)⟩
    refine own_st (T' := T2) (g' := (mkF m 20 #[rv x, rv va, iv (Int32.ofNat is), iv (Int32.ofNat le), iv (Int32.ofNat ik)] [(.int (List.getD al (is + ik) 0)), (.int (List.getD cs ik 0))])) (X2.caload hx (j := (Int32.ofNat (is + ik))) (v := (.int (List.getD al (is + ik) 0))) (by rw [eq2]; exact Ar3.1) (State.isArrayOf_alike hZ.alike Ar3.2.1) Ar3.2.2 hin3 (H3.at hin3 (by rw [own_onN (by omega)]; exact own_mapg al (is + ik) (by omega))) (g := (mkF m 19 #[rv x, rv va, iv (Int32.ofNat is), iv (Int32.ofNat le), iv (Int32.ofNat ik)] [(.int (Int32.ofNat (is + ik))), (.ref va), (.int (List.getD cs ik 0))])) rfl rfl (hb hby d13_19)) ?_
    clear hin3 G3 H3 N3 S3 q3 Ar3 cl3
    refine own_st (T' := T2) (g' := (mkF m 23 #[rv x, rv va, iv (Int32.ofNat is), iv (Int32.ofNat le), iv (Int32.ofNat ik)] [])) (fun _ k_ => XS.icmpNo X2.here hx rfl (hb hby d13_20) rfl (teq ((hv ik hq) : (List.getD cs ik 0) = (List.getD al (is + ik) 0))).2 k_) ?_
    refine own_st (T' := T2) (g' := (mkF m 24 #[rv x, rv va, iv (Int32.ofNat is), iv (Int32.ofNat le), iv (Int32.ofNat ik)] [(.int (1 : Int32))])) (fun _ k_ => XS.iconst X2.here hx rfl (hb hby d13_23) k_) ?_
    refine own_st (T' := T2) (g' := (mkF m 28 #[rv x, rv va, iv (Int32.ofNat is), iv (Int32.ofNat le), iv (Int32.ofNat ik)] [(.int (1 : Int32))])) (fun _ k_ => XS.goto X2.here hx rfl (pc0 := 24) (pc' := 28) rfl (hb hby d13_24) (by decide) (by decide) k_) ?_
    exact own_retN X2 hx (t := .boolean) hret (by simp) hlk (hb hby d13_28) (by decide) (by decide) ⟨rfl, N2, eq2⟩
  · refine own_st (T' := s₁) (g' := (mkF m 6 #[rv x, rv va, iv (Int32.ofNat is), iv (Int32.ofNat le), iv (Int32.ofNat ik)] [])) (fun _ k_ => XS.icmpNo X0.here hx rfl (hb hby d13_3) rfl (flt hc1).1 k_) ?_
    refine own_st (T' := s₁) (g' := (mkF m 7 #[rv x, rv va, iv (Int32.ofNat is), iv (Int32.ofNat le), iv (Int32.ofNat ik)] [(.int (1 : Int32))])) (fun _ k_ => XS.iconst X0.here hx rfl (hb hby d13_6) k_) ?_
    exact own_retN X0 hx (t := .boolean) hret (by simp) hlk (hb hby d13_7) (by decide) (by decide) ⟨rfl, N0, e0⟩
theorem own_subh (cs : List Int32) (k : Nat) (h : k < own_ie cs - own_is cs) : (own_sub cs (own_is cs) (own_ie cs)).getD k 0 = cs.getD (own_is cs + k) 0 := by
  have a := own_isie cs; have b := own_ieL cs
  have e : own_is cs + (own_ie cs - own_is cs) = own_ie cs := by omega
  have q := own_subg cs (own_is cs) (own_ie cs - own_is cs) k h (by omega)
  rwa [e] at q
theorem own_subR {cs : List Int32} (hp : ∀ c ∈ cs, ¬ c < 0 ∧ ¬ (255 : Int32) < c) (i j : Nat) : ∀ c ∈ own_sub cs i j, ¬ c < 0 ∧ ¬ (255 : Int32) < c := fun c m => hp c (List.mem_of_mem_drop (List.mem_of_mem_take m))
theorem pd__Ljava_lang_String__CIII_Z : parseMethodDescriptor "(Ljava/lang/String;[CIII)Z" = some ⟨[(.object "java/lang/String"), (.array .char), .int, .int, .int], some .boolean⟩ := by decide +kernel
set_option maxRecDepth 65536 in
set_option maxHeartbeats 40000000 in
theorem seg_h {p : Program} {l : Launch} {e : Env} {s : State} {m : MethodId} {args : Array Value} {below : List Frame} {meth : Method} {c : Code} {T0 : State} {locs : List Loc} {Z : State} {a0 : Array Value} {vm0 : Vm} {k0 : Nat} (h0 : Heap) (hB : Heap) (n0 : Nat) (z0 : Slot) (z1 : Slot) (z2 : Slot) (z3 : Slot) (z4 : Slot) (z5 : Slot) (z6 : Slot) (z7 : Slot) (z8 : Slot) (z9 : Slot) (z10 : Slot) (z11 : Slot) (z12 : Slot) (z13 : Slot) (z14 : Slot) (va : Addr) (kc : ClassId) (r : Addr) (u : Addr) (ku : ClassId) (al : List Int32) (ll : Int32) (cz : Int32) (fm : Value)
    (X0 : Stand p l e room_1 (s.setVm vm0) m args below meth c T0 locs 8 24) (hx : p.tables.exec = Jvm.exec) (hZs : Z.Warmed39 s.vm) (hZ : Z.Warmed39 (s.setVm vm0).vm) (hS0 : s.Since vm0 k0) (hk0 : k0 ≤ hB.size) (CR0 : CHr Z consts_1 s.vm h0 vm0 hB) (hw : ∀ d ∈ tables_1, d.before a0 Z = true) (hby : c.code = code) (hml : c.maxLocals = 19) (howns : s.vm.findClass "com/example/sheafgate/sheafgate/http/RequestFieldsStripPinLaw" = some m.cls) (hown : (s.setVm vm0).vm.findClass "com/example/sheafgate/sheafgate/http/RequestFieldsStripPinLaw" = some m.cls) (hnm : meth.name = "law") (hret : meth.sig.returnType = some .boolean) (hlk : meth.locks = false) (e0 : T0.heap = hB) (N0 : Fr n0 locs) (O0 : Old Z n0 hB) (lal : al.length ≤ 4) (hpA : ∀ c ∈ al, ¬ c < 0 ∧ ¬ (255 : Int32) < c) (VA : Arv Z hB va kc .char (Int32.ofNat al.length) (al.map Value.int) (.int (0 : Int32))) (E_r : Exa Z hB r "java/lang/String") (V_r : Fld Z hB r "java/lang/String" "value" "[B" (.ref u)) (C_r : Fld Z hB r "java/lang/String" "coder" "B" (.int (0 : Int32))) (A_r : Arv Z hB u ku .byte (Int32.ofNat (own_sub al (own_is al) (own_ie al)).length) (((own_sub al (own_is al) (own_ie al)).map StrChars.lo8).map Value.int) (.int (0 : Int32))) (hll : ll = Int32.ofNat ((own_ie al) - (own_is al))) (SC : Sta Z Z.heap "java/lang/String" "COMPACT_STRINGS" "Z" (.int cz)) (hcz : ¬ cz = (0 : Int32)) (SF : Sta Z Z.heap "jdk/internal/util/Preconditions" "SIOOBE_FORMATTER" "Ljava/util/function/BiFunction;" fm) (hfm : fm.isRef = true) :
    own_W p e below s room_1.cells room_1.slots Z consts_1 h0 (own_L n0) T0 (mkF m 288 #[z0, z1, z2, z3, z4, z5, z6, z7, z8, z9, rv va, rv r, z10, z11, z12, z13, iv (Int32.ofNat (own_is al)), z14, iv ll] []) := by
  have hEL := own_EW hw
  subst hll
  refine own_stW (T' := T0) (g' := (mkF m 290 #[z0, z1, z2, z3, z4, z5, z6, z7, z8, z9, rv va, rv r, z10, z11, z12, z13, iv (Int32.ofNat (own_is al)), z14, iv (Int32.ofNat ((own_ie al) - (own_is al)))] [(.ref r)])) (fun _ k_ => XS.aload X0.here hx rfl (hb hby at_288) rfl rfl  k_) ?_
  obtain ⟨cq1, kq1, q1a, q1b, q1c⟩ := isOf hZ e0 E_r
  obtain ⟨_, T1, L1, X1, hQ1, st1⟩ := own_callV X0 hx (y := own_m1) (z := own_m1) hown (mvT hZ (wd hw 62 rfl)) (mvT hZ (wd hw 35 rfl)) (notFace_of_selects (args := #[]) (mvT hZ (wd hw 37 rfl))) (mvT hZ (wd hw 37 rfl)) (mvT hZ (wd hw 36 rfl)) (by decide) (backOf (W := 0) (rm_len l Z a0 hw [] r u ku (Int32.ofNat (own_sub al (own_is al) (own_ie al)).length) (((own_sub al (own_is al) (own_ie al)).map StrChars.lo8).map Value.int) cz hB n0 O0 E_r V_r C_r A_r SC hcz) hZ (wd hw 38 rfl) (wd hw 11 rfl) (by decide) (by decide)) q1a q1c (g := (mkF m 290 #[z0, z1, z2, z3, z4, z5, z6, z7, z8, z9, rv va, rv r, z10, z11, z12, z13, iv (Int32.ofNat (own_is al)), z14, iv (Int32.ofNat ((own_ie al) - (own_is al)))] [(.ref r)])) rfl (by rw [hml]; rfl) (argsL := []) (rest := []) (lenOf pd___I rfl) rfl (by show 2 * 0 + _ ≤ _; exact Nat.le_of_eq rfl) (hb hby at_290) rfl e0 (by decide) (by decide) (c' := 8) (s' := 24) rfl rfl
  clear q1a q1b q1c kq1 cq1
  obtain ⟨rfl, Nq1, eq1⟩ := hQ1
  have N1 := Fr.app N0 Nq1
  refine own_stW (T' := T1) (g' := (mkF m 293 #[z0, z1, z2, z3, z4, z5, z6, z7, z8, z9, rv va, rv r, z10, z11, z12, z13, iv (Int32.ofNat (own_is al)), z14, iv (Int32.ofNat ((own_ie al) - (own_is al)))] [(.int (Int32.ofNat (own_sub al (own_is al) (own_ie al)).length))])) st1 ?_
  clear st1
  refine own_stW (T' := T1) (g' := (mkF m 295 #[z0, z1, z2, z3, z4, z5, z6, z7, z8, z9, rv va, rv r, z10, z11, z12, z13, iv (Int32.ofNat (own_is al)), z14, iv (Int32.ofNat ((own_ie al) - (own_is al)))] [(.int (Int32.ofNat ((own_ie al) - (own_is al)))), (.int (Int32.ofNat (own_sub al (own_is al) (own_ie al)).length))])) (fun _ k_ => XS.iload X1.here hx rfl (hb hby at_293) rfl  k_) ?_
  refine own_stW (T' := T1) (g' := (mkF m 300 #[z0, z1, z2, z3, z4, z5, z6, z7, z8, z9, rv va, rv r, z10, z11, z12, z13, iv (Int32.ofNat (own_is al)), z14, iv (Int32.ofNat ((own_ie al) - (own_is al)))] [])) (fun _ k_ => XS.icmpYes X1.here hx rfl (pc0 := 295) (pc' := 300) rfl (hb hby at_295) rfl (teq ((by rw [own_subl (own_ieL _)]) : (Int32.ofNat (own_sub al (own_is al) (own_ie al)).length) = (Int32.ofNat ((own_ie al) - (own_is al))))).1 (by decide) (by decide) k_) ?_
  refine own_stW (T' := T1) (g' := (mkF m 302 #[z0, z1, z2, z3, z4, z5, z6, z7, z8, z9, rv va, rv r, z10, z11, z12, z13, iv (Int32.ofNat (own_is al)), z14, iv (Int32.ofNat ((own_ie al) - (own_is al)))] [(.ref r)])) (fun _ k_ => XS.aload X1.here hx rfl (hb hby at_300) rfl rfl  k_) ?_
  refine own_stW (T' := T1) (g' := (mkF m 304 #[z0, z1, z2, z3, z4, z5, z6, z7, z8, z9, rv va, rv r, z10, z11, z12, z13, iv (Int32.ofNat (own_is al)), z14, iv (Int32.ofNat ((own_ie al) - (own_is al)))] [(.ref va), (.ref r)])) (fun _ k_ => XS.aload X1.here hx rfl (hb hby at_302) rfl rfl  k_) ?_
  refine own_stW (T' := T1) (g' := (mkF m 306 #[z0, z1, z2, z3, z4, z5, z6, z7, z8, z9, rv va, rv r, z10, z11, z12, z13, iv (Int32.ofNat (own_is al)), z14, iv (Int32.ofNat ((own_ie al) - (own_is al)))] [(.int (Int32.ofNat (own_is al))), (.ref va), (.ref r)])) (fun _ k_ => XS.iload X1.here hx rfl (hb hby at_304) rfl  k_) ?_
  refine own_stW (T' := T1) (g' := (mkF m 308 #[z0, z1, z2, z3, z4, z5, z6, z7, z8, z9, rv va, rv r, z10, z11, z12, z13, iv (Int32.ofNat (own_is al)), z14, iv (Int32.ofNat ((own_ie al) - (own_is al)))] [(.int (Int32.ofNat ((own_ie al) - (own_is al)))), (.int (Int32.ofNat (own_is al))), (.ref va), (.ref r)])) (fun _ k_ => XS.iload X1.here hx rfl (hb hby at_306) rfl  k_) ?_
  refine own_stW (T' := T1) (g' := (mkF m 309 #[z0, z1, z2, z3, z4, z5, z6, z7, z8, z9, rv va, rv r, z10, z11, z12, z13, iv (Int32.ofNat (own_is al)), z14, iv (Int32.ofNat ((own_ie al) - (own_is al)))] [(.int (0 : Int32)), (.int (Int32.ofNat ((own_ie al) - (own_is al)))), (.int (Int32.ofNat (own_is al))), (.ref va), (.ref r)])) (fun _ k_ => XS.iconst X1.here hx rfl (hb hby at_308) k_) ?_
  obtain ⟨_, T2, L2, X2, hQ2, st2⟩ := own_callS X1 hx (y := own_m25) hown (mvT hZ (wd hw 63 rfl)) (mvT hZ (wd hw 64 rfl)) (mvT hZ (wd hw 3 rfl)) (mvT hZ (wd hw 65 rfl)) (by decide) (backOf (W := 0) (rm_same l Z a0 hw [] r va (Int32.ofNat (own_is al)) (Int32.ofNat ((own_ie al) - (own_is al))) (0 : Int32) u ku (own_sub al (own_is al) (own_ie al)) al kc (own_is al) ((own_ie al) - (own_is al)) 0 cz fm hB n0 O0 E_r V_r C_r A_r VA rfl rfl rfl (by decide) (own_subl (own_ieL _)) (by have a := own_isie al; have b := own_ieL al; omega) lal (own_subR hpA _ _) (own_subh al) SC hcz SF hfm) hZ (wd hw 65 rfl) (wd hw 3 rfl) (by decide) (by decide)) (g := (mkF m 309 #[z0, z1, z2, z3, z4, z5, z6, z7, z8, z9, rv va, rv r, z10, z11, z12, z13, iv (Int32.ofNat (own_is al)), z14, iv (Int32.ofNat ((own_ie al) - (own_is al)))] [(.int (0 : Int32)), (.int (Int32.ofNat ((own_ie al) - (own_is al)))), (.int (Int32.ofNat (own_is al))), (.ref va), (.ref r)])) rfl (by rw [hml]; rfl) (argsL := [(.ref r), (.ref va), (.int (Int32.ofNat (own_is al))), (.int (Int32.ofNat ((own_ie al) - (own_is al)))), (.int (0 : Int32))]) (rest := []) (lenOf pd__Ljava_lang_String__CIII_Z rfl) rfl (by show 2 * 0 + _ ≤ _; exact Nat.le_of_eq rfl) (hb hby at_309) rfl eq1 (by decide) (by decide) (c' := 8) (s' := 24) rfl rfl
  obtain ⟨rfl, Nq2, eq2⟩ := hQ2
  have N2 := Fr.app N1 Nq2
  refine own_stW (T' := T2) (g' := (mkF m 312 #[z0, z1, z2, z3, z4, z5, z6, z7, z8, z9, rv va, rv r, z10, z11, z12, z13, iv (Int32.ofNat (own_is al)), z14, iv (Int32.ofNat ((own_ie al) - (own_is al)))] [(.int (1 : Int32))])) st2 ?_
  clear st2
  refine own_stW (T' := T2) (g' := (mkF m 315 #[z0, z1, z2, z3, z4, z5, z6, z7, z8, z9, rv va, rv r, z10, z11, z12, z13, iv (Int32.ofNat (own_is al)), z14, iv (Int32.ofNat ((own_ie al) - (own_is al)))] [])) (fun _ k_ => XS.ifNo X2.here hx rfl (hb hby at_312) rfl ((if0 _ _).trans (feq (by decide : ¬ ((1 : Int32) = (0 : Int32)))).1) k_) ?_
  refine own_stW (T' := T2) (g' := (mkF m 317 #[z0, z1, z2, z3, z4, z5, z6, z7, z8, z9, rv va, rv r, z10, z11, z12, z13, iv (Int32.ofNat (own_is al)), z14, iv (Int32.ofNat ((own_ie al) - (own_is al)))] [(.ref r)])) (fun _ k_ => XS.aload X2.here hx rfl (hb hby at_315) rfl rfl  k_) ?_
  refine own_stW (T' := T2) (g' := (mkF m 319 #[z0, z1, z2, z3, z4, z5, z6, z7, z8, z9, rv va, rv r, z10, z11, z12, z13, iv (Int32.ofNat (own_is al)), z14, iv (Int32.ofNat ((own_ie al) - (own_is al)))] [(.ref va), (.ref r)])) (fun _ k_ => XS.aload X2.here hx rfl (hb hby at_317) rfl rfl  k_) ?_
  refine own_stW (T' := T2) (g' := (mkF m 321 #[z0, z1, z2, z3, z4, z5, z6, z7, z8, z9, rv va, rv r, z10, z11, z12, z13, iv (Int32.ofNat (own_is al)), z14, iv (Int32.ofNat ((own_ie al) - (own_is al)))] [(.int (Int32.ofNat (own_is al))), (.ref va), (.ref r)])) (fun _ k_ => XS.iload X2.here hx rfl (hb hby at_319) rfl  k_) ?_
  refine own_stW (T' := T2) (g' := (mkF m 323 #[z0, z1, z2, z3, z4, z5, z6, z7, z8, z9, rv va, rv r, z10, z11, z12, z13, iv (Int32.ofNat (own_is al)), z14, iv (Int32.ofNat ((own_ie al) - (own_is al)))] [(.int (Int32.ofNat ((own_ie al) - (own_is al)))), (.int (Int32.ofNat (own_is al))), (.ref va), (.ref r)])) (fun _ k_ => XS.iload X2.here hx rfl (hb hby at_321) rfl  k_) ?_
  refine own_stW (T' := T2) (g' := (mkF m 324 #[z0, z1, z2, z3, z4, z5, z6, z7, z8, z9, rv va, rv r, z10, z11, z12, z13, iv (Int32.ofNat (own_is al)), z14, iv (Int32.ofNat ((own_ie al) - (own_is al)))] [(.int (1 : Int32)), (.int (Int32.ofNat ((own_ie al) - (own_is al)))), (.int (Int32.ofNat (own_is al))), (.ref va), (.ref r)])) (fun _ k_ => XS.iconst X2.here hx rfl (hb hby at_323) k_) ?_
  obtain ⟨_, T3, L3, X3, hQ3, st3⟩ := own_callS X2 hx (y := own_m25) hown (mvT hZ (wd hw 63 rfl)) (mvT hZ (wd hw 64 rfl)) (mvT hZ (wd hw 3 rfl)) (mvT hZ (wd hw 65 rfl)) (by decide) (backOf (W := 0) (rm_same l Z a0 hw [] r va (Int32.ofNat (own_is al)) (Int32.ofNat ((own_ie al) - (own_is al))) (1 : Int32) u ku (own_sub al (own_is al) (own_ie al)) al kc (own_is al) ((own_ie al) - (own_is al)) 1 cz fm hB n0 O0 E_r V_r C_r A_r VA rfl rfl rfl (by decide) (own_subl (own_ieL _)) (by have a := own_isie al; have b := own_ieL al; omega) lal (own_subR hpA _ _) (own_subh al) SC hcz SF hfm) hZ (wd hw 65 rfl) (wd hw 3 rfl) (by decide) (by decide)) (g := (mkF m 324 #[z0, z1, z2, z3, z4, z5, z6, z7, z8, z9, rv va, rv r, z10, z11, z12, z13, iv (Int32.ofNat (own_is al)), z14, iv (Int32.ofNat ((own_ie al) - (own_is al)))] [(.int (1 : Int32)), (.int (Int32.ofNat ((own_ie al) - (own_is al)))), (.int (Int32.ofNat (own_is al))), (.ref va), (.ref r)])) rfl (by rw [hml]; rfl) (argsL := [(.ref r), (.ref va), (.int (Int32.ofNat (own_is al))), (.int (Int32.ofNat ((own_ie al) - (own_is al)))), (.int (1 : Int32))]) (rest := []) (lenOf pd__Ljava_lang_String__CIII_Z rfl) rfl (by show 2 * 0 + _ ≤ _; exact Nat.le_of_eq rfl) (hb hby at_324) rfl eq2 (by decide) (by decide) (c' := 8) (s' := 24) rfl rfl
  obtain ⟨rfl, Nq3, eq3⟩ := hQ3
  have N3 := Fr.app N2 Nq3
  refine own_stW (T' := T3) (g' := (mkF m 327 #[z0, z1, z2, z3, z4, z5, z6, z7, z8, z9, rv va, rv r, z10, z11, z12, z13, iv (Int32.ofNat (own_is al)), z14, iv (Int32.ofNat ((own_ie al) - (own_is al)))] [(.int (1 : Int32))])) st3 ?_
  clear st3
  refine own_stW (T' := T3) (g' := (mkF m 330 #[z0, z1, z2, z3, z4, z5, z6, z7, z8, z9, rv va, rv r, z10, z11, z12, z13, iv (Int32.ofNat (own_is al)), z14, iv (Int32.ofNat ((own_ie al) - (own_is al)))] [])) (fun _ k_ => XS.ifNo X3.here hx rfl (hb hby at_327) rfl ((if0 _ _).trans (feq (by decide : ¬ ((1 : Int32) = (0 : Int32)))).1) k_) ?_
  refine own_stW (T' := T3) (g' := (mkF m 332 #[z0, z1, z2, z3, z4, z5, z6, z7, z8, z9, rv va, rv r, z10, z11, z12, z13, iv (Int32.ofNat (own_is al)), z14, iv (Int32.ofNat ((own_ie al) - (own_is al)))] [(.ref r)])) (fun _ k_ => XS.aload X3.here hx rfl (hb hby at_330) rfl rfl  k_) ?_
  refine own_stW (T' := T3) (g' := (mkF m 334 #[z0, z1, z2, z3, z4, z5, z6, z7, z8, z9, rv va, rv r, z10, z11, z12, z13, iv (Int32.ofNat (own_is al)), z14, iv (Int32.ofNat ((own_ie al) - (own_is al)))] [(.ref va), (.ref r)])) (fun _ k_ => XS.aload X3.here hx rfl (hb hby at_332) rfl rfl  k_) ?_
  refine own_stW (T' := T3) (g' := (mkF m 336 #[z0, z1, z2, z3, z4, z5, z6, z7, z8, z9, rv va, rv r, z10, z11, z12, z13, iv (Int32.ofNat (own_is al)), z14, iv (Int32.ofNat ((own_ie al) - (own_is al)))] [(.int (Int32.ofNat (own_is al))), (.ref va), (.ref r)])) (fun _ k_ => XS.iload X3.here hx rfl (hb hby at_334) rfl  k_) ?_
  refine own_stW (T' := T3) (g' := (mkF m 338 #[z0, z1, z2, z3, z4, z5, z6, z7, z8, z9, rv va, rv r, z10, z11, z12, z13, iv (Int32.ofNat (own_is al)), z14, iv (Int32.ofNat ((own_ie al) - (own_is al)))] [(.int (Int32.ofNat ((own_ie al) - (own_is al)))), (.int (Int32.ofNat (own_is al))), (.ref va), (.ref r)])) (fun _ k_ => XS.iload X3.here hx rfl (hb hby at_336) rfl  k_) ?_
  refine own_stW (T' := T3) (g' := (mkF m 339 #[z0, z1, z2, z3, z4, z5, z6, z7, z8, z9, rv va, rv r, z10, z11, z12, z13, iv (Int32.ofNat (own_is al)), z14, iv (Int32.ofNat ((own_ie al) - (own_is al)))] [(.int (2 : Int32)), (.int (Int32.ofNat ((own_ie al) - (own_is al)))), (.int (Int32.ofNat (own_is al))), (.ref va), (.ref r)])) (fun _ k_ => XS.iconst X3.here hx rfl (hb hby at_338) k_) ?_
  obtain ⟨_, T4, L4, X4, hQ4, st4⟩ := own_callS X3 hx (y := own_m25) hown (mvT hZ (wd hw 63 rfl)) (mvT hZ (wd hw 64 rfl)) (mvT hZ (wd hw 3 rfl)) (mvT hZ (wd hw 65 rfl)) (by decide) (backOf (W := 0) (rm_same l Z a0 hw [] r va (Int32.ofNat (own_is al)) (Int32.ofNat ((own_ie al) - (own_is al))) (2 : Int32) u ku (own_sub al (own_is al) (own_ie al)) al kc (own_is al) ((own_ie al) - (own_is al)) 2 cz fm hB n0 O0 E_r V_r C_r A_r VA rfl rfl rfl (by decide) (own_subl (own_ieL _)) (by have a := own_isie al; have b := own_ieL al; omega) lal (own_subR hpA _ _) (own_subh al) SC hcz SF hfm) hZ (wd hw 65 rfl) (wd hw 3 rfl) (by decide) (by decide)) (g := (mkF m 339 #[z0, z1, z2, z3, z4, z5, z6, z7, z8, z9, rv va, rv r, z10, z11, z12, z13, iv (Int32.ofNat (own_is al)), z14, iv (Int32.ofNat ((own_ie al) - (own_is al)))] [(.int (2 : Int32)), (.int (Int32.ofNat ((own_ie al) - (own_is al)))), (.int (Int32.ofNat (own_is al))), (.ref va), (.ref r)])) rfl (by rw [hml]; rfl) (argsL := [(.ref r), (.ref va), (.int (Int32.ofNat (own_is al))), (.int (Int32.ofNat ((own_ie al) - (own_is al)))), (.int (2 : Int32))]) (rest := []) (lenOf pd__Ljava_lang_String__CIII_Z rfl) rfl (by show 2 * 0 + _ ≤ _; exact Nat.le_of_eq rfl) (hb hby at_339) rfl eq3 (by decide) (by decide) (c' := 8) (s' := 24) rfl rfl
  obtain ⟨rfl, Nq4, eq4⟩ := hQ4
  have N4 := Fr.app N3 Nq4
  refine own_stW (T' := T4) (g' := (mkF m 342 #[z0, z1, z2, z3, z4, z5, z6, z7, z8, z9, rv va, rv r, z10, z11, z12, z13, iv (Int32.ofNat (own_is al)), z14, iv (Int32.ofNat ((own_ie al) - (own_is al)))] [(.int (1 : Int32))])) st4 ?_
  clear st4
  refine own_stW (T' := T4) (g' := (mkF m 345 #[z0, z1, z2, z3, z4, z5, z6, z7, z8, z9, rv va, rv r, z10, z11, z12, z13, iv (Int32.ofNat (own_is al)), z14, iv (Int32.ofNat ((own_ie al) - (own_is al)))] [])) (fun _ k_ => XS.ifNo X4.here hx rfl (hb hby at_342) rfl ((if0 _ _).trans (feq (by decide : ¬ ((1 : Int32) = (0 : Int32)))).1) k_) ?_
  refine own_stW (T' := T4) (g' := (mkF m 347 #[z0, z1, z2, z3, z4, z5, z6, z7, z8, z9, rv va, rv r, z10, z11, z12, z13, iv (Int32.ofNat (own_is al)), z14, iv (Int32.ofNat ((own_ie al) - (own_is al)))] [(.ref r)])) (fun _ k_ => XS.aload X4.here hx rfl (hb hby at_345) rfl rfl  k_) ?_
  refine own_stW (T' := T4) (g' := (mkF m 349 #[z0, z1, z2, z3, z4, z5, z6, z7, z8, z9, rv va, rv r, z10, z11, z12, z13, iv (Int32.ofNat (own_is al)), z14, iv (Int32.ofNat ((own_ie al) - (own_is al)))] [(.ref va), (.ref r)])) (fun _ k_ => XS.aload X4.here hx rfl (hb hby at_347) rfl rfl  k_) ?_
  refine own_stW (T' := T4) (g' := (mkF m 351 #[z0, z1, z2, z3, z4, z5, z6, z7, z8, z9, rv va, rv r, z10, z11, z12, z13, iv (Int32.ofNat (own_is al)), z14, iv (Int32.ofNat ((own_ie al) - (own_is al)))] [(.int (Int32.ofNat (own_is al))), (.ref va), (.ref r)])) (fun _ k_ => XS.iload X4.here hx rfl (hb hby at_349) rfl  k_) ?_
  refine own_stW (T' := T4) (g' := (mkF m 353 #[z0, z1, z2, z3, z4, z5, z6, z7, z8, z9, rv va, rv r, z10, z11, z12, z13, iv (Int32.ofNat (own_is al)), z14, iv (Int32.ofNat ((own_ie al) - (own_is al)))] [(.int (Int32.ofNat ((own_ie al) - (own_is al)))), (.int (Int32.ofNat (own_is al))), (.ref va), (.ref r)])) (fun _ k_ => XS.iload X4.here hx rfl (hb hby at_351) rfl  k_) ?_
  refine own_stW (T' := T4) (g' := (mkF m 354 #[z0, z1, z2, z3, z4, z5, z6, z7, z8, z9, rv va, rv r, z10, z11, z12, z13, iv (Int32.ofNat (own_is al)), z14, iv (Int32.ofNat ((own_ie al) - (own_is al)))] [(.int (3 : Int32)), (.int (Int32.ofNat ((own_ie al) - (own_is al)))), (.int (Int32.ofNat (own_is al))), (.ref va), (.ref r)])) (fun _ k_ => XS.iconst X4.here hx rfl (hb hby at_353) k_) ?_
  obtain ⟨_, T5, L5, X5, hQ5, st5⟩ := own_callS X4 hx (y := own_m25) hown (mvT hZ (wd hw 63 rfl)) (mvT hZ (wd hw 64 rfl)) (mvT hZ (wd hw 3 rfl)) (mvT hZ (wd hw 65 rfl)) (by decide) (backOf (W := 0) (rm_same l Z a0 hw [] r va (Int32.ofNat (own_is al)) (Int32.ofNat ((own_ie al) - (own_is al))) (3 : Int32) u ku (own_sub al (own_is al) (own_ie al)) al kc (own_is al) ((own_ie al) - (own_is al)) 3 cz fm hB n0 O0 E_r V_r C_r A_r VA rfl rfl rfl (by decide) (own_subl (own_ieL _)) (by have a := own_isie al; have b := own_ieL al; omega) lal (own_subR hpA _ _) (own_subh al) SC hcz SF hfm) hZ (wd hw 65 rfl) (wd hw 3 rfl) (by decide) (by decide)) (g := (mkF m 354 #[z0, z1, z2, z3, z4, z5, z6, z7, z8, z9, rv va, rv r, z10, z11, z12, z13, iv (Int32.ofNat (own_is al)), z14, iv (Int32.ofNat ((own_ie al) - (own_is al)))] [(.int (3 : Int32)), (.int (Int32.ofNat ((own_ie al) - (own_is al)))), (.int (Int32.ofNat (own_is al))), (.ref va), (.ref r)])) rfl (by rw [hml]; rfl) (argsL := [(.ref r), (.ref va), (.int (Int32.ofNat (own_is al))), (.int (Int32.ofNat ((own_ie al) - (own_is al)))), (.int (3 : Int32))]) (rest := []) (lenOf pd__Ljava_lang_String__CIII_Z rfl) rfl (by show 2 * 0 + _ ≤ _; exact Nat.le_of_eq rfl) (hb hby at_354) rfl eq4 (by decide) (by decide) (c' := 8) (s' := 24) rfl rfl
  obtain ⟨rfl, Nq5, eq5⟩ := hQ5
  have N5 := Fr.app N4 Nq5
  refine own_stW (T' := T5) (g' := (mkF m 357 #[z0, z1, z2, z3, z4, z5, z6, z7, z8, z9, rv va, rv r, z10, z11, z12, z13, iv (Int32.ofNat (own_is al)), z14, iv (Int32.ofNat ((own_ie al) - (own_is al)))] [(.int (1 : Int32))])) st5 ?_
  clear st5
  refine own_stW (T' := T5) (g' := (mkF m 360 #[z0, z1, z2, z3, z4, z5, z6, z7, z8, z9, rv va, rv r, z10, z11, z12, z13, iv (Int32.ofNat (own_is al)), z14, iv (Int32.ofNat ((own_ie al) - (own_is al)))] [])) (fun _ k_ => XS.ifNo X5.here hx rfl (hb hby at_357) rfl ((if0 _ _).trans (feq (by decide : ¬ ((1 : Int32) = (0 : Int32)))).1) k_) ?_
  refine own_stW (T' := T5) (g' := (mkF m 361 #[z0, z1, z2, z3, z4, z5, z6, z7, z8, z9, rv va, rv r, z10, z11, z12, z13, iv (Int32.ofNat (own_is al)), z14, iv (Int32.ofNat ((own_ie al) - (own_is al)))] [(.int (1 : Int32))])) (fun _ k_ => XS.iconst X5.here hx rfl (hb hby at_360) k_) ?_
  refine own_stW (T' := T5) (g' := (mkF m 365 #[z0, z1, z2, z3, z4, z5, z6, z7, z8, z9, rv va, rv r, z10, z11, z12, z13, iv (Int32.ofNat (own_is al)), z14, iv (Int32.ofNat ((own_ie al) - (own_is al)))] [(.int (1 : Int32))])) (fun _ k_ => XS.goto X5.here hx rfl (pc0 := 361) (pc' := 365) rfl (hb hby at_361) (by decide) (by decide) k_) ?_
  exact own_retNW X5 hZ hS0 (by rw [eq5]; exact hk0) hEL (by rw [eq5]; exact CR0) hx (t := .boolean) hret (by simp) hlk (hb hby at_365) (by decide) (by decide) ⟨rfl, N5⟩
set_option maxRecDepth 65536 in
set_option maxHeartbeats 40000000 in
theorem seg_g0 {p : Program} {l : Launch} {e : Env} {s : State} {m : MethodId} {args : Array Value} {below : List Frame} {meth : Method} {c : Code} {T0 : State} {locs : List Loc} {Z : State} {a0 : Array Value} {vm0 : Vm} {k0 : Nat} (h0 : Heap) (hB : Heap) (n0 : Nat) (p0 : Int32) (p1 : Int32) (p2 : Int32) (p3 : Int32) (p4 : Int32) (c0 : Int32) (c1 : Int32) (c2 : Int32) (c3 : Int32) (va : Addr) (kc : ClassId) (r : Addr) (u : Addr) (ku : ClassId) (ss : Nat) (ee : Int32) (cz : Int32) (fm : Value)
    (X0 : Stand p l e room_1 (s.setVm vm0) m args below meth c T0 locs 8 24) (hx : p.tables.exec = Jvm.exec) (hZs : Z.Warmed39 s.vm) (hZ : Z.Warmed39 (s.setVm vm0).vm) (hS0 : s.Since vm0 k0) (hk0 : k0 ≤ hB.size) (CR0 : CHr Z consts_1 s.vm h0 vm0 hB) (hw : ∀ d ∈ tables_1, d.before a0 Z = true) (hby : c.code = code) (hml : c.maxLocals = 19) (howns : s.vm.findClass "com/example/sheafgate/sheafgate/http/RequestFieldsStripPinLaw" = some m.cls) (hown : (s.setVm vm0).vm.findClass "com/example/sheafgate/sheafgate/http/RequestFieldsStripPinLaw" = some m.cls) (hnm : meth.name = "law") (hret : meth.sig.returnType = some .boolean) (hlk : meth.locks = false) (e0 : T0.heap = hB) (N0 : Fr n0 locs) (O0 : Old Z n0 hB) (hr0 : ¬ c0 < 0 ∧ ¬ (255 : Int32) < c0) (hr1 : ¬ c1 < 0 ∧ ¬ (255 : Int32) < c1) (hr2 : ¬ c2 < 0 ∧ ¬ (255 : Int32) < c2) (hr3 : ¬ c3 < 0 ∧ ¬ (255 : Int32) < c3) (VA : Arv Z hB va kc .char (0 : Int32) [] (.int (0 : Int32))) (E_r : Exa Z hB r "java/lang/String") (V_r : Fld Z hB r "java/lang/String" "value" "[B" (.ref u)) (C_r : Fld Z hB r "java/lang/String" "coder" "B" (.int (0 : Int32))) (A_r : Arv Z hB u ku .byte (Int32.ofNat (own_sub ([] : List Int32) (own_is ([] : List Int32)) (own_ie ([] : List Int32))).length) (((own_sub ([] : List Int32) (own_is ([] : List Int32)) (own_ie ([] : List Int32))).map StrChars.lo8).map Value.int) (.int (0 : Int32))) (hs : (own_is ([] : List Int32)) = ss) (he : (own_is ([] : List Int32)) < 0 → ee = Int32.ofNat (own_ie ([] : List Int32))) (SC : Sta Z Z.heap "java/lang/String" "COMPACT_STRINGS" "Z" (.int cz)) (hcz : ¬ cz = (0 : Int32)) (SF : Sta Z Z.heap "jdk/internal/util/Preconditions" "SIOOBE_FORMATTER" "Ljava/util/function/BiFunction;" fm) (hfm : fm.isRef = true) :
    own_W p e below s room_1.cells room_1.slots Z consts_1 h0 (own_L n0) T0 (mkF m 270 #[iv p0, iv p1, iv p2, iv p3, iv p4, iv (0 : Int32), iv c0, iv c1, iv c2, iv c3, rv va, rv r, iv (own_wi c0), iv (own_wi c1), iv (own_wi c2), iv (own_wi c3), iv (Int32.ofNat ss), iv ee, .unset] []) := by
  have hEL := own_EW hw
  subst hs
  refine own_stW (T' := T0) (g' := (mkF m 272 #[iv p0, iv p1, iv p2, iv p3, iv p4, iv (0 : Int32), iv c0, iv c1, iv c2, iv c3, rv va, rv r, iv (own_wi c0), iv (own_wi c1), iv (own_wi c2), iv (own_wi c3), iv (Int32.ofNat (own_is ([] : List Int32))), iv ee, .unset] [(.int (Int32.ofNat (own_is ([] : List Int32))))])) (fun _ k_ => XS.iload X0.here hx rfl (hb hby at_270) rfl  k_) ?_
  refine own_stW (T' := T0) (g' := (mkF m 274 #[iv p0, iv p1, iv p2, iv p3, iv p4, iv (0 : Int32), iv c0, iv c1, iv c2, iv c3, rv va, rv r, iv (own_wi c0), iv (own_wi c1), iv (own_wi c2), iv (own_wi c3), iv (Int32.ofNat (own_is ([] : List Int32))), iv ee, .unset] [(.int (0 : Int32)), (.int (Int32.ofNat (own_is ([] : List Int32))))])) (fun _ k_ => XS.iload X0.here hx rfl (hb hby at_272) rfl  k_) ?_
  refine own_stW (T' := T0) (g' := (mkF m 285 #[iv p0, iv p1, iv p2, iv p3, iv p4, iv (0 : Int32), iv c0, iv c1, iv c2, iv c3, rv va, rv r, iv (own_wi c0), iv (own_wi c1), iv (own_wi c2), iv (own_wi c3), iv (Int32.ofNat (own_is ([] : List Int32))), iv ee, .unset] [])) (fun _ k_ => XS.icmpYes X0.here hx rfl (pc0 := 274) (pc' := 285) rfl (hb hby at_274) rfl (flt ((by decide) : ¬ ((Int32.ofNat (own_is ([] : List Int32))) < (0 : Int32)))).2.1 (by decide) (by decide) k_) ?_
  refine own_stW (T' := T0) (g' := (mkF m 286 #[iv p0, iv p1, iv p2, iv p3, iv p4, iv (0 : Int32), iv c0, iv c1, iv c2, iv c3, rv va, rv r, iv (own_wi c0), iv (own_wi c1), iv (own_wi c2), iv (own_wi c3), iv (Int32.ofNat (own_is ([] : List Int32))), iv ee, .unset] [(.int (0 : Int32))])) (fun _ k_ => XS.iconst X0.here hx rfl (hb hby at_285) k_) ?_
  refine own_stW (T' := T0) (g' := (mkF m 288 #[iv p0, iv p1, iv p2, iv p3, iv p4, iv (0 : Int32), iv c0, iv c1, iv c2, iv c3, rv va, rv r, iv (own_wi c0), iv (own_wi c1), iv (own_wi c2), iv (own_wi c3), iv (Int32.ofNat (own_is ([] : List Int32))), iv ee, iv (0 : Int32)] [])) (fun _ k_ => XS.istore X0.here hx rfl (hb hby at_286) rfl (l' := #[iv p0, iv p1, iv p2, iv p3, iv p4, iv (0 : Int32), iv c0, iv c1, iv c2, iv c3, rv va, rv r, iv (own_wi c0), iv (own_wi c1), iv (own_wi c2), iv (own_wi c3), iv (Int32.ofNat (own_is ([] : List Int32))), iv ee, iv (0 : Int32)]) rfl k_) ?_
  exact seg_h h0 hB n0 _ _ _ _ _ _ _ _ _ _ _ _ _ _ _ va kc r u ku ([] : List Int32) _ cz fm X0 hx hZs hZ hS0 hk0 CR0 hw hby hml howns hown hnm hret hlk e0 N0 O0 (Nat.le_of_ble_eq_true rfl) own_cR0 VA E_r V_r C_r A_r (by have a := own_all ([] : List Int32) (fun q => absurd (Nat.lt_of_lt_of_le q (own_ieL ([] : List Int32))) (Nat.not_lt_zero _)); rw [a.2, Nat.sub_self]; rfl) SC hcz SF hfm
set_option maxRecDepth 65536 in
set_option maxHeartbeats 40000000 in
theorem seg_f0 {p : Program} {l : Launch} {e : Env} {s : State} {m : MethodId} {args : Array Value} {below : List Frame} {meth : Method} {c : Code} {T0 : State} {locs : List Loc} {Z : State} {a0 : Array Value} {vm0 : Vm} {k0 : Nat} (h0 : Heap) (hB : Heap) (n0 : Nat) (p0 : Int32) (p1 : Int32) (p2 : Int32) (p3 : Int32) (p4 : Int32) (c0 : Int32) (c1 : Int32) (c2 : Int32) (c3 : Int32) (va : Addr) (kc : ClassId) (r : Addr) (u : Addr) (ku : ClassId) (ss : Nat) (cz : Int32) (fm : Value)
    (X0 : Stand p l e room_1 (s.setVm vm0) m args below meth c T0 locs 8 24) (hx : p.tables.exec = Jvm.exec) (hZs : Z.Warmed39 s.vm) (hZ : Z.Warmed39 (s.setVm vm0).vm) (hS0 : s.Since vm0 k0) (hk0 : k0 ≤ hB.size) (CR0 : CHr Z consts_1 s.vm h0 vm0 hB) (hw : ∀ d ∈ tables_1, d.before a0 Z = true) (hby : c.code = code) (hml : c.maxLocals = 19) (howns : s.vm.findClass "com/example/sheafgate/sheafgate/http/RequestFieldsStripPinLaw" = some m.cls) (hown : (s.setVm vm0).vm.findClass "com/example/sheafgate/sheafgate/http/RequestFieldsStripPinLaw" = some m.cls) (hnm : meth.name = "law") (hret : meth.sig.returnType = some .boolean) (hlk : meth.locks = false) (e0 : T0.heap = hB) (N0 : Fr n0 locs) (O0 : Old Z n0 hB) (hr0 : ¬ c0 < 0 ∧ ¬ (255 : Int32) < c0) (hr1 : ¬ c1 < 0 ∧ ¬ (255 : Int32) < c1) (hr2 : ¬ c2 < 0 ∧ ¬ (255 : Int32) < c2) (hr3 : ¬ c3 < 0 ∧ ¬ (255 : Int32) < c3) (VA : Arv Z hB va kc .char (0 : Int32) [] (.int (0 : Int32))) (E_r : Exa Z hB r "java/lang/String") (V_r : Fld Z hB r "java/lang/String" "value" "[B" (.ref u)) (C_r : Fld Z hB r "java/lang/String" "coder" "B" (.int (0 : Int32))) (A_r : Arv Z hB u ku .byte (Int32.ofNat (own_sub ([] : List Int32) (own_is ([] : List Int32)) (own_ie ([] : List Int32))).length) (((own_sub ([] : List Int32) (own_is ([] : List Int32)) (own_ie ([] : List Int32))).map StrChars.lo8).map Value.int) (.int (0 : Int32))) (hs : (own_is ([] : List Int32)) = ss) (SC : Sta Z Z.heap "java/lang/String" "COMPACT_STRINGS" "Z" (.int cz)) (hcz : ¬ cz = (0 : Int32)) (SF : Sta Z Z.heap "jdk/internal/util/Preconditions" "SIOOBE_FORMATTER" "Ljava/util/function/BiFunction;" fm) (hfm : fm.isRef = true) :
    own_W p e below s room_1.cells room_1.slots Z consts_1 h0 (own_L n0) T0 (mkF m 200 #[iv p0, iv p1, iv p2, iv p3, iv p4, iv (0 : Int32), iv c0, iv c1, iv c2, iv c3, rv va, rv r, iv (own_wi c0), iv (own_wi c1), iv (own_wi c2), iv (own_wi c3), iv (Int32.ofNat ss), .unset, .unset] []) := by
  have hEL := own_EW hw
  refine own_stW (T' := T0) (g' := (mkF m 202 #[iv p0, iv p1, iv p2, iv p3, iv p4, iv (0 : Int32), iv c0, iv c1, iv c2, iv c3, rv va, rv r, iv (own_wi c0), iv (own_wi c1), iv (own_wi c2), iv (own_wi c3), iv (Int32.ofNat ss), .unset, .unset] [(.int (0 : Int32))])) (fun _ k_ => XS.iload X0.here hx rfl (hb hby at_200) rfl  k_) ?_
  refine own_stW (T' := T0) (g' := (mkF m 203 #[iv p0, iv p1, iv p2, iv p3, iv p4, iv (0 : Int32), iv c0, iv c1, iv c2, iv c3, rv va, rv r, iv (own_wi c0), iv (own_wi c1), iv (own_wi c2), iv (own_wi c3), iv (Int32.ofNat ss), .unset, .unset] [(.int (3 : Int32)), (.int (0 : Int32))])) (fun _ k_ => XS.iconst X0.here hx rfl (hb hby at_202) k_) ?_
  refine own_stW (T' := T0) (g' := (mkF m 217 #[iv p0, iv p1, iv p2, iv p3, iv p4, iv (0 : Int32), iv c0, iv c1, iv c2, iv c3, rv va, rv r, iv (own_wi c0), iv (own_wi c1), iv (own_wi c2), iv (own_wi c3), iv (Int32.ofNat ss), .unset, .unset] [])) (fun _ k_ => XS.icmpYes X0.here hx rfl (pc0 := 203) (pc' := 217) rfl (hb hby at_203) rfl (flt (by decide : ¬ ((3 : Int32) < (0 : Int32)))).2.2.2 (by decide) (by decide) k_) ?_
  refine own_stW (T' := T0) (g' := (mkF m 219 #[iv p0, iv p1, iv p2, iv p3, iv p4, iv (0 : Int32), iv c0, iv c1, iv c2, iv c3, rv va, rv r, iv (own_wi c0), iv (own_wi c1), iv (own_wi c2), iv (own_wi c3), iv (Int32.ofNat ss), .unset, .unset] [(.int (0 : Int32))])) (fun _ k_ => XS.iload X0.here hx rfl (hb hby at_217) rfl  k_) ?_
  refine own_stW (T' := T0) (g' := (mkF m 220 #[iv p0, iv p1, iv p2, iv p3, iv p4, iv (0 : Int32), iv c0, iv c1, iv c2, iv c3, rv va, rv r, iv (own_wi c0), iv (own_wi c1), iv (own_wi c2), iv (own_wi c3), iv (Int32.ofNat ss), .unset, .unset] [(.int (2 : Int32)), (.int (0 : Int32))])) (fun _ k_ => XS.iconst X0.here hx rfl (hb hby at_219) k_) ?_
  refine own_stW (T' := T0) (g' := (mkF m 234 #[iv p0, iv p1, iv p2, iv p3, iv p4, iv (0 : Int32), iv c0, iv c1, iv c2, iv c3, rv va, rv r, iv (own_wi c0), iv (own_wi c1), iv (own_wi c2), iv (own_wi c3), iv (Int32.ofNat ss), .unset, .unset] [])) (fun _ k_ => XS.icmpYes X0.here hx rfl (pc0 := 220) (pc' := 234) rfl (hb hby at_220) rfl (flt (by decide : ¬ ((2 : Int32) < (0 : Int32)))).2.2.2 (by decide) (by decide) k_) ?_
  refine own_stW (T' := T0) (g' := (mkF m 236 #[iv p0, iv p1, iv p2, iv p3, iv p4, iv (0 : Int32), iv c0, iv c1, iv c2, iv c3, rv va, rv r, iv (own_wi c0), iv (own_wi c1), iv (own_wi c2), iv (own_wi c3), iv (Int32.ofNat ss), .unset, .unset] [(.int (0 : Int32))])) (fun _ k_ => XS.iload X0.here hx rfl (hb hby at_234) rfl  k_) ?_
  refine own_stW (T' := T0) (g' := (mkF m 237 #[iv p0, iv p1, iv p2, iv p3, iv p4, iv (0 : Int32), iv c0, iv c1, iv c2, iv c3, rv va, rv r, iv (own_wi c0), iv (own_wi c1), iv (own_wi c2), iv (own_wi c3), iv (Int32.ofNat ss), .unset, .unset] [(.int (1 : Int32)), (.int (0 : Int32))])) (fun _ k_ => XS.iconst X0.here hx rfl (hb hby at_236) k_) ?_
  refine own_stW (T' := T0) (g' := (mkF m 251 #[iv p0, iv p1, iv p2, iv p3, iv p4, iv (0 : Int32), iv c0, iv c1, iv c2, iv c3, rv va, rv r, iv (own_wi c0), iv (own_wi c1), iv (own_wi c2), iv (own_wi c3), iv (Int32.ofNat ss), .unset, .unset] [])) (fun _ k_ => XS.icmpYes X0.here hx rfl (pc0 := 237) (pc' := 251) rfl (hb hby at_237) rfl (flt (by decide : ¬ ((1 : Int32) < (0 : Int32)))).2.2.2 (by decide) (by decide) k_) ?_
  refine own_stW (T' := T0) (g' := (mkF m 253 #[iv p0, iv p1, iv p2, iv p3, iv p4, iv (0 : Int32), iv c0, iv c1, iv c2, iv c3, rv va, rv r, iv (own_wi c0), iv (own_wi c1), iv (own_wi c2), iv (own_wi c3), iv (Int32.ofNat ss), .unset, .unset] [(.int (0 : Int32))])) (fun _ k_ => XS.iload X0.here hx rfl (hb hby at_251) rfl  k_) ?_
  refine own_stW (T' := T0) (g' := (mkF m 267 #[iv p0, iv p1, iv p2, iv p3, iv p4, iv (0 : Int32), iv c0, iv c1, iv c2, iv c3, rv va, rv r, iv (own_wi c0), iv (own_wi c1), iv (own_wi c2), iv (own_wi c3), iv (Int32.ofNat ss), .unset, .unset] [])) (fun _ k_ => XS.ifYes X0.here hx rfl (pc0 := 253) (pc' := 267) rfl (hb hby at_253) rfl ((if0 _ _).trans (flt (by decide : ¬ ((0 : Int32) < (0 : Int32)))).2.2.2) (by decide) (by decide) k_) ?_
  refine own_stW (T' := T0) (g' := (mkF m 268 #[iv p0, iv p1, iv p2, iv p3, iv p4, iv (0 : Int32), iv c0, iv c1, iv c2, iv c3, rv va, rv r, iv (own_wi c0), iv (own_wi c1), iv (own_wi c2), iv (own_wi c3), iv (Int32.ofNat ss), .unset, .unset] [(.int (0 : Int32))])) (fun _ k_ => XS.iconst X0.here hx rfl (hb hby at_267) k_) ?_
  refine own_stW (T' := T0) (g' := (mkF m 270 #[iv p0, iv p1, iv p2, iv p3, iv p4, iv (0 : Int32), iv c0, iv c1, iv c2, iv c3, rv va, rv r, iv (own_wi c0), iv (own_wi c1), iv (own_wi c2), iv (own_wi c3), iv (Int32.ofNat ss), iv (0 : Int32), .unset] [])) (fun _ k_ => XS.istore X0.here hx rfl (hb hby at_268) rfl (l' := #[iv p0, iv p1, iv p2, iv p3, iv p4, iv (0 : Int32), iv c0, iv c1, iv c2, iv c3, rv va, rv r, iv (own_wi c0), iv (own_wi c1), iv (own_wi c2), iv (own_wi c3), iv (Int32.ofNat ss), iv (0 : Int32), .unset]) rfl k_) ?_
  exact seg_g0 h0 hB n0 p0 p1 p2 p3 p4 c0 c1 c2 c3 va kc r u ku ss _ cz fm X0 hx hZs hZ hS0 hk0 CR0 hw hby hml howns hown hnm hret hlk e0 N0 O0 hr0 hr1 hr2 hr3 VA E_r V_r C_r A_r hs (fun q => by have z : (own_is ([] : List Int32)) = 0 := (by simp [own_is]); omega) SC hcz SF hfm
theorem pd__I__C : parseMethodDescriptor "(I)[C" = some ⟨[.int], some (.array .char)⟩ := by decide +kernel
theorem pd___C_V : parseMethodDescriptor "([C)V" = some ⟨[(.array .char)], none⟩ := by decide +kernel
theorem pd__Ljava_lang_String__Ljava_lang_String_ : parseMethodDescriptor "(Ljava/lang/String;)Ljava/lang/String;" = some ⟨[(.object "java/lang/String")], some (.object "java/lang/String")⟩ := by decide +kernel
theorem pd__C_Z : parseMethodDescriptor "(C)Z" = some ⟨[.char], some .boolean⟩ := by decide +kernel
set_option maxRecDepth 65536 in
set_option maxHeartbeats 40000000 in
theorem seg_a0 {p : Program} {l : Launch} {e : Env} {s : State} {m : MethodId} {args : Array Value} {below : List Frame} {meth : Method} {c : Code} {T0 : State} {locs : List Loc} {Z : State} {a0 : Array Value} {vm0 : Vm} {k0 : Nat} (h0 : Heap) (hB : Heap) (n0 : Nat) (p0 : Int32) (p1 : Int32) (p2 : Int32) (p3 : Int32) (p4 : Int32) (c0 : Int32) (c1 : Int32) (c2 : Int32) (c3 : Int32) (cz : Int32) (fm : Value)
    (X0 : Stand p l e room_1 (s.setVm vm0) m args below meth c T0 locs 0 0) (hx : p.tables.exec = Jvm.exec) (hZs : Z.Warmed39 s.vm) (hZ : Z.Warmed39 (s.setVm vm0).vm) (hS0 : s.Since vm0 k0) (hk0 : k0 ≤ hB.size) (CR0 : CHr Z consts_1 s.vm h0 vm0 hB) (hw : ∀ d ∈ tables_1, d.before a0 Z = true) (hby : c.code = code) (hml : c.maxLocals = 19) (howns : s.vm.findClass "com/example/sheafgate/sheafgate/http/RequestFieldsStripPinLaw" = some m.cls) (hown : (s.setVm vm0).vm.findClass "com/example/sheafgate/sheafgate/http/RequestFieldsStripPinLaw" = some m.cls) (hnm : meth.name = "law") (hret : meth.sig.returnType = some .boolean) (hlk : meth.locks = false) (e0 : T0.heap = hB) (N0 : Fr n0 locs) (O0 : Old Z n0 hB) (hr0 : ¬ c0 < 0 ∧ ¬ (255 : Int32) < c0) (hr1 : ¬ c1 < 0 ∧ ¬ (255 : Int32) < c1) (hr2 : ¬ c2 < 0 ∧ ¬ (255 : Int32) < c2) (hr3 : ¬ c3 < 0 ∧ ¬ (255 : Int32) < c3) (SC : Sta Z Z.heap "java/lang/String" "COMPACT_STRINGS" "Z" (.int cz)) (hcz : ¬ cz = (0 : Int32)) (SF : Sta Z Z.heap "jdk/internal/util/Preconditions" "SIOOBE_FORMATTER" "Ljava/util/function/BiFunction;" fm) (hfm : fm.isRef = true) :
    own_W p e below s room_1.cells room_1.slots Z consts_1 h0 (own_L n0) T0 (mkF m 33 #[iv p0, iv p1, iv p2, iv p3, iv p4, iv (0 : Int32), iv c0, iv c1, iv c2, iv c3, .unset, .unset, .unset, .unset, .unset, .unset, .unset, .unset, .unset] []) := by
  have hEL := own_EW hw
  refine own_stW (T' := T0) (g' := (mkF m 35 #[iv p0, iv p1, iv p2, iv p3, iv p4, iv (0 : Int32), iv c0, iv c1, iv c2, iv c3, .unset, .unset, .unset, .unset, .unset, .unset, .unset, .unset, .unset] [(.int (0 : Int32))])) (fun _ k_ => XS.iload X0.here hx rfl (hb hby at_33) rfl  k_) ?_
  obtain ⟨_, T1, L1, X1, hQ1, st1⟩ := own_callS X0 hx (y := own_m24) hown (mvT hZ (wd hw 5 rfl)) (mvT hZ (wd hw 6 rfl)) (mvT hZ (wd hw 3 rfl)) (mvT hZ (wd hw 7 rfl)) (by decide) (backOf (W := 0) (rm_make0 l Z a0 hw []  hB n0 O0) hZ (wd hw 7 rfl) (wd hw 3 rfl) (by decide) (by decide)) (g := (mkF m 35 #[iv p0, iv p1, iv p2, iv p3, iv p4, iv (0 : Int32), iv c0, iv c1, iv c2, iv c3, .unset, .unset, .unset, .unset, .unset, .unset, .unset, .unset, .unset] [(.int (0 : Int32))])) rfl (by rw [hml]; rfl) (argsL := [(.int (0 : Int32))]) (rest := []) (lenOf pd__I__C rfl) rfl (by show 2 * 0 + _ ≤ _; exact Nat.le_of_eq rfl) (hb hby at_35) rfl e0 (by decide) (by decide) (c' := 1) (s' := 4) rfl rfl
  obtain ⟨va1, kc1, rfl, Nq1, K1, fq1_0, xq1_fresh_va⟩ := hQ1
  have N1 := Fr.app N0 Nq1
  have CR2 : CHr Z consts_1 s.vm h0 vm0 T1.heap := CR0.trans (CHr.keep K1 sf0 CR0.1)
  refine own_stW (T' := T1) (g' := (mkF m 38 #[iv p0, iv p1, iv p2, iv p3, iv p4, iv (0 : Int32), iv c0, iv c1, iv c2, iv c3, .unset, .unset, .unset, .unset, .unset, .unset, .unset, .unset, .unset] [(.ref va1)])) st1 ?_
  clear st1
  refine own_stW (T' := T1) (g' := (mkF m 40 #[iv p0, iv p1, iv p2, iv p3, iv p4, iv (0 : Int32), iv c0, iv c1, iv c2, iv c3, rv va1, .unset, .unset, .unset, .unset, .unset, .unset, .unset, .unset] [])) (fun _ k_ => XS.astore X1.here hx rfl (hb hby at_38) rfl rfl (l' := #[iv p0, iv p1, iv p2, iv p3, iv p4, iv (0 : Int32), iv c0, iv c1, iv c2, iv c3, rv va1, .unset, .unset, .unset, .unset, .unset, .unset, .unset, .unset]) rfl k_) ?_
  refine own_stW (T' := T1) (g' := (mkF m 42 #[iv p0, iv p1, iv p2, iv p3, iv p4, iv (0 : Int32), iv c0, iv c1, iv c2, iv c3, rv va1, .unset, .unset, .unset, .unset, .unset, .unset, .unset, .unset] [(.int (0 : Int32))])) (fun _ k_ => XS.iload X1.here hx rfl (hb hby at_40) rfl  k_) ?_
  refine own_stW (T' := T1) (g' := (mkF m 51 #[iv p0, iv p1, iv p2, iv p3, iv p4, iv (0 : Int32), iv c0, iv c1, iv c2, iv c3, rv va1, .unset, .unset, .unset, .unset, .unset, .unset, .unset, .unset] [])) (fun _ k_ => XS.ifYes X1.here hx rfl (pc0 := 42) (pc' := 51) rfl (hb hby at_42) rfl ((if0 _ _).trans (flt (by decide : ¬ ((0 : Int32) < (0 : Int32)))).2.2.2) (by decide) (by decide) k_) ?_
  refine own_stW (T' := T1) (g' := (mkF m 53 #[iv p0, iv p1, iv p2, iv p3, iv p4, iv (0 : Int32), iv c0, iv c1, iv c2, iv c3, rv va1, .unset, .unset, .unset, .unset, .unset, .unset, .unset, .unset] [(.int (0 : Int32))])) (fun _ k_ => XS.iload X1.here hx rfl (hb hby at_51) rfl  k_) ?_
  refine own_stW (T' := T1) (g' := (mkF m 54 #[iv p0, iv p1, iv p2, iv p3, iv p4, iv (0 : Int32), iv c0, iv c1, iv c2, iv c3, rv va1, .unset, .unset, .unset, .unset, .unset, .unset, .unset, .unset] [(.int (1 : Int32)), (.int (0 : Int32))])) (fun _ k_ => XS.iconst X1.here hx rfl (hb hby at_53) k_) ?_
  refine own_stW (T' := T1) (g' := (mkF m 63 #[iv p0, iv p1, iv p2, iv p3, iv p4, iv (0 : Int32), iv c0, iv c1, iv c2, iv c3, rv va1, .unset, .unset, .unset, .unset, .unset, .unset, .unset, .unset] [])) (fun _ k_ => XS.icmpYes X1.here hx rfl (pc0 := 54) (pc' := 63) rfl (hb hby at_54) rfl (flt (by decide : ¬ ((1 : Int32) < (0 : Int32)))).2.2.2 (by decide) (by decide) k_) ?_
  refine own_stW (T' := T1) (g' := (mkF m 65 #[iv p0, iv p1, iv p2, iv p3, iv p4, iv (0 : Int32), iv c0, iv c1, iv c2, iv c3, rv va1, .unset, .unset, .unset, .unset, .unset, .unset, .unset, .unset] [(.int (0 : Int32))])) (fun _ k_ => XS.iload X1.here hx rfl (hb hby at_63) rfl  k_) ?_
  refine own_stW (T' := T1) (g' := (mkF m 66 #[iv p0, iv p1, iv p2, iv p3, iv p4, iv (0 : Int32), iv c0, iv c1, iv c2, iv c3, rv va1, .unset, .unset, .unset, .unset, .unset, .unset, .unset, .unset] [(.int (2 : Int32)), (.int (0 : Int32))])) (fun _ k_ => XS.iconst X1.here hx rfl (hb hby at_65) k_) ?_
  refine own_stW (T' := T1) (g' := (mkF m 75 #[iv p0, iv p1, iv p2, iv p3, iv p4, iv (0 : Int32), iv c0, iv c1, iv c2, iv c3, rv va1, .unset, .unset, .unset, .unset, .unset, .unset, .unset, .unset] [])) (fun _ k_ => XS.icmpYes X1.here hx rfl (pc0 := 66) (pc' := 75) rfl (hb hby at_66) rfl (flt (by decide : ¬ ((2 : Int32) < (0 : Int32)))).2.2.2 (by decide) (by decide) k_) ?_
  refine own_stW (T' := T1) (g' := (mkF m 77 #[iv p0, iv p1, iv p2, iv p3, iv p4, iv (0 : Int32), iv c0, iv c1, iv c2, iv c3, rv va1, .unset, .unset, .unset, .unset, .unset, .unset, .unset, .unset] [(.int (0 : Int32))])) (fun _ k_ => XS.iload X1.here hx rfl (hb hby at_75) rfl  k_) ?_
  refine own_stW (T' := T1) (g' := (mkF m 78 #[iv p0, iv p1, iv p2, iv p3, iv p4, iv (0 : Int32), iv c0, iv c1, iv c2, iv c3, rv va1, .unset, .unset, .unset, .unset, .unset, .unset, .unset, .unset] [(.int (3 : Int32)), (.int (0 : Int32))])) (fun _ k_ => XS.iconst X1.here hx rfl (hb hby at_77) k_) ?_
  refine own_stW (T' := T1) (g' := (mkF m 87 #[iv p0, iv p1, iv p2, iv p3, iv p4, iv (0 : Int32), iv c0, iv c1, iv c2, iv c3, rv va1, .unset, .unset, .unset, .unset, .unset, .unset, .unset, .unset] [])) (fun _ k_ => XS.icmpYes X1.here hx rfl (pc0 := 78) (pc' := 87) rfl (hb hby at_78) rfl (flt (by decide : ¬ ((3 : Int32) < (0 : Int32)))).2.2.2 (by decide) (by decide) k_) ?_
  have f3 : Old Z n0 T1.heap := O0.keep K1 all0
  obtain ⟨T4, h4, X4, e4, E4, A4, D4, -, st4⟩ := newO X1 hx hZ hown (wd hw 9 rfl) (wd hw 10 rfl) (wd hw 11 rfl) rfl (g := (mkF m 87 #[iv p0, iv p1, iv p2, iv p3, iv p4, iv (0 : Int32), iv c0, iv c1, iv c2, iv c3, rv va1, .unset, .unset, .unset, .unset, .unset, .unset, .unset, .unset] [])) rfl (hb hby at_87) (by decide) (by decide)
  obtain ⟨b4, g4⟩ : ∃ z, z = T1.heap.size := ⟨_, rfl⟩
  rw [← g4] at A4 D4 st4
  have fr4 : n0 ≤ b4 := Nat.le_trans (own_z f3) (Nat.le_of_eq g4.symm)
  have CR5 : CHr Z consts_1 s.vm h0 vm0 h4 := CR2.trans (CHr.ext E4 CR2.1)
  have sf6 : Safe Z consts_1 vm0 h4 b4 := Safe.ext E4 CR2.1 (Safe.new (Nat.le_of_eq g4.symm))
  have F4_value : Fld Z h4 b4 "java/lang/String" "value" "[B" .null := D4 (Or.inr (wd hw 24 rfl)) (ty := (.array .byte)) (by decide)
  have F4_coder : Fld Z h4 b4 "java/lang/String" "coder" "B" (.int (0 : Int32)) := D4 (Or.inr (wd hw 25 rfl)) (ty := .byte) (by decide)
  refine own_stW (T' := T4) (g' := (mkF m 90 #[iv p0, iv p1, iv p2, iv p3, iv p4, iv (0 : Int32), iv c0, iv c1, iv c2, iv c3, rv va1, .unset, .unset, .unset, .unset, .unset, .unset, .unset, .unset] [(.ref b4)])) st4 ?_
  clear st4
  refine own_stW (T' := T4) (g' := (mkF m 91 #[iv p0, iv p1, iv p2, iv p3, iv p4, iv (0 : Int32), iv c0, iv c1, iv c2, iv c3, rv va1, .unset, .unset, .unset, .unset, .unset, .unset, .unset, .unset] [(.ref b4), (.ref b4)])) (fun _ k_ => XS.dup X4.here hx rfl (hb hby at_90) rfl rfl k_) ?_
  refine own_stW (T' := T4) (g' := (mkF m 93 #[iv p0, iv p1, iv p2, iv p3, iv p4, iv (0 : Int32), iv c0, iv c1, iv c2, iv c3, rv va1, .unset, .unset, .unset, .unset, .unset, .unset, .unset, .unset] [(.ref va1), (.ref b4), (.ref b4)])) (fun _ k_ => XS.aload X4.here hx rfl (hb hby at_91) rfl rfl  k_) ?_
  have f7 : Arv Z h4 va1 kc1 .char (0 : Int32) [] (.int (0 : Int32)) := fq1_0.ext E4
  have f8 : Old Z n0 h4 := f3.ext E4
  obtain ⟨_, T9, L9, X9, hS9, hQ9, ch9, st9⟩ := own_callIW X4 hx (y := own_m18) rfl hown (mvT hZ (wd hw 12 rfl)) (mvT hZ (wd hw 13 rfl)) (mvT hZ (wd hw 14 rfl)) (by decide) (own_backW (W := 1) (rm_ini1_0 l Z a0 hw [] b4 va1 kc1 h4 n0 f8 A4 F4_value F4_coder fr4 f7) hZ (wd hw 14 rfl) (wd hw 11 rfl) (by decide) (by decide) hEL CR5.1 (sfS sf6 sf0) (allS A4.lt all0)) (g := (mkF m 93 #[iv p0, iv p1, iv p2, iv p3, iv p4, iv (0 : Int32), iv c0, iv c1, iv c2, iv c3, rv va1, .unset, .unset, .unset, .unset, .unset, .unset, .unset, .unset] [(.ref va1), (.ref b4), (.ref b4)])) rfl (by rw [hml]; rfl) (a := b4) (argsL := [(.ref va1)]) (rest := [(.ref b4)]) (lenOf pd___C_V rfl) rfl (by show 2 * 0 + _ ≤ _; exact Nat.le_of_eq rfl) (hb hby at_93) rfl e4 (by decide) (by decide) (c' := 6) (s' := 16) rfl rfl hS0 (Nat.le_trans (Nat.le_trans hk0 K1.1) E4.1)
  obtain ⟨t9, kb9, rfl, Nq9, K9, fq9_0, fq9_1, fq9_2, fq9_3⟩ := hQ9
  have N9 := Fr.app N1 Nq9
  have CR10 : CHr Z consts_1 s.vm h0 T9.vm T9.heap := CR5.trans ch9
  have sf11 : Safe Z consts_1 T9.vm T9.heap b4 := ch9.safe A4.lt sf6
  have hZ9 : Z.Warmed39 (s.setVm T9.vm).vm := own_hZ hZs hS9
  have hown9 : (s.setVm T9.vm).vm.findClass "com/example/sheafgate/sheafgate/http/RequestFieldsStripPinLaw" = some m.cls := own_hown howns hS9
  refine own_stW (T' := T9) (g' := (mkF m 96 #[iv p0, iv p1, iv p2, iv p3, iv p4, iv (0 : Int32), iv c0, iv c1, iv c2, iv c3, rv va1, .unset, .unset, .unset, .unset, .unset, .unset, .unset, .unset] [(.ref b4)])) st9 ?_
  clear st9
  have f12 : Old Z n0 T9.heap := f8.keep K9 (allS fr4 all0)
  obtain ⟨_, T13, L13, X13, hS13, hQ13, ch13, st13⟩ := own_callSW X9 hx (y := own_m16) hown9 (mvT hZ9 (wd hw 30 rfl)) (mvT hZ9 (wd hw 31 rfl)) (mvT hZ9 (wd hw 32 rfl)) (mvT hZ9 (wd hw 33 rfl)) (by decide) (own_backW (W := 0) (rm_strip l Z a0 hw [] b4 t9 kb9 ([] : List Int32) cz fm T9.heap n0 f12 fq9_0 fq9_2 fq9_1 fq9_3 own_cR0 (Nat.le_of_ble_eq_true rfl) SC hcz SF hfm) hZ9 (wd hw 33 rfl) (wd hw 32 rfl) (by decide) (by decide) hEL CR10.1 sf0 all0) (g := (mkF m 96 #[iv p0, iv p1, iv p2, iv p3, iv p4, iv (0 : Int32), iv c0, iv c1, iv c2, iv c3, rv va1, .unset, .unset, .unset, .unset, .unset, .unset, .unset, .unset] [(.ref b4)])) rfl (by rw [hml]; rfl) (argsL := [(.ref b4)]) (rest := []) (lenOf pd__Ljava_lang_String__Ljava_lang_String_ rfl) rfl (by show 2 * 0 + _ ≤ _; exact Nat.le_of_eq rfl) (hb hby at_96) rfl rfl (by decide) (by decide) (c' := 8) (s' := 24) rfl rfl hS9 (Nat.le_refl _)
  obtain ⟨r13, u13, ku13, rfl, Nq13, K13, fq13_0, fq13_1, fq13_2, fq13_3⟩ := hQ13
  have N13 := Fr.app N9 Nq13
  have CR14 : CHr Z consts_1 s.vm h0 T13.vm T13.heap := CR10.trans ch13
  have sf15 : Safe Z consts_1 T13.vm T13.heap b4 := ch13.safe (Nat.lt_of_lt_of_le A4.lt K9.1) sf11
  have hZ13 : Z.Warmed39 (s.setVm T13.vm).vm := own_hZ hZs hS13
  have hown13 : (s.setVm T13.vm).vm.findClass "com/example/sheafgate/sheafgate/http/RequestFieldsStripPinLaw" = some m.cls := own_hown howns hS13
  refine own_stW (T' := T13) (g' := (mkF m 99 #[iv p0, iv p1, iv p2, iv p3, iv p4, iv (0 : Int32), iv c0, iv c1, iv c2, iv c3, rv va1, .unset, .unset, .unset, .unset, .unset, .unset, .unset, .unset] [(.ref r13)])) st13 ?_
  clear st13
  refine own_stW (T' := T13) (g' := (mkF m 101 #[iv p0, iv p1, iv p2, iv p3, iv p4, iv (0 : Int32), iv c0, iv c1, iv c2, iv c3, rv va1, rv r13, .unset, .unset, .unset, .unset, .unset, .unset, .unset] [])) (fun _ k_ => XS.astore X13.here hx rfl (hb hby at_99) rfl rfl (l' := #[iv p0, iv p1, iv p2, iv p3, iv p4, iv (0 : Int32), iv c0, iv c1, iv c2, iv c3, rv va1, rv r13, .unset, .unset, .unset, .unset, .unset, .unset, .unset]) rfl k_) ?_
  refine own_stW (T' := T13) (g' := (mkF m 103 #[iv p0, iv p1, iv p2, iv p3, iv p4, iv (0 : Int32), iv c0, iv c1, iv c2, iv c3, rv va1, rv r13, .unset, .unset, .unset, .unset, .unset, .unset, .unset] [(.int c0)])) (fun _ k_ => XS.iload X13.here hx rfl (hb hby at_101) rfl  k_) ?_
  have f16 : Old Z n0 T13.heap := f12.keep K13 all0
  obtain ⟨_, T17, L17, X17, hQ17, st17⟩ := own_callS X13 hx (y := own_m23) hown13 (mvT hZ13 (wd hw 59 rfl)) (mvT hZ13 (wd hw 60 rfl)) (mvT hZ13 (wd hw 3 rfl)) (mvT hZ13 (wd hw 61 rfl)) (by decide) (backOf (W := 0) (rm_ws l Z a0 hw [] c0 T13.heap n0 f16) hZ13 (wd hw 61 rfl) (wd hw 3 rfl) (by decide) (by decide)) (g := (mkF m 103 #[iv p0, iv p1, iv p2, iv p3, iv p4, iv (0 : Int32), iv c0, iv c1, iv c2, iv c3, rv va1, rv r13, .unset, .unset, .unset, .unset, .unset, .unset, .unset] [(.int c0)])) rfl (by rw [hml]; rfl) (argsL := [(.int c0)]) (rest := []) (lenOf pd__C_Z rfl) rfl (by show 2 * 0 + _ ≤ _; exact Nat.le_of_eq rfl) (hb hby at_103) rfl rfl (by decide) (by decide) (c' := 8) (s' := 24) rfl rfl
  obtain ⟨rfl, Nq17, eq17⟩ := hQ17
  have N17 := Fr.app N13 Nq17
  refine own_stW (T' := T17) (g' := (mkF m 106 #[iv p0, iv p1, iv p2, iv p3, iv p4, iv (0 : Int32), iv c0, iv c1, iv c2, iv c3, rv va1, rv r13, .unset, .unset, .unset, .unset, .unset, .unset, .unset] [(.int (own_wi c0))])) st17 ?_
  clear st17
  refine own_stW (T' := T17) (g' := (mkF m 108 #[iv p0, iv p1, iv p2, iv p3, iv p4, iv (0 : Int32), iv c0, iv c1, iv c2, iv c3, rv va1, rv r13, iv (own_wi c0), .unset, .unset, .unset, .unset, .unset, .unset] [])) (fun _ k_ => XS.istore X17.here hx rfl (hb hby at_106) rfl (l' := #[iv p0, iv p1, iv p2, iv p3, iv p4, iv (0 : Int32), iv c0, iv c1, iv c2, iv c3, rv va1, rv r13, iv (own_wi c0), .unset, .unset, .unset, .unset, .unset, .unset]) rfl k_) ?_
  refine own_stW (T' := T17) (g' := (mkF m 110 #[iv p0, iv p1, iv p2, iv p3, iv p4, iv (0 : Int32), iv c0, iv c1, iv c2, iv c3, rv va1, rv r13, iv (own_wi c0), .unset, .unset, .unset, .unset, .unset, .unset] [(.int c1)])) (fun _ k_ => XS.iload X17.here hx rfl (hb hby at_108) rfl  k_) ?_
  obtain ⟨_, T18, L18, X18, hQ18, st18⟩ := own_callS X17 hx (y := own_m23) hown13 (mvT hZ13 (wd hw 59 rfl)) (mvT hZ13 (wd hw 60 rfl)) (mvT hZ13 (wd hw 3 rfl)) (mvT hZ13 (wd hw 61 rfl)) (by decide) (backOf (W := 0) (rm_ws l Z a0 hw [] c1 T13.heap n0 f16) hZ13 (wd hw 61 rfl) (wd hw 3 rfl) (by decide) (by decide)) (g := (mkF m 110 #[iv p0, iv p1, iv p2, iv p3, iv p4, iv (0 : Int32), iv c0, iv c1, iv c2, iv c3, rv va1, rv r13, iv (own_wi c0), .unset, .unset, .unset, .unset, .unset, .unset] [(.int c1)])) rfl (by rw [hml]; rfl) (argsL := [(.int c1)]) (rest := []) (lenOf pd__C_Z rfl) rfl (by show 2 * 0 + _ ≤ _; exact Nat.le_of_eq rfl) (hb hby at_110) rfl eq17 (by decide) (by decide) (c' := 8) (s' := 24) rfl rfl
  obtain ⟨rfl, Nq18, eq18⟩ := hQ18
  have N18 := Fr.app N17 Nq18
  refine own_stW (T' := T18) (g' := (mkF m 113 #[iv p0, iv p1, iv p2, iv p3, iv p4, iv (0 : Int32), iv c0, iv c1, iv c2, iv c3, rv va1, rv r13, iv (own_wi c0), .unset, .unset, .unset, .unset, .unset, .unset] [(.int (own_wi c1))])) st18 ?_
  clear st18
  refine own_stW (T' := T18) (g' := (mkF m 115 #[iv p0, iv p1, iv p2, iv p3, iv p4, iv (0 : Int32), iv c0, iv c1, iv c2, iv c3, rv va1, rv r13, iv (own_wi c0), iv (own_wi c1), .unset, .unset, .unset, .unset, .unset] [])) (fun _ k_ => XS.istore X18.here hx rfl (hb hby at_113) rfl (l' := #[iv p0, iv p1, iv p2, iv p3, iv p4, iv (0 : Int32), iv c0, iv c1, iv c2, iv c3, rv va1, rv r13, iv (own_wi c0), iv (own_wi c1), .unset, .unset, .unset, .unset, .unset]) rfl k_) ?_
  refine own_stW (T' := T18) (g' := (mkF m 117 #[iv p0, iv p1, iv p2, iv p3, iv p4, iv (0 : Int32), iv c0, iv c1, iv c2, iv c3, rv va1, rv r13, iv (own_wi c0), iv (own_wi c1), .unset, .unset, .unset, .unset, .unset] [(.int c2)])) (fun _ k_ => XS.iload X18.here hx rfl (hb hby at_115) rfl  k_) ?_
  obtain ⟨_, T19, L19, X19, hQ19, st19⟩ := own_callS X18 hx (y := own_m23) hown13 (mvT hZ13 (wd hw 59 rfl)) (mvT hZ13 (wd hw 60 rfl)) (mvT hZ13 (wd hw 3 rfl)) (mvT hZ13 (wd hw 61 rfl)) (by decide) (backOf (W := 0) (rm_ws l Z a0 hw [] c2 T13.heap n0 f16) hZ13 (wd hw 61 rfl) (wd hw 3 rfl) (by decide) (by decide)) (g := (mkF m 117 #[iv p0, iv p1, iv p2, iv p3, iv p4, iv (0 : Int32), iv c0, iv c1, iv c2, iv c3, rv va1, rv r13, iv (own_wi c0), iv (own_wi c1), .unset, .unset, .unset, .unset, .unset] [(.int c2)])) rfl (by rw [hml]; rfl) (argsL := [(.int c2)]) (rest := []) (lenOf pd__C_Z rfl) rfl (by show 2 * 0 + _ ≤ _; exact Nat.le_of_eq rfl) (hb hby at_117) rfl eq18 (by decide) (by decide) (c' := 8) (s' := 24) rfl rfl
  obtain ⟨rfl, Nq19, eq19⟩ := hQ19
  have N19 := Fr.app N18 Nq19
  refine own_stW (T' := T19) (g' := (mkF m 120 #[iv p0, iv p1, iv p2, iv p3, iv p4, iv (0 : Int32), iv c0, iv c1, iv c2, iv c3, rv va1, rv r13, iv (own_wi c0), iv (own_wi c1), .unset, .unset, .unset, .unset, .unset] [(.int (own_wi c2))])) st19 ?_
  clear st19
  refine own_stW (T' := T19) (g' := (mkF m 122 #[iv p0, iv p1, iv p2, iv p3, iv p4, iv (0 : Int32), iv c0, iv c1, iv c2, iv c3, rv va1, rv r13, iv (own_wi c0), iv (own_wi c1), iv (own_wi c2), .unset, .unset, .unset, .unset] [])) (fun _ k_ => XS.istore X19.here hx rfl (hb hby at_120) rfl (l' := #[iv p0, iv p1, iv p2, iv p3, iv p4, iv (0 : Int32), iv c0, iv c1, iv c2, iv c3, rv va1, rv r13, iv (own_wi c0), iv (own_wi c1), iv (own_wi c2), .unset, .unset, .unset, .unset]) rfl k_) ?_
  refine own_stW (T' := T19) (g' := (mkF m 124 #[iv p0, iv p1, iv p2, iv p3, iv p4, iv (0 : Int32), iv c0, iv c1, iv c2, iv c3, rv va1, rv r13, iv (own_wi c0), iv (own_wi c1), iv (own_wi c2), .unset, .unset, .unset, .unset] [(.int c3)])) (fun _ k_ => XS.iload X19.here hx rfl (hb hby at_122) rfl  k_) ?_
  obtain ⟨_, T20, L20, X20, hQ20, st20⟩ := own_callS X19 hx (y := own_m23) hown13 (mvT hZ13 (wd hw 59 rfl)) (mvT hZ13 (wd hw 60 rfl)) (mvT hZ13 (wd hw 3 rfl)) (mvT hZ13 (wd hw 61 rfl)) (by decide) (backOf (W := 0) (rm_ws l Z a0 hw [] c3 T13.heap n0 f16) hZ13 (wd hw 61 rfl) (wd hw 3 rfl) (by decide) (by decide)) (g := (mkF m 124 #[iv p0, iv p1, iv p2, iv p3, iv p4, iv (0 : Int32), iv c0, iv c1, iv c2, iv c3, rv va1, rv r13, iv (own_wi c0), iv (own_wi c1), iv (own_wi c2), .unset, .unset, .unset, .unset] [(.int c3)])) rfl (by rw [hml]; rfl) (argsL := [(.int c3)]) (rest := []) (lenOf pd__C_Z rfl) rfl (by show 2 * 0 + _ ≤ _; exact Nat.le_of_eq rfl) (hb hby at_124) rfl eq19 (by decide) (by decide) (c' := 8) (s' := 24) rfl rfl
  obtain ⟨rfl, Nq20, eq20⟩ := hQ20
  have N20 := Fr.app N19 Nq20
  refine own_stW (T' := T20) (g' := (mkF m 127 #[iv p0, iv p1, iv p2, iv p3, iv p4, iv (0 : Int32), iv c0, iv c1, iv c2, iv c3, rv va1, rv r13, iv (own_wi c0), iv (own_wi c1), iv (own_wi c2), .unset, .unset, .unset, .unset] [(.int (own_wi c3))])) st20 ?_
  clear st20
  refine own_stW (T' := T20) (g' := (mkF m 129 #[iv p0, iv p1, iv p2, iv p3, iv p4, iv (0 : Int32), iv c0, iv c1, iv c2, iv c3, rv va1, rv r13, iv (own_wi c0), iv (own_wi c1), iv (own_wi c2), iv (own_wi c3), .unset, .unset, .unset] [])) (fun _ k_ => XS.istore X20.here hx rfl (hb hby at_127) rfl (l' := #[iv p0, iv p1, iv p2, iv p3, iv p4, iv (0 : Int32), iv c0, iv c1, iv c2, iv c3, rv va1, rv r13, iv (own_wi c0), iv (own_wi c1), iv (own_wi c2), iv (own_wi c3), .unset, .unset, .unset]) rfl k_) ?_
  refine own_stW (T' := T20) (g' := (mkF m 131 #[iv p0, iv p1, iv p2, iv p3, iv p4, iv (0 : Int32), iv c0, iv c1, iv c2, iv c3, rv va1, rv r13, iv (own_wi c0), iv (own_wi c1), iv (own_wi c2), iv (own_wi c3), .unset, .unset, .unset] [(.int (0 : Int32))])) (fun _ k_ => XS.iload X20.here hx rfl (hb hby at_129) rfl  k_) ?_
  refine own_stW (T' := T20) (g' := (mkF m 145 #[iv p0, iv p1, iv p2, iv p3, iv p4, iv (0 : Int32), iv c0, iv c1, iv c2, iv c3, rv va1, rv r13, iv (own_wi c0), iv (own_wi c1), iv (own_wi c2), iv (own_wi c3), .unset, .unset, .unset] [])) (fun _ k_ => XS.ifYes X20.here hx rfl (pc0 := 131) (pc' := 145) rfl (hb hby at_131) rfl ((if0 _ _).trans (flt (by decide : ¬ ((0 : Int32) < (0 : Int32)))).2.2.2) (by decide) (by decide) k_) ?_
  refine own_stW (T' := T20) (g' := (mkF m 147 #[iv p0, iv p1, iv p2, iv p3, iv p4, iv (0 : Int32), iv c0, iv c1, iv c2, iv c3, rv va1, rv r13, iv (own_wi c0), iv (own_wi c1), iv (own_wi c2), iv (own_wi c3), .unset, .unset, .unset] [(.int (0 : Int32))])) (fun _ k_ => XS.iload X20.here hx rfl (hb hby at_145) rfl  k_) ?_
  refine own_stW (T' := T20) (g' := (mkF m 148 #[iv p0, iv p1, iv p2, iv p3, iv p4, iv (0 : Int32), iv c0, iv c1, iv c2, iv c3, rv va1, rv r13, iv (own_wi c0), iv (own_wi c1), iv (own_wi c2), iv (own_wi c3), .unset, .unset, .unset] [(.int (1 : Int32)), (.int (0 : Int32))])) (fun _ k_ => XS.iconst X20.here hx rfl (hb hby at_147) k_) ?_
  refine own_stW (T' := T20) (g' := (mkF m 162 #[iv p0, iv p1, iv p2, iv p3, iv p4, iv (0 : Int32), iv c0, iv c1, iv c2, iv c3, rv va1, rv r13, iv (own_wi c0), iv (own_wi c1), iv (own_wi c2), iv (own_wi c3), .unset, .unset, .unset] [])) (fun _ k_ => XS.icmpYes X20.here hx rfl (pc0 := 148) (pc' := 162) rfl (hb hby at_148) rfl (flt (by decide : ¬ ((1 : Int32) < (0 : Int32)))).2.2.2 (by decide) (by decide) k_) ?_
  refine own_stW (T' := T20) (g' := (mkF m 164 #[iv p0, iv p1, iv p2, iv p3, iv p4, iv (0 : Int32), iv c0, iv c1, iv c2, iv c3, rv va1, rv r13, iv (own_wi c0), iv (own_wi c1), iv (own_wi c2), iv (own_wi c3), .unset, .unset, .unset] [(.int (0 : Int32))])) (fun _ k_ => XS.iload X20.here hx rfl (hb hby at_162) rfl  k_) ?_
  refine own_stW (T' := T20) (g' := (mkF m 165 #[iv p0, iv p1, iv p2, iv p3, iv p4, iv (0 : Int32), iv c0, iv c1, iv c2, iv c3, rv va1, rv r13, iv (own_wi c0), iv (own_wi c1), iv (own_wi c2), iv (own_wi c3), .unset, .unset, .unset] [(.int (2 : Int32)), (.int (0 : Int32))])) (fun _ k_ => XS.iconst X20.here hx rfl (hb hby at_164) k_) ?_
  refine own_stW (T' := T20) (g' := (mkF m 179 #[iv p0, iv p1, iv p2, iv p3, iv p4, iv (0 : Int32), iv c0, iv c1, iv c2, iv c3, rv va1, rv r13, iv (own_wi c0), iv (own_wi c1), iv (own_wi c2), iv (own_wi c3), .unset, .unset, .unset] [])) (fun _ k_ => XS.icmpYes X20.here hx rfl (pc0 := 165) (pc' := 179) rfl (hb hby at_165) rfl (flt (by decide : ¬ ((2 : Int32) < (0 : Int32)))).2.2.2 (by decide) (by decide) k_) ?_
  refine own_stW (T' := T20) (g' := (mkF m 181 #[iv p0, iv p1, iv p2, iv p3, iv p4, iv (0 : Int32), iv c0, iv c1, iv c2, iv c3, rv va1, rv r13, iv (own_wi c0), iv (own_wi c1), iv (own_wi c2), iv (own_wi c3), .unset, .unset, .unset] [(.int (0 : Int32))])) (fun _ k_ => XS.iload X20.here hx rfl (hb hby at_179) rfl  k_) ?_
  refine own_stW (T' := T20) (g' := (mkF m 182 #[iv p0, iv p1, iv p2, iv p3, iv p4, iv (0 : Int32), iv c0, iv c1, iv c2, iv c3, rv va1, rv r13, iv (own_wi c0), iv (own_wi c1), iv (own_wi c2), iv (own_wi c3), .unset, .unset, .unset] [(.int (3 : Int32)), (.int (0 : Int32))])) (fun _ k_ => XS.iconst X20.here hx rfl (hb hby at_181) k_) ?_
  refine own_stW (T' := T20) (g' := (mkF m 196 #[iv p0, iv p1, iv p2, iv p3, iv p4, iv (0 : Int32), iv c0, iv c1, iv c2, iv c3, rv va1, rv r13, iv (own_wi c0), iv (own_wi c1), iv (own_wi c2), iv (own_wi c3), .unset, .unset, .unset] [])) (fun _ k_ => XS.icmpYes X20.here hx rfl (pc0 := 182) (pc' := 196) rfl (hb hby at_182) rfl (flt (by decide : ¬ ((3 : Int32) < (0 : Int32)))).2.2.2 (by decide) (by decide) k_) ?_
  refine own_stW (T' := T20) (g' := (mkF m 198 #[iv p0, iv p1, iv p2, iv p3, iv p4, iv (0 : Int32), iv c0, iv c1, iv c2, iv c3, rv va1, rv r13, iv (own_wi c0), iv (own_wi c1), iv (own_wi c2), iv (own_wi c3), .unset, .unset, .unset] [(.int (0 : Int32))])) (fun _ k_ => XS.iload X20.here hx rfl (hb hby at_196) rfl  k_) ?_
  refine own_stW (T' := T20) (g' := (mkF m 200 #[iv p0, iv p1, iv p2, iv p3, iv p4, iv (0 : Int32), iv c0, iv c1, iv c2, iv c3, rv va1, rv r13, iv (own_wi c0), iv (own_wi c1), iv (own_wi c2), iv (own_wi c3), iv (0 : Int32), .unset, .unset] [])) (fun _ k_ => XS.istore X20.here hx rfl (hb hby at_198) rfl (l' := #[iv p0, iv p1, iv p2, iv p3, iv p4, iv (0 : Int32), iv c0, iv c1, iv c2, iv c3, rv va1, rv r13, iv (own_wi c0), iv (own_wi c1), iv (own_wi c2), iv (own_wi c3), iv (0 : Int32), .unset, .unset]) rfl k_) ?_
  have ne21 : va1 ≠ b4 := Nat.ne_of_lt (Nat.lt_of_lt_of_le fq1_0.lt (Nat.le_of_eq g4.symm))
  have f22 : Arv Z T9.heap va1 kc1 .char (0 : Int32) [] (.int (0 : Int32)) := f7.keep K9 (ninS ne21 nin0)
  have f23 : Arv Z T13.heap va1 kc1 .char (0 : Int32) [] (.int (0 : Int32)) := f22.keep K13 nin0
  exact seg_f0 h0 T13.heap n0 p0 p1 p2 p3 p4 c0 c1 c2 c3 va1 kc1 r13 u13 ku13 0 cz fm X20 hx hZs hZ13 hS13 (Nat.le_refl _) CR14 hw hby hml howns hown13 hnm hret hlk eq20 N20 f16 hr0 hr1 hr2 hr3 f23 fq13_0 fq13_2 fq13_1 fq13_3 (by simp [own_is]) SC hcz SF hfm
set_option maxRecDepth 65536 in
set_option maxHeartbeats 40000000 in
theorem seg_g1 {p : Program} {l : Launch} {e : Env} {s : State} {m : MethodId} {args : Array Value} {below : List Frame} {meth : Method} {c : Code} {T0 : State} {locs : List Loc} {Z : State} {a0 : Array Value} {vm0 : Vm} {k0 : Nat} (h0 : Heap) (hB : Heap) (n0 : Nat) (p0 : Int32) (p1 : Int32) (p2 : Int32) (p3 : Int32) (p4 : Int32) (c0 : Int32) (c1 : Int32) (c2 : Int32) (c3 : Int32) (va : Addr) (kc : ClassId) (r : Addr) (u : Addr) (ku : ClassId) (ss : Nat) (ee : Int32) (cz : Int32) (fm : Value)
    (X0 : Stand p l e room_1 (s.setVm vm0) m args below meth c T0 locs 8 24) (hx : p.tables.exec = Jvm.exec) (hZs : Z.Warmed39 s.vm) (hZ : Z.Warmed39 (s.setVm vm0).vm) (hS0 : s.Since vm0 k0) (hk0 : k0 ≤ hB.size) (CR0 : CHr Z consts_1 s.vm h0 vm0 hB) (hw : ∀ d ∈ tables_1, d.before a0 Z = true) (hby : c.code = code) (hml : c.maxLocals = 19) (howns : s.vm.findClass "com/example/sheafgate/sheafgate/http/RequestFieldsStripPinLaw" = some m.cls) (hown : (s.setVm vm0).vm.findClass "com/example/sheafgate/sheafgate/http/RequestFieldsStripPinLaw" = some m.cls) (hnm : meth.name = "law") (hret : meth.sig.returnType = some .boolean) (hlk : meth.locks = false) (e0 : T0.heap = hB) (N0 : Fr n0 locs) (O0 : Old Z n0 hB) (hr0 : ¬ c0 < 0 ∧ ¬ (255 : Int32) < c0) (hr1 : ¬ c1 < 0 ∧ ¬ (255 : Int32) < c1) (hr2 : ¬ c2 < 0 ∧ ¬ (255 : Int32) < c2) (hr3 : ¬ c3 < 0 ∧ ¬ (255 : Int32) < c3) (VA : Arv Z hB va kc .char (1 : Int32) [(.int c0)] (.int (0 : Int32))) (E_r : Exa Z hB r "java/lang/String") (V_r : Fld Z hB r "java/lang/String" "value" "[B" (.ref u)) (C_r : Fld Z hB r "java/lang/String" "coder" "B" (.int (0 : Int32))) (A_r : Arv Z hB u ku .byte (Int32.ofNat (own_sub ([c0] : List Int32) (own_is ([c0] : List Int32)) (own_ie ([c0] : List Int32))).length) (((own_sub ([c0] : List Int32) (own_is ([c0] : List Int32)) (own_ie ([c0] : List Int32))).map StrChars.lo8).map Value.int) (.int (0 : Int32))) (hs : (own_is ([c0] : List Int32)) = ss) (he : (own_is ([c0] : List Int32)) < 1 → ee = Int32.ofNat (own_ie ([c0] : List Int32))) (SC : Sta Z Z.heap "java/lang/String" "COMPACT_STRINGS" "Z" (.int cz)) (hcz : ¬ cz = (0 : Int32)) (SF : Sta Z Z.heap "jdk/internal/util/Preconditions" "SIOOBE_FORMATTER" "Ljava/util/function/BiFunction;" fm) (hfm : fm.isRef = true) :
    own_W p e below s room_1.cells room_1.slots Z consts_1 h0 (own_L n0) T0 (mkF m 270 #[iv p0, iv p1, iv p2, iv p3, iv p4, iv (1 : Int32), iv c0, iv c1, iv c2, iv c3, rv va, rv r, iv (own_wi c0), iv (own_wi c1), iv (own_wi c2), iv (own_wi c3), iv (Int32.ofNat ss), iv ee, .unset] []) := by
  have hEL := own_EW hw
  subst hs
  refine own_stW (T' := T0) (g' := (mkF m 272 #[iv p0, iv p1, iv p2, iv p3, iv p4, iv (1 : Int32), iv c0, iv c1, iv c2, iv c3, rv va, rv r, iv (own_wi c0), iv (own_wi c1), iv (own_wi c2), iv (own_wi c3), iv (Int32.ofNat (own_is ([c0] : List Int32))), iv ee, .unset] [(.int (Int32.ofNat (own_is ([c0] : List Int32))))])) (fun _ k_ => XS.iload X0.here hx rfl (hb hby at_270) rfl  k_) ?_
  refine own_stW (T' := T0) (g' := (mkF m 274 #[iv p0, iv p1, iv p2, iv p3, iv p4, iv (1 : Int32), iv c0, iv c1, iv c2, iv c3, rv va, rv r, iv (own_wi c0), iv (own_wi c1), iv (own_wi c2), iv (own_wi c3), iv (Int32.ofNat (own_is ([c0] : List Int32))), iv ee, .unset] [(.int (1 : Int32)), (.int (Int32.ofNat (own_is ([c0] : List Int32))))])) (fun _ k_ => XS.iload X0.here hx rfl (hb hby at_272) rfl  k_) ?_
  by_cases hc1 : (Int32.ofNat (own_is ([c0] : List Int32))) < (1 : Int32)
  · refine own_stW (T' := T0) (g' := (mkF m 277 #[iv p0, iv p1, iv p2, iv p3, iv p4, iv (1 : Int32), iv c0, iv c1, iv c2, iv c3, rv va, rv r, iv (own_wi c0), iv (own_wi c1), iv (own_wi c2), iv (own_wi c3), iv (Int32.ofNat (own_is ([c0] : List Int32))), iv ee, .unset] [])) (fun _ k_ => XS.icmpNo X0.here hx rfl (hb hby at_274) rfl (tlt hc1).2.1 k_) ?_
    have hl4 : (([c0] : List Int32)).length ≤ 4000 := Nat.le_of_ble_eq_true rfl
    have hee := he ((own_olt (Nat.le_trans (own_isL ([c0] : List Int32)) hl4) (Nat.le_of_ble_eq_true rfl)).mp hc1)
    subst hee
    refine own_stW (T' := T0) (g' := (mkF m 279 #[iv p0, iv p1, iv p2, iv p3, iv p4, iv (1 : Int32), iv c0, iv c1, iv c2, iv c3, rv va, rv r, iv (own_wi c0), iv (own_wi c1), iv (own_wi c2), iv (own_wi c3), iv (Int32.ofNat (own_is ([c0] : List Int32))), iv (Int32.ofNat (own_ie ([c0] : List Int32))), .unset] [(.int (Int32.ofNat (own_ie ([c0] : List Int32))))])) (fun _ k_ => XS.iload X0.here hx rfl (hb hby at_277) rfl  k_) ?_
    refine own_stW (T' := T0) (g' := (mkF m 281 #[iv p0, iv p1, iv p2, iv p3, iv p4, iv (1 : Int32), iv c0, iv c1, iv c2, iv c3, rv va, rv r, iv (own_wi c0), iv (own_wi c1), iv (own_wi c2), iv (own_wi c3), iv (Int32.ofNat (own_is ([c0] : List Int32))), iv (Int32.ofNat (own_ie ([c0] : List Int32))), .unset] [(.int (Int32.ofNat (own_is ([c0] : List Int32)))), (.int (Int32.ofNat (own_ie ([c0] : List Int32))))])) (fun _ k_ => XS.iload X0.here hx rfl (hb hby at_279) rfl  k_) ?_
    refine own_stW (T' := T0) (g' := (mkF m 282 #[iv p0, iv p1, iv p2, iv p3, iv p4, iv (1 : Int32), iv c0, iv c1, iv c2, iv c3, rv va, rv r, iv (own_wi c0), iv (own_wi c1), iv (own_wi c2), iv (own_wi c3), iv (Int32.ofNat (own_is ([c0] : List Int32))), iv (Int32.ofNat (own_ie ([c0] : List Int32))), .unset] [(.int ((Int32.ofNat (own_ie ([c0] : List Int32))) - (Int32.ofNat (own_is ([c0] : List Int32)))))])) (fun _ k_ => XS.isub X0.here hx rfl (hb hby at_281) rfl k_) ?_
    rw [own_osub (own_isie ([c0] : List Int32)) (Nat.le_trans (own_ieL ([c0] : List Int32)) hl4)]
    refine own_stW (T' := T0) (g' := (mkF m 286 #[iv p0, iv p1, iv p2, iv p3, iv p4, iv (1 : Int32), iv c0, iv c1, iv c2, iv c3, rv va, rv r, iv (own_wi c0), iv (own_wi c1), iv (own_wi c2), iv (own_wi c3), iv (Int32.ofNat (own_is ([c0] : List Int32))), iv (Int32.ofNat (own_ie ([c0] : List Int32))), .unset] [(.int (Int32.ofNat ((own_ie ([c0] : List Int32)) - (own_is ([c0] : List Int32)))))])) (fun _ k_ => XS.goto X0.here hx rfl (pc0 := 282) (pc' := 286) rfl (hb hby at_282) (by decide) (by decide) k_) ?_
    refine own_stW (T' := T0) (g' := (mkF m 288 #[iv p0, iv p1, iv p2, iv p3, iv p4, iv (1 : Int32), iv c0, iv c1, iv c2, iv c3, rv va, rv r, iv (own_wi c0), iv (own_wi c1), iv (own_wi c2), iv (own_wi c3), iv (Int32.ofNat (own_is ([c0] : List Int32))), iv (Int32.ofNat (own_ie ([c0] : List Int32))), iv (Int32.ofNat ((own_ie ([c0] : List Int32)) - (own_is ([c0] : List Int32))))] [])) (fun _ k_ => XS.istore X0.here hx rfl (hb hby at_286) rfl (l' := #[iv p0, iv p1, iv p2, iv p3, iv p4, iv (1 : Int32), iv c0, iv c1, iv c2, iv c3, rv va, rv r, iv (own_wi c0), iv (own_wi c1), iv (own_wi c2), iv (own_wi c3), iv (Int32.ofNat (own_is ([c0] : List Int32))), iv (Int32.ofNat (own_ie ([c0] : List Int32))), iv (Int32.ofNat ((own_ie ([c0] : List Int32)) - (own_is ([c0] : List Int32))))]) rfl k_) ?_
    exact seg_h h0 hB n0 _ _ _ _ _ _ _ _ _ _ _ _ _ _ _ va kc r u ku ([c0] : List Int32) _ cz fm X0 hx hZs hZ hS0 hk0 CR0 hw hby hml howns hown hnm hret hlk e0 N0 O0 (Nat.le_of_ble_eq_true rfl) (own_cRS hr0 own_cR0) VA E_r V_r C_r A_r rfl SC hcz SF hfm
  · refine own_stW (T' := T0) (g' := (mkF m 285 #[iv p0, iv p1, iv p2, iv p3, iv p4, iv (1 : Int32), iv c0, iv c1, iv c2, iv c3, rv va, rv r, iv (own_wi c0), iv (own_wi c1), iv (own_wi c2), iv (own_wi c3), iv (Int32.ofNat (own_is ([c0] : List Int32))), iv ee, .unset] [])) (fun _ k_ => XS.icmpYes X0.here hx rfl (pc0 := 274) (pc' := 285) rfl (hb hby at_274) rfl (flt hc1).2.1 (by decide) (by decide) k_) ?_
    refine own_stW (T' := T0) (g' := (mkF m 286 #[iv p0, iv p1, iv p2, iv p3, iv p4, iv (1 : Int32), iv c0, iv c1, iv c2, iv c3, rv va, rv r, iv (own_wi c0), iv (own_wi c1), iv (own_wi c2), iv (own_wi c3), iv (Int32.ofNat (own_is ([c0] : List Int32))), iv ee, .unset] [(.int (0 : Int32))])) (fun _ k_ => XS.iconst X0.here hx rfl (hb hby at_285) k_) ?_
    refine own_stW (T' := T0) (g' := (mkF m 288 #[iv p0, iv p1, iv p2, iv p3, iv p4, iv (1 : Int32), iv c0, iv c1, iv c2, iv c3, rv va, rv r, iv (own_wi c0), iv (own_wi c1), iv (own_wi c2), iv (own_wi c3), iv (Int32.ofNat (own_is ([c0] : List Int32))), iv ee, iv (0 : Int32)] [])) (fun _ k_ => XS.istore X0.here hx rfl (hb hby at_286) rfl (l' := #[iv p0, iv p1, iv p2, iv p3, iv p4, iv (1 : Int32), iv c0, iv c1, iv c2, iv c3, rv va, rv r, iv (own_wi c0), iv (own_wi c1), iv (own_wi c2), iv (own_wi c3), iv (Int32.ofNat (own_is ([c0] : List Int32))), iv ee, iv (0 : Int32)]) rfl k_) ?_
    exact seg_h h0 hB n0 _ _ _ _ _ _ _ _ _ _ _ _ _ _ _ va kc r u ku ([c0] : List Int32) _ cz fm X0 hx hZs hZ hS0 hk0 CR0 hw hby hml howns hown hnm hret hlk e0 N0 O0 (Nat.le_of_ble_eq_true rfl) (own_cRS hr0 own_cR0) VA E_r V_r C_r A_r (by have a := own_all ([c0] : List Int32) (fun q => absurd ((own_olt (by have b := own_isL ([c0] : List Int32); exact Nat.le_trans b (Nat.le_of_ble_eq_true rfl)) (Nat.le_of_ble_eq_true rfl)).mpr (Nat.lt_of_lt_of_le q (own_ieL ([c0] : List Int32)))) hc1); rw [a.2, Nat.sub_self]; rfl) SC hcz SF hfm
set_option maxRecDepth 65536 in
set_option maxHeartbeats 40000000 in
theorem seg_f1 {p : Program} {l : Launch} {e : Env} {s : State} {m : MethodId} {args : Array Value} {below : List Frame} {meth : Method} {c : Code} {T0 : State} {locs : List Loc} {Z : State} {a0 : Array Value} {vm0 : Vm} {k0 : Nat} (h0 : Heap) (hB : Heap) (n0 : Nat) (p0 : Int32) (p1 : Int32) (p2 : Int32) (p3 : Int32) (p4 : Int32) (c0 : Int32) (c1 : Int32) (c2 : Int32) (c3 : Int32) (va : Addr) (kc : ClassId) (r : Addr) (u : Addr) (ku : ClassId) (ss : Nat) (cz : Int32) (fm : Value)
    (X0 : Stand p l e room_1 (s.setVm vm0) m args below meth c T0 locs 8 24) (hx : p.tables.exec = Jvm.exec) (hZs : Z.Warmed39 s.vm) (hZ : Z.Warmed39 (s.setVm vm0).vm) (hS0 : s.Since vm0 k0) (hk0 : k0 ≤ hB.size) (CR0 : CHr Z consts_1 s.vm h0 vm0 hB) (hw : ∀ d ∈ tables_1, d.before a0 Z = true) (hby : c.code = code) (hml : c.maxLocals = 19) (howns : s.vm.findClass "com/example/sheafgate/sheafgate/http/RequestFieldsStripPinLaw" = some m.cls) (hown : (s.setVm vm0).vm.findClass "com/example/sheafgate/sheafgate/http/RequestFieldsStripPinLaw" = some m.cls) (hnm : meth.name = "law") (hret : meth.sig.returnType = some .boolean) (hlk : meth.locks = false) (e0 : T0.heap = hB) (N0 : Fr n0 locs) (O0 : Old Z n0 hB) (hr0 : ¬ c0 < 0 ∧ ¬ (255 : Int32) < c0) (hr1 : ¬ c1 < 0 ∧ ¬ (255 : Int32) < c1) (hr2 : ¬ c2 < 0 ∧ ¬ (255 : Int32) < c2) (hr3 : ¬ c3 < 0 ∧ ¬ (255 : Int32) < c3) (VA : Arv Z hB va kc .char (1 : Int32) [(.int c0)] (.int (0 : Int32))) (E_r : Exa Z hB r "java/lang/String") (V_r : Fld Z hB r "java/lang/String" "value" "[B" (.ref u)) (C_r : Fld Z hB r "java/lang/String" "coder" "B" (.int (0 : Int32))) (A_r : Arv Z hB u ku .byte (Int32.ofNat (own_sub ([c0] : List Int32) (own_is ([c0] : List Int32)) (own_ie ([c0] : List Int32))).length) (((own_sub ([c0] : List Int32) (own_is ([c0] : List Int32)) (own_ie ([c0] : List Int32))).map StrChars.lo8).map Value.int) (.int (0 : Int32))) (hs : (own_is ([c0] : List Int32)) = ss) (SC : Sta Z Z.heap "java/lang/String" "COMPACT_STRINGS" "Z" (.int cz)) (hcz : ¬ cz = (0 : Int32)) (SF : Sta Z Z.heap "jdk/internal/util/Preconditions" "SIOOBE_FORMATTER" "Ljava/util/function/BiFunction;" fm) (hfm : fm.isRef = true) :
    own_W p e below s room_1.cells room_1.slots Z consts_1 h0 (own_L n0) T0 (mkF m 200 #[iv p0, iv p1, iv p2, iv p3, iv p4, iv (1 : Int32), iv c0, iv c1, iv c2, iv c3, rv va, rv r, iv (own_wi c0), iv (own_wi c1), iv (own_wi c2), iv (own_wi c3), iv (Int32.ofNat ss), .unset, .unset] []) := by
  have hEL := own_EW hw
  refine own_stW (T' := T0) (g' := (mkF m 202 #[iv p0, iv p1, iv p2, iv p3, iv p4, iv (1 : Int32), iv c0, iv c1, iv c2, iv c3, rv va, rv r, iv (own_wi c0), iv (own_wi c1), iv (own_wi c2), iv (own_wi c3), iv (Int32.ofNat ss), .unset, .unset] [(.int (1 : Int32))])) (fun _ k_ => XS.iload X0.here hx rfl (hb hby at_200) rfl  k_) ?_
  refine own_stW (T' := T0) (g' := (mkF m 203 #[iv p0, iv p1, iv p2, iv p3, iv p4, iv (1 : Int32), iv c0, iv c1, iv c2, iv c3, rv va, rv r, iv (own_wi c0), iv (own_wi c1), iv (own_wi c2), iv (own_wi c3), iv (Int32.ofNat ss), .unset, .unset] [(.int (3 : Int32)), (.int (1 : Int32))])) (fun _ k_ => XS.iconst X0.here hx rfl (hb hby at_202) k_) ?_
  refine own_stW (T' := T0) (g' := (mkF m 217 #[iv p0, iv p1, iv p2, iv p3, iv p4, iv (1 : Int32), iv c0, iv c1, iv c2, iv c3, rv va, rv r, iv (own_wi c0), iv (own_wi c1), iv (own_wi c2), iv (own_wi c3), iv (Int32.ofNat ss), .unset, .unset] [])) (fun _ k_ => XS.icmpYes X0.here hx rfl (pc0 := 203) (pc' := 217) rfl (hb hby at_203) rfl (flt (by decide : ¬ ((3 : Int32) < (1 : Int32)))).2.2.2 (by decide) (by decide) k_) ?_
  refine own_stW (T' := T0) (g' := (mkF m 219 #[iv p0, iv p1, iv p2, iv p3, iv p4, iv (1 : Int32), iv c0, iv c1, iv c2, iv c3, rv va, rv r, iv (own_wi c0), iv (own_wi c1), iv (own_wi c2), iv (own_wi c3), iv (Int32.ofNat ss), .unset, .unset] [(.int (1 : Int32))])) (fun _ k_ => XS.iload X0.here hx rfl (hb hby at_217) rfl  k_) ?_
  refine own_stW (T' := T0) (g' := (mkF m 220 #[iv p0, iv p1, iv p2, iv p3, iv p4, iv (1 : Int32), iv c0, iv c1, iv c2, iv c3, rv va, rv r, iv (own_wi c0), iv (own_wi c1), iv (own_wi c2), iv (own_wi c3), iv (Int32.ofNat ss), .unset, .unset] [(.int (2 : Int32)), (.int (1 : Int32))])) (fun _ k_ => XS.iconst X0.here hx rfl (hb hby at_219) k_) ?_
  refine own_stW (T' := T0) (g' := (mkF m 234 #[iv p0, iv p1, iv p2, iv p3, iv p4, iv (1 : Int32), iv c0, iv c1, iv c2, iv c3, rv va, rv r, iv (own_wi c0), iv (own_wi c1), iv (own_wi c2), iv (own_wi c3), iv (Int32.ofNat ss), .unset, .unset] [])) (fun _ k_ => XS.icmpYes X0.here hx rfl (pc0 := 220) (pc' := 234) rfl (hb hby at_220) rfl (flt (by decide : ¬ ((2 : Int32) < (1 : Int32)))).2.2.2 (by decide) (by decide) k_) ?_
  refine own_stW (T' := T0) (g' := (mkF m 236 #[iv p0, iv p1, iv p2, iv p3, iv p4, iv (1 : Int32), iv c0, iv c1, iv c2, iv c3, rv va, rv r, iv (own_wi c0), iv (own_wi c1), iv (own_wi c2), iv (own_wi c3), iv (Int32.ofNat ss), .unset, .unset] [(.int (1 : Int32))])) (fun _ k_ => XS.iload X0.here hx rfl (hb hby at_234) rfl  k_) ?_
  refine own_stW (T' := T0) (g' := (mkF m 237 #[iv p0, iv p1, iv p2, iv p3, iv p4, iv (1 : Int32), iv c0, iv c1, iv c2, iv c3, rv va, rv r, iv (own_wi c0), iv (own_wi c1), iv (own_wi c2), iv (own_wi c3), iv (Int32.ofNat ss), .unset, .unset] [(.int (1 : Int32)), (.int (1 : Int32))])) (fun _ k_ => XS.iconst X0.here hx rfl (hb hby at_236) k_) ?_
  refine own_stW (T' := T0) (g' := (mkF m 251 #[iv p0, iv p1, iv p2, iv p3, iv p4, iv (1 : Int32), iv c0, iv c1, iv c2, iv c3, rv va, rv r, iv (own_wi c0), iv (own_wi c1), iv (own_wi c2), iv (own_wi c3), iv (Int32.ofNat ss), .unset, .unset] [])) (fun _ k_ => XS.icmpYes X0.here hx rfl (pc0 := 237) (pc' := 251) rfl (hb hby at_237) rfl (flt (by decide : ¬ ((1 : Int32) < (1 : Int32)))).2.2.2 (by decide) (by decide) k_) ?_
  refine own_stW (T' := T0) (g' := (mkF m 253 #[iv p0, iv p1, iv p2, iv p3, iv p4, iv (1 : Int32), iv c0, iv c1, iv c2, iv c3, rv va, rv r, iv (own_wi c0), iv (own_wi c1), iv (own_wi c2), iv (own_wi c3), iv (Int32.ofNat ss), .unset, .unset] [(.int (1 : Int32))])) (fun _ k_ => XS.iload X0.here hx rfl (hb hby at_251) rfl  k_) ?_
  refine own_stW (T' := T0) (g' := (mkF m 256 #[iv p0, iv p1, iv p2, iv p3, iv p4, iv (1 : Int32), iv c0, iv c1, iv c2, iv c3, rv va, rv r, iv (own_wi c0), iv (own_wi c1), iv (own_wi c2), iv (own_wi c3), iv (Int32.ofNat ss), .unset, .unset] [])) (fun _ k_ => XS.ifNo X0.here hx rfl (hb hby at_253) rfl ((if0 _ _).trans (tlt (by decide : (0 : Int32) < (1 : Int32))).2.2.2) k_) ?_
  refine own_stW (T' := T0) (g' := (mkF m 258 #[iv p0, iv p1, iv p2, iv p3, iv p4, iv (1 : Int32), iv c0, iv c1, iv c2, iv c3, rv va, rv r, iv (own_wi c0), iv (own_wi c1), iv (own_wi c2), iv (own_wi c3), iv (Int32.ofNat ss), .unset, .unset] [(.int (own_wi c0))])) (fun _ k_ => XS.iload X0.here hx rfl (hb hby at_256) rfl  k_) ?_
  by_cases hc1 : (own_wi c0) = (0 : Int32)
  · refine own_stW (T' := T0) (g' := (mkF m 261 #[iv p0, iv p1, iv p2, iv p3, iv p4, iv (1 : Int32), iv c0, iv c1, iv c2, iv c3, rv va, rv r, iv (own_wi c0), iv (own_wi c1), iv (own_wi c2), iv (own_wi c3), iv (Int32.ofNat ss), .unset, .unset] [])) (fun _ k_ => XS.ifNo X0.here hx rfl (hb hby at_258) rfl ((if0 _ _).trans (teq hc1).2) k_) ?_
    refine own_stW (T' := T0) (g' := (mkF m 262 #[iv p0, iv p1, iv p2, iv p3, iv p4, iv (1 : Int32), iv c0, iv c1, iv c2, iv c3, rv va, rv r, iv (own_wi c0), iv (own_wi c1), iv (own_wi c2), iv (own_wi c3), iv (Int32.ofNat ss), .unset, .unset] [(.int (1 : Int32))])) (fun _ k_ => XS.iconst X0.here hx rfl (hb hby at_261) k_) ?_
    refine own_stW (T' := T0) (g' := (mkF m 264 #[iv p0, iv p1, iv p2, iv p3, iv p4, iv (1 : Int32), iv c0, iv c1, iv c2, iv c3, rv va, rv r, iv (own_wi c0), iv (own_wi c1), iv (own_wi c2), iv (own_wi c3), iv (Int32.ofNat ss), iv (1 : Int32), .unset] [])) (fun _ k_ => XS.istore X0.here hx rfl (hb hby at_262) rfl (l' := #[iv p0, iv p1, iv p2, iv p3, iv p4, iv (1 : Int32), iv c0, iv c1, iv c2, iv c3, rv va, rv r, iv (own_wi c0), iv (own_wi c1), iv (own_wi c2), iv (own_wi c3), iv (Int32.ofNat ss), iv (1 : Int32), .unset]) rfl k_) ?_
    refine own_stW (T' := T0) (g' := (mkF m 270 #[iv p0, iv p1, iv p2, iv p3, iv p4, iv (1 : Int32), iv c0, iv c1, iv c2, iv c3, rv va, rv r, iv (own_wi c0), iv (own_wi c1), iv (own_wi c2), iv (own_wi c3), iv (Int32.ofNat ss), iv (1 : Int32), .unset] [])) (fun _ k_ => XS.goto X0.here hx rfl (pc0 := 264) (pc' := 270) rfl (hb hby at_264) (by decide) (by decide) k_) ?_
    exact seg_g1 h0 hB n0 p0 p1 p2 p3 p4 c0 c1 c2 c3 va kc r u ku ss _ cz fm X0 hx hZs hZ hS0 hk0 CR0 hw hby hml howns hown hnm hret hlk e0 N0 O0 hr0 hr1 hr2 hr3 VA E_r V_r C_r A_r hs (fun _ => by rw [own_ieE ([c0] : List Int32) 0 (Nat.le_of_ble_eq_true rfl) (own_wiF hc1) (fun j a b => by have b' : j < 1 := b; exfalso; omega)]; rfl) SC hcz SF hfm
  · refine own_stW (T' := T0) (g' := (mkF m 267 #[iv p0, iv p1, iv p2, iv p3, iv p4, iv (1 : Int32), iv c0, iv c1, iv c2, iv c3, rv va, rv r, iv (own_wi c0), iv (own_wi c1), iv (own_wi c2), iv (own_wi c3), iv (Int32.ofNat ss), .unset, .unset] [])) (fun _ k_ => XS.ifYes X0.here hx rfl (pc0 := 258) (pc' := 267) rfl (hb hby at_258) rfl ((if0 _ _).trans (feq hc1).2) (by decide) (by decide) k_) ?_
    refine own_stW (T' := T0) (g' := (mkF m 268 #[iv p0, iv p1, iv p2, iv p3, iv p4, iv (1 : Int32), iv c0, iv c1, iv c2, iv c3, rv va, rv r, iv (own_wi c0), iv (own_wi c1), iv (own_wi c2), iv (own_wi c3), iv (Int32.ofNat ss), .unset, .unset] [(.int (0 : Int32))])) (fun _ k_ => XS.iconst X0.here hx rfl (hb hby at_267) k_) ?_
    refine own_stW (T' := T0) (g' := (mkF m 270 #[iv p0, iv p1, iv p2, iv p3, iv p4, iv (1 : Int32), iv c0, iv c1, iv c2, iv c3, rv va, rv r, iv (own_wi c0), iv (own_wi c1), iv (own_wi c2), iv (own_wi c3), iv (Int32.ofNat ss), iv (0 : Int32), .unset] [])) (fun _ k_ => XS.istore X0.here hx rfl (hb hby at_268) rfl (l' := #[iv p0, iv p1, iv p2, iv p3, iv p4, iv (1 : Int32), iv c0, iv c1, iv c2, iv c3, rv va, rv r, iv (own_wi c0), iv (own_wi c1), iv (own_wi c2), iv (own_wi c3), iv (Int32.ofNat ss), iv (0 : Int32), .unset]) rfl k_) ?_
    exact seg_g1 h0 hB n0 p0 p1 p2 p3 p4 c0 c1 c2 c3 va kc r u ku ss _ cz fm X0 hx hZs hZ hS0 hk0 CR0 hw hby hml howns hown hnm hret hlk e0 N0 O0 hr0 hr1 hr2 hr3 VA E_r V_r C_r A_r hs (fun q => by have z : (own_is ([c0] : List Int32)) = 1 := (by simp [own_is, own_wiT hc1]); omega) SC hcz SF hfm
set_option maxRecDepth 65536 in
set_option maxHeartbeats 40000000 in
theorem seg_a1 {p : Program} {l : Launch} {e : Env} {s : State} {m : MethodId} {args : Array Value} {below : List Frame} {meth : Method} {c : Code} {T0 : State} {locs : List Loc} {Z : State} {a0 : Array Value} {vm0 : Vm} {k0 : Nat} (h0 : Heap) (hB : Heap) (n0 : Nat) (p0 : Int32) (p1 : Int32) (p2 : Int32) (p3 : Int32) (p4 : Int32) (c0 : Int32) (c1 : Int32) (c2 : Int32) (c3 : Int32) (cz : Int32) (fm : Value)
    (X0 : Stand p l e room_1 (s.setVm vm0) m args below meth c T0 locs 0 0) (hx : p.tables.exec = Jvm.exec) (hZs : Z.Warmed39 s.vm) (hZ : Z.Warmed39 (s.setVm vm0).vm) (hS0 : s.Since vm0 k0) (hk0 : k0 ≤ hB.size) (CR0 : CHr Z consts_1 s.vm h0 vm0 hB) (hw : ∀ d ∈ tables_1, d.before a0 Z = true) (hby : c.code = code) (hml : c.maxLocals = 19) (howns : s.vm.findClass "com/example/sheafgate/sheafgate/http/RequestFieldsStripPinLaw" = some m.cls) (hown : (s.setVm vm0).vm.findClass "com/example/sheafgate/sheafgate/http/RequestFieldsStripPinLaw" = some m.cls) (hnm : meth.name = "law") (hret : meth.sig.returnType = some .boolean) (hlk : meth.locks = false) (e0 : T0.heap = hB) (N0 : Fr n0 locs) (O0 : Old Z n0 hB) (hr0 : ¬ c0 < 0 ∧ ¬ (255 : Int32) < c0) (hr1 : ¬ c1 < 0 ∧ ¬ (255 : Int32) < c1) (hr2 : ¬ c2 < 0 ∧ ¬ (255 : Int32) < c2) (hr3 : ¬ c3 < 0 ∧ ¬ (255 : Int32) < c3) (SC : Sta Z Z.heap "java/lang/String" "COMPACT_STRINGS" "Z" (.int cz)) (hcz : ¬ cz = (0 : Int32)) (SF : Sta Z Z.heap "jdk/internal/util/Preconditions" "SIOOBE_FORMATTER" "Ljava/util/function/BiFunction;" fm) (hfm : fm.isRef = true) :
    own_W p e below s room_1.cells room_1.slots Z consts_1 h0 (own_L n0) T0 (mkF m 33 #[iv p0, iv p1, iv p2, iv p3, iv p4, iv (1 : Int32), iv c0, iv c1, iv c2, iv c3, .unset, .unset, .unset, .unset, .unset, .unset, .unset, .unset, .unset] []) := by
  have hEL := own_EW hw
  refine own_stW (T' := T0) (g' := (mkF m 35 #[iv p0, iv p1, iv p2, iv p3, iv p4, iv (1 : Int32), iv c0, iv c1, iv c2, iv c3, .unset, .unset, .unset, .unset, .unset, .unset, .unset, .unset, .unset] [(.int (1 : Int32))])) (fun _ k_ => XS.iload X0.here hx rfl (hb hby at_33) rfl  k_) ?_
  obtain ⟨_, T1, L1, X1, hQ1, st1⟩ := own_callS X0 hx (y := own_m24) hown (mvT hZ (wd hw 5 rfl)) (mvT hZ (wd hw 6 rfl)) (mvT hZ (wd hw 3 rfl)) (mvT hZ (wd hw 7 rfl)) (by decide) (backOf (W := 0) (rm_make1 l Z a0 hw []  hB n0 O0) hZ (wd hw 7 rfl) (wd hw 3 rfl) (by decide) (by decide)) (g := (mkF m 35 #[iv p0, iv p1, iv p2, iv p3, iv p4, iv (1 : Int32), iv c0, iv c1, iv c2, iv c3, .unset, .unset, .unset, .unset, .unset, .unset, .unset, .unset, .unset] [(.int (1 : Int32))])) rfl (by rw [hml]; rfl) (argsL := [(.int (1 : Int32))]) (rest := []) (lenOf pd__I__C rfl) rfl (by show 2 * 0 + _ ≤ _; exact Nat.le_of_eq rfl) (hb hby at_35) rfl e0 (by decide) (by decide) (c' := 1) (s' := 4) rfl rfl
  obtain ⟨va1, kc1, rfl, Nq1, K1, fq1_0, xq1_fresh_va⟩ := hQ1
  have N1 := Fr.app N0 Nq1
  have CR2 : CHr Z consts_1 s.vm h0 vm0 T1.heap := CR0.trans (CHr.keep K1 sf0 CR0.1)
  refine own_stW (T' := T1) (g' := (mkF m 38 #[iv p0, iv p1, iv p2, iv p3, iv p4, iv (1 : Int32), iv c0, iv c1, iv c2, iv c3, .unset, .unset, .unset, .unset, .unset, .unset, .unset, .unset, .unset] [(.ref va1)])) st1 ?_
  clear st1
  refine own_stW (T' := T1) (g' := (mkF m 40 #[iv p0, iv p1, iv p2, iv p3, iv p4, iv (1 : Int32), iv c0, iv c1, iv c2, iv c3, rv va1, .unset, .unset, .unset, .unset, .unset, .unset, .unset, .unset] [])) (fun _ k_ => XS.astore X1.here hx rfl (hb hby at_38) rfl rfl (l' := #[iv p0, iv p1, iv p2, iv p3, iv p4, iv (1 : Int32), iv c0, iv c1, iv c2, iv c3, rv va1, .unset, .unset, .unset, .unset, .unset, .unset, .unset, .unset]) rfl k_) ?_
  refine own_stW (T' := T1) (g' := (mkF m 42 #[iv p0, iv p1, iv p2, iv p3, iv p4, iv (1 : Int32), iv c0, iv c1, iv c2, iv c3, rv va1, .unset, .unset, .unset, .unset, .unset, .unset, .unset, .unset] [(.int (1 : Int32))])) (fun _ k_ => XS.iload X1.here hx rfl (hb hby at_40) rfl  k_) ?_
  refine own_stW (T' := T1) (g' := (mkF m 45 #[iv p0, iv p1, iv p2, iv p3, iv p4, iv (1 : Int32), iv c0, iv c1, iv c2, iv c3, rv va1, .unset, .unset, .unset, .unset, .unset, .unset, .unset, .unset] [])) (fun _ k_ => XS.ifNo X1.here hx rfl (hb hby at_42) rfl ((if0 _ _).trans (tlt (by decide : (0 : Int32) < (1 : Int32))).2.2.2) k_) ?_
  refine own_stW (T' := T1) (g' := (mkF m 47 #[iv p0, iv p1, iv p2, iv p3, iv p4, iv (1 : Int32), iv c0, iv c1, iv c2, iv c3, rv va1, .unset, .unset, .unset, .unset, .unset, .unset, .unset, .unset] [(.ref va1)])) (fun _ k_ => XS.aload X1.here hx rfl (hb hby at_45) rfl rfl  k_) ?_
  refine own_stW (T' := T1) (g' := (mkF m 48 #[iv p0, iv p1, iv p2, iv p3, iv p4, iv (1 : Int32), iv c0, iv c1, iv c2, iv c3, rv va1, .unset, .unset, .unset, .unset, .unset, .unset, .unset, .unset] [(.int (0 : Int32)), (.ref va1)])) (fun _ k_ => XS.iconst X1.here hx rfl (hb hby at_47) k_) ?_
  refine own_stW (T' := T1) (g' := (mkF m 50 #[iv p0, iv p1, iv p2, iv p3, iv p4, iv (1 : Int32), iv c0, iv c1, iv c2, iv c3, rv va1, .unset, .unset, .unset, .unset, .unset, .unset, .unset, .unset] [(.int c0), (.int (0 : Int32)), (.ref va1)])) (fun _ k_ => XS.iload X1.here hx rfl (hb hby at_48) rfl  k_) ?_
  obtain ⟨cl3, Ar3, q3, S3, N3, H3, G3⟩ := id fq1_0
  have hin3 : ¬ ((0 : Int32) < 0 ∨ cl3.slots.size ≤ ((0 : Int32)).toNatClampNeg) := inb_of S3 ⟨by decide, by decide⟩
  obtain ⟨T4, h4, X4, e4, W4, st4⟩ := stC X1 hx hZ rfl Ar3 (j := (0 : Int32)) hin3 (g := (mkF m 50 #[iv p0, iv p1, iv p2, iv p3, iv p4, iv (1 : Int32), iv c0, iv c1, iv c2, iv c3, rv va1, .unset, .unset, .unset, .unset, .unset, .unset, .unset, .unset] [(.int c0), (.int (0 : Int32)), (.ref va1)])) rfl rfl (hb hby at_50)
  have CR5 : CHr Z consts_1 s.vm h0 vm0 h4 := CR2.trans (CHr.wr W4 (Safe.arv hZ.alike fq1_0 (by decide)) CR2.1)
  have V4 : Arv Z h4 va1 kc1 .char (1 : Int32) [(.int (nar .char c0))] (.int (0 : Int32)) := Arv.set Ar3 q3 S3 N3 H3 G3 (fits_nar_char _) W4 0 rfl (Nat.le_of_ble_eq_true rfl)
  have Vn4 : Arv Z h4 va1 kc1 .char (1 : Int32) [(.int c0)] (.int (0 : Int32)) := by simpa only [own_nch hr0] using V4
  have Nx4 := Fr.snoc X4 N1 (Nat.le_trans (own_z O0) xq1_fresh_va)
  refine own_stW (T' := T4) (g' := (mkF m 51 #[iv p0, iv p1, iv p2, iv p3, iv p4, iv (1 : Int32), iv c0, iv c1, iv c2, iv c3, rv va1, .unset, .unset, .unset, .unset, .unset, .unset, .unset, .unset] [])) st4 ?_
  clear hin3 G3 H3 N3 S3 q3 Ar3 cl3 st4
  refine own_stW (T' := T4) (g' := (mkF m 53 #[iv p0, iv p1, iv p2, iv p3, iv p4, iv (1 : Int32), iv c0, iv c1, iv c2, iv c3, rv va1, .unset, .unset, .unset, .unset, .unset, .unset, .unset, .unset] [(.int (1 : Int32))])) (fun _ k_ => XS.iload X4.here hx rfl (hb hby at_51) rfl  k_) ?_
  refine own_stW (T' := T4) (g' := (mkF m 54 #[iv p0, iv p1, iv p2, iv p3, iv p4, iv (1 : Int32), iv c0, iv c1, iv c2, iv c3, rv va1, .unset, .unset, .unset, .unset, .unset, .unset, .unset, .unset] [(.int (1 : Int32)), (.int (1 : Int32))])) (fun _ k_ => XS.iconst X4.here hx rfl (hb hby at_53) k_) ?_
  refine own_stW (T' := T4) (g' := (mkF m 63 #[iv p0, iv p1, iv p2, iv p3, iv p4, iv (1 : Int32), iv c0, iv c1, iv c2, iv c3, rv va1, .unset, .unset, .unset, .unset, .unset, .unset, .unset, .unset] [])) (fun _ k_ => XS.icmpYes X4.here hx rfl (pc0 := 54) (pc' := 63) rfl (hb hby at_54) rfl (flt (by decide : ¬ ((1 : Int32) < (1 : Int32)))).2.2.2 (by decide) (by decide) k_) ?_
  refine own_stW (T' := T4) (g' := (mkF m 65 #[iv p0, iv p1, iv p2, iv p3, iv p4, iv (1 : Int32), iv c0, iv c1, iv c2, iv c3, rv va1, .unset, .unset, .unset, .unset, .unset, .unset, .unset, .unset] [(.int (1 : Int32))])) (fun _ k_ => XS.iload X4.here hx rfl (hb hby at_63) rfl  k_) ?_
  refine own_stW (T' := T4) (g' := (mkF m 66 #[iv p0, iv p1, iv p2, iv p3, iv p4, iv (1 : Int32), iv c0, iv c1, iv c2, iv c3, rv va1, .unset, .unset, .unset, .unset, .unset, .unset, .unset, .unset] [(.int (2 : Int32)), (.int (1 : Int32))])) (fun _ k_ => XS.iconst X4.here hx rfl (hb hby at_65) k_) ?_
  refine own_stW (T' := T4) (g' := (mkF m 75 #[iv p0, iv p1, iv p2, iv p3, iv p4, iv (1 : Int32), iv c0, iv c1, iv c2, iv c3, rv va1, .unset, .unset, .unset, .unset, .unset, .unset, .unset, .unset] [])) (fun _ k_ => XS.icmpYes X4.here hx rfl (pc0 := 66) (pc' := 75) rfl (hb hby at_66) rfl (flt (by decide : ¬ ((2 : Int32) < (1 : Int32)))).2.2.2 (by decide) (by decide) k_) ?_
  refine own_stW (T' := T4) (g' := (mkF m 77 #[iv p0, iv p1, iv p2, iv p3, iv p4, iv (1 : Int32), iv c0, iv c1, iv c2, iv c3, rv va1, .unset, .unset, .unset, .unset, .unset, .unset, .unset, .unset] [(.int (1 : Int32))])) (fun _ k_ => XS.iload X4.here hx rfl (hb hby at_75) rfl  k_) ?_
  refine own_stW (T' := T4) (g' := (mkF m 78 #[iv p0, iv p1, iv p2, iv p3, iv p4, iv (1 : Int32), iv c0, iv c1, iv c2, iv c3, rv va1, .unset, .unset, .unset, .unset, .unset, .unset, .unset, .unset] [(.int (3 : Int32)), (.int (1 : Int32))])) (fun _ k_ => XS.iconst X4.here hx rfl (hb hby at_77) k_) ?_
  refine own_stW (T' := T4) (g' := (mkF m 87 #[iv p0, iv p1, iv p2, iv p3, iv p4, iv (1 : Int32), iv c0, iv c1, iv c2, iv c3, rv va1, .unset, .unset, .unset, .unset, .unset, .unset, .unset, .unset] [])) (fun _ k_ => XS.icmpYes X4.here hx rfl (pc0 := 78) (pc' := 87) rfl (hb hby at_78) rfl (flt (by decide : ¬ ((3 : Int32) < (1 : Int32)))).2.2.2 (by decide) (by decide) k_) ?_
  have f6 : Old Z n0 T1.heap := O0.keep K1 all0
  have f7 : Old Z n0 h4 := f6.wr W4 (Nat.le_trans (own_z O0) xq1_fresh_va)
  obtain ⟨T8, h8, X8, e8, E8, A8, D8, -, st8⟩ := newO X4 hx hZ hown (wd hw 9 rfl) (wd hw 10 rfl) (wd hw 11 rfl) e4 (g := (mkF m 87 #[iv p0, iv p1, iv p2, iv p3, iv p4, iv (1 : Int32), iv c0, iv c1, iv c2, iv c3, rv va1, .unset, .unset, .unset, .unset, .unset, .unset, .unset, .unset] [])) rfl (hb hby at_87) (by decide) (by decide)
  obtain ⟨b8, g8⟩ : ∃ z, z = h4.size := ⟨_, rfl⟩
  rw [← g8] at A8 D8 st8
  have fr8 : n0 ≤ b8 := Nat.le_trans (own_z f7) (Nat.le_of_eq g8.symm)
  have CR9 : CHr Z consts_1 s.vm h0 vm0 h8 := CR5.trans (CHr.ext E8 CR5.1)
  have sf10 : Safe Z consts_1 vm0 h8 b8 := Safe.ext E8 CR5.1 (Safe.new (Nat.le_of_eq g8.symm))
  have F8_value : Fld Z h8 b8 "java/lang/String" "value" "[B" .null := D8 (Or.inr (wd hw 24 rfl)) (ty := (.array .byte)) (by decide)
  have F8_coder : Fld Z h8 b8 "java/lang/String" "coder" "B" (.int (0 : Int32)) := D8 (Or.inr (wd hw 25 rfl)) (ty := .byte) (by decide)
  refine own_stW (T' := T8) (g' := (mkF m 90 #[iv p0, iv p1, iv p2, iv p3, iv p4, iv (1 : Int32), iv c0, iv c1, iv c2, iv c3, rv va1, .unset, .unset, .unset, .unset, .unset, .unset, .unset, .unset] [(.ref b8)])) st8 ?_
  clear st8
  refine own_stW (T' := T8) (g' := (mkF m 91 #[iv p0, iv p1, iv p2, iv p3, iv p4, iv (1 : Int32), iv c0, iv c1, iv c2, iv c3, rv va1, .unset, .unset, .unset, .unset, .unset, .unset, .unset, .unset] [(.ref b8), (.ref b8)])) (fun _ k_ => XS.dup X8.here hx rfl (hb hby at_90) rfl rfl k_) ?_
  refine own_stW (T' := T8) (g' := (mkF m 93 #[iv p0, iv p1, iv p2, iv p3, iv p4, iv (1 : Int32), iv c0, iv c1, iv c2, iv c3, rv va1, .unset, .unset, .unset, .unset, .unset, .unset, .unset, .unset] [(.ref va1), (.ref b8), (.ref b8)])) (fun _ k_ => XS.aload X8.here hx rfl (hb hby at_91) rfl rfl  k_) ?_
  have f11 : Arv Z h8 va1 kc1 .char (1 : Int32) [(.int c0)] (.int (0 : Int32)) := Vn4.ext E8
  have f12 : Old Z n0 h8 := f7.ext E8
  obtain ⟨_, T13, L13, X13, hQ13, st13⟩ := own_callI X8 hx (y := own_m18) rfl hown (mvT hZ (wd hw 12 rfl)) (mvT hZ (wd hw 13 rfl)) (mvT hZ (wd hw 14 rfl)) (by decide) (backOf (W := 1) (rm_ini1_1 l Z a0 hw [] b8 va1 kc1 cz c0 h8 n0 f12 A8 F8_value F8_coder fr8 f11 SC hcz hr0.2) hZ (wd hw 14 rfl) (wd hw 11 rfl) (by decide) (by decide)) (g := (mkF m 93 #[iv p0, iv p1, iv p2, iv p3, iv p4, iv (1 : Int32), iv c0, iv c1, iv c2, iv c3, rv va1, .unset, .unset, .unset, .unset, .unset, .unset, .unset, .unset] [(.ref va1), (.ref b8), (.ref b8)])) rfl (by rw [hml]; rfl) (a := b8) (argsL := [(.ref va1)]) (rest := [(.ref b8)]) (lenOf pd___C_V rfl) rfl (by show 2 * 0 + _ ≤ _; exact Nat.le_of_eq rfl) (hb hby at_93) rfl e8 (by decide) (by decide) (c' := 6) (s' := 16) rfl rfl
  obtain ⟨t13, kb13, rfl, Nq13, K13, fq13_0, fq13_1, fq13_2, fq13_3, xq13_fresh_t⟩ := hQ13
  have N13 := Fr.app Nx4 Nq13
  have CR14 : CHr Z consts_1 s.vm h0 vm0 T13.heap := CR9.trans (CHr.keep K13 (sfS sf10 sf0) CR9.1)
  have sf15 : Safe Z consts_1 vm0 T13.heap b8 := Safe.keep K13 (sfS sf10 sf0) CR9.1 sf10
  refine own_stW (T' := T13) (g' := (mkF m 96 #[iv p0, iv p1, iv p2, iv p3, iv p4, iv (1 : Int32), iv c0, iv c1, iv c2, iv c3, rv va1, .unset, .unset, .unset, .unset, .unset, .unset, .unset, .unset] [(.ref b8)])) st13 ?_
  clear st13
  have f16 : Old Z n0 T13.heap := f12.keep K13 (allS fr8 all0)
  obtain ⟨_, T17, L17, X17, hS17, hQ17, ch17, st17⟩ := own_callSW X13 hx (y := own_m16) hown (mvT hZ (wd hw 30 rfl)) (mvT hZ (wd hw 31 rfl)) (mvT hZ (wd hw 32 rfl)) (mvT hZ (wd hw 33 rfl)) (by decide) (own_backW (W := 0) (rm_strip l Z a0 hw [] b8 t13 kb13 ([c0] : List Int32) cz fm T13.heap n0 f16 fq13_0 fq13_2 fq13_1 fq13_3 (own_cRS hr0 own_cR0) (Nat.le_of_ble_eq_true rfl) SC hcz SF hfm) hZ (wd hw 33 rfl) (wd hw 32 rfl) (by decide) (by decide) hEL CR14.1 sf0 all0) (g := (mkF m 96 #[iv p0, iv p1, iv p2, iv p3, iv p4, iv (1 : Int32), iv c0, iv c1, iv c2, iv c3, rv va1, .unset, .unset, .unset, .unset, .unset, .unset, .unset, .unset] [(.ref b8)])) rfl (by rw [hml]; rfl) (argsL := [(.ref b8)]) (rest := []) (lenOf pd__Ljava_lang_String__Ljava_lang_String_ rfl) rfl (by show 2 * 0 + _ ≤ _; exact Nat.le_of_eq rfl) (hb hby at_96) rfl rfl (by decide) (by decide) (c' := 8) (s' := 24) rfl rfl hS0 (Nat.le_trans (Nat.le_trans (Nat.le_trans (Nat.le_trans hk0 K1.1) (Nat.le_of_eq (Wr.size W4).symm)) E8.1) K13.1)
  obtain ⟨r17, u17, ku17, rfl, Nq17, K17, fq17_0, fq17_1, fq17_2, fq17_3⟩ := hQ17
  have N17 := Fr.app N13 Nq17
  have CR18 : CHr Z consts_1 s.vm h0 T17.vm T17.heap := CR14.trans ch17
  have sf19 : Safe Z consts_1 T17.vm T17.heap b8 := ch17.safe (Nat.lt_of_lt_of_le A8.lt K13.1) sf15
  have hZ17 : Z.Warmed39 (s.setVm T17.vm).vm := own_hZ hZs hS17
  have hown17 : (s.setVm T17.vm).vm.findClass "com/example/sheafgate/sheafgate/http/RequestFieldsStripPinLaw" = some m.cls := own_hown howns hS17
  refine own_stW (T' := T17) (g' := (mkF m 99 #[iv p0, iv p1, iv p2, iv p3, iv p4, iv (1 : Int32), iv c0, iv c1, iv c2, iv c3, rv va1, .unset, .unset, .unset, .unset, .unset, .unset, .unset, .unset] [(.ref r17)])) st17 ?_
  clear st17
  refine own_stW (T' := T17) (g' := (mkF m 101 #[iv p0, iv p1, iv p2, iv p3, iv p4, iv (1 : Int32), iv c0, iv c1, iv c2, iv c3, rv va1, rv r17, .unset, .unset, .unset, .unset, .unset, .unset, .unset] [])) (fun _ k_ => XS.astore X17.here hx rfl (hb hby at_99) rfl rfl (l' := #[iv p0, iv p1, iv p2, iv p3, iv p4, iv (1 : Int32), iv c0, iv c1, iv c2, iv c3, rv va1, rv r17, .unset, .unset, .unset, .unset, .unset, .unset, .unset]) rfl k_) ?_
  refine own_stW (T' := T17) (g' := (mkF m 103 #[iv p0, iv p1, iv p2, iv p3, iv p4, iv (1 : Int32), iv c0, iv c1, iv c2, iv c3, rv va1, rv r17, .unset, .unset, .unset, .unset, .unset, .unset, .unset] [(.int c0)])) (fun _ k_ => XS.iload X17.here hx rfl (hb hby at_101) rfl  k_) ?_
  have f20 : Old Z n0 T17.heap := f16.keep K17 all0
  obtain ⟨_, T21, L21, X21, hQ21, st21⟩ := own_callS X17 hx (y := own_m23) hown17 (mvT hZ17 (wd hw 59 rfl)) (mvT hZ17 (wd hw 60 rfl)) (mvT hZ17 (wd hw 3 rfl)) (mvT hZ17 (wd hw 61 rfl)) (by decide) (backOf (W := 0) (rm_ws l Z a0 hw [] c0 T17.heap n0 f20) hZ17 (wd hw 61 rfl) (wd hw 3 rfl) (by decide) (by decide)) (g := (mkF m 103 #[iv p0, iv p1, iv p2, iv p3, iv p4, iv (1 : Int32), iv c0, iv c1, iv c2, iv c3, rv va1, rv r17, .unset, .unset, .unset, .unset, .unset, .unset, .unset] [(.int c0)])) rfl (by rw [hml]; rfl) (argsL := [(.int c0)]) (rest := []) (lenOf pd__C_Z rfl) rfl (by show 2 * 0 + _ ≤ _; exact Nat.le_of_eq rfl) (hb hby at_103) rfl rfl (by decide) (by decide) (c' := 8) (s' := 24) rfl rfl
  obtain ⟨rfl, Nq21, eq21⟩ := hQ21
  have N21 := Fr.app N17 Nq21
  refine own_stW (T' := T21) (g' := (mkF m 106 #[iv p0, iv p1, iv p2, iv p3, iv p4, iv (1 : Int32), iv c0, iv c1, iv c2, iv c3, rv va1, rv r17, .unset, .unset, .unset, .unset, .unset, .unset, .unset] [(.int (own_wi c0))])) st21 ?_
  clear st21
  refine own_stW (T' := T21) (g' := (mkF m 108 #[iv p0, iv p1, iv p2, iv p3, iv p4, iv (1 : Int32), iv c0, iv c1, iv c2, iv c3, rv va1, rv r17, iv (own_wi c0), .unset, .unset, .unset, .unset, .unset, .unset] [])) (fun _ k_ => XS.istore X21.here hx rfl (hb hby at_106) rfl (l' := #[iv p0, iv p1, iv p2, iv p3, iv p4, iv (1 : Int32), iv c0, iv c1, iv c2, iv c3, rv va1, rv r17, iv (own_wi c0), .unset, .unset, .unset, .unset, .unset, .unset]) rfl k_) ?_
  refine own_stW (T' := T21) (g' := (mkF m 110 #[iv p0, iv p1, iv p2, iv p3, iv p4, iv (1 : Int32), iv c0, iv c1, iv c2, iv c3, rv va1, rv r17, iv (own_wi c0), .unset, .unset, .unset, .unset, .unset, .unset] [(.int c1)])) (fun _ k_ => XS.iload X21.here hx rfl (hb hby at_108) rfl  k_) ?_
  obtain ⟨_, T22, L22, X22, hQ22, st22⟩ := own_callS X21 hx (y := own_m23) hown17 (mvT hZ17 (wd hw 59 rfl)) (mvT hZ17 (wd hw 60 rfl)) (mvT hZ17 (wd hw 3 rfl)) (mvT hZ17 (wd hw 61 rfl)) (by decide) (backOf (W := 0) (rm_ws l Z a0 hw [] c1 T17.heap n0 f20) hZ17 (wd hw 61 rfl) (wd hw 3 rfl) (by decide) (by decide)) (g := (mkF m 110 #[iv p0, iv p1, iv p2, iv p3, iv p4, iv (1 : Int32), iv c0, iv c1, iv c2, iv c3, rv va1, rv r17, iv (own_wi c0), .unset, .unset, .unset, .unset, .unset, .unset] [(.int c1)])) rfl (by rw [hml]; rfl) (argsL := [(.int c1)]) (rest := []) (lenOf pd__C_Z rfl) rfl (by show 2 * 0 + _ ≤ _; exact Nat.le_of_eq rfl) (hb hby at_110) rfl eq21 (by decide) (by decide) (c' := 8) (s' := 24) rfl rfl
  obtain ⟨rfl, Nq22, eq22⟩ := hQ22
  have N22 := Fr.app N21 Nq22
  refine own_stW (T' := T22) (g' := (mkF m 113 #[iv p0, iv p1, iv p2, iv p3, iv p4, iv (1 : Int32), iv c0, iv c1, iv c2, iv c3, rv va1, rv r17, iv (own_wi c0), .unset, .unset, .unset, .unset, .unset, .unset] [(.int (own_wi c1))])) st22 ?_
  clear st22
  refine own_stW (T' := T22) (g' := (mkF m 115 #[iv p0, iv p1, iv p2, iv p3, iv p4, iv (1 : Int32), iv c0, iv c1, iv c2, iv c3, rv va1, rv r17, iv (own_wi c0), iv (own_wi c1), .unset, .unset, .unset, .unset, .unset] [])) (fun _ k_ => XS.istore X22.here hx rfl (hb hby at_113) rfl (l' := #[iv p0, iv p1, iv p2, iv p3, iv p4, iv (1 : Int32), iv c0, iv c1, iv c2, iv c3, rv va1, rv r17, iv (own_wi c0), iv (own_wi c1), .unset, .unset, .unset, .unset, .unset]) rfl k_) ?_
  refine own_stW (T' := T22) (g' := (mkF m 117 #[iv p0, iv p1, iv p2, iv p3, iv p4, iv (1 : Int32), iv c0, iv c1, iv c2, iv c3, rv va1, rv r17, iv (own_wi c0), iv (own_wi c1), .unset, .unset, .unset, .unset, .unset] [(.int c2)])) (fun _ k_ => XS.iload X22.here hx rfl (hb hby at_115) rfl  k_) ?_
  obtain ⟨_, T23, L23, X23, hQ23, st23⟩ := own_callS X22 hx (y := own_m23) hown17 (mvT hZ17 (wd hw 59 rfl)) (mvT hZ17 (wd hw 60 rfl)) (mvT hZ17 (wd hw 3 rfl)) (mvT hZ17 (wd hw 61 rfl)) (by decide) (backOf (W := 0) (rm_ws l Z a0 hw [] c2 T17.heap n0 f20) hZ17 (wd hw 61 rfl) (wd hw 3 rfl) (by decide) (by decide)) (g := (mkF m 117 #[iv p0, iv p1, iv p2, iv p3, iv p4, iv (1 : Int32), iv c0, iv c1, iv c2, iv c3, rv va1, rv r17, iv (own_wi c0), iv (own_wi c1), .unset, .unset, .unset, .unset, .unset] [(.int c2)])) rfl (by rw [hml]; rfl) (argsL := [(.int c2)]) (rest := []) (lenOf pd__C_Z rfl) rfl (by show 2 * 0 + _ ≤ _; exact Nat.le_of_eq rfl) (hb hby at_117) rfl eq22 (by decide) (by decide) (c' := 8) (s' := 24) rfl rfl
  obtain ⟨rfl, Nq23, eq23⟩ := hQ23
  have N23 := Fr.app N22 Nq23
  refine own_stW (T' := T23) (g' := (mkF m 120 #[iv p0, iv p1, iv p2, iv p3, iv p4, iv (1 : Int32), iv c0, iv c1, iv c2, iv c3, rv va1, rv r17, iv (own_wi c0), iv (own_wi c1), .unset, .unset, .unset, .unset, .unset] [(.int (own_wi c2))])) st23 ?_
  clear st23
  refine own_stW (T' := T23) (g' := (mkF m 122 #[iv p0, iv p1, iv p2, iv p3, iv p4, iv (1 : Int32), iv c0, iv c1, iv c2, iv c3, rv va1, rv r17, iv (own_wi c0), iv (own_wi c1), iv (own_wi c2), .unset, .unset, .unset, .unset] [])) (fun _ k_ => XS.istore X23.here hx rfl (hb hby at_120) rfl (l' := #[iv p0, iv p1, iv p2, iv p3, iv p4, iv (1 : Int32), iv c0, iv c1, iv c2, iv c3, rv va1, rv r17, iv (own_wi c0), iv (own_wi c1), iv (own_wi c2), .unset, .unset, .unset, .unset]) rfl k_) ?_
  refine own_stW (T' := T23) (g' := (mkF m 124 #[iv p0, iv p1, iv p2, iv p3, iv p4, iv (1 : Int32), iv c0, iv c1, iv c2, iv c3, rv va1, rv r17, iv (own_wi c0), iv (own_wi c1), iv (own_wi c2), .unset, .unset, .unset, .unset] [(.int c3)])) (fun _ k_ => XS.iload X23.here hx rfl (hb hby at_122) rfl  k_) ?_
  obtain ⟨_, T24, L24, X24, hQ24, st24⟩ := own_callS X23 hx (y := own_m23) hown17 (mvT hZ17 (wd hw 59 rfl)) (mvT hZ17 (wd hw 60 rfl)) (mvT hZ17 (wd hw 3 rfl)) (mvT hZ17 (wd hw 61 rfl)) (by decide) (backOf (W := 0) (rm_ws l Z a0 hw [] c3 T17.heap n0 f20) hZ17 (wd hw 61 rfl) (wd hw 3 rfl) (by decide) (by decide)) (g := (mkF m 124 #[iv p0, iv p1, iv p2, iv p3, iv p4, iv (1 : Int32), iv c0, iv c1, iv c2, iv c3, rv va1, rv r17, iv (own_wi c0), iv (own_wi c1), iv (own_wi c2), .unset, .unset, .unset, .unset] [(.int c3)])) rfl (by rw [hml]; rfl) (argsL := [(.int c3)]) (rest := []) (lenOf pd__C_Z rfl) rfl (by show 2 * 0 + _ ≤ _; exact Nat.le_of_eq rfl) (hb hby at_124) rfl eq23 (by decide) (by decide) (c' := 8) (s' := 24) rfl rfl
  obtain ⟨rfl, Nq24, eq24⟩ := hQ24
  have N24 := Fr.app N23 Nq24
  refine own_stW (T' := T24) (g' := (mkF m 127 #[iv p0, iv p1, iv p2, iv p3, iv p4, iv (1 : Int32), iv c0, iv c1, iv c2, iv c3, rv va1, rv r17, iv (own_wi c0), iv (own_wi c1), iv (own_wi c2), .unset, .unset, .unset, .unset] [(.int (own_wi c3))])) st24 ?_
  clear st24
  refine own_stW (T' := T24) (g' := (mkF m 129 #[iv p0, iv p1, iv p2, iv p3, iv p4, iv (1 : Int32), iv c0, iv c1, iv c2, iv c3, rv va1, rv r17, iv (own_wi c0), iv (own_wi c1), iv (own_wi c2), iv (own_wi c3), .unset, .unset, .unset] [])) (fun _ k_ => XS.istore X24.here hx rfl (hb hby at_127) rfl (l' := #[iv p0, iv p1, iv p2, iv p3, iv p4, iv (1 : Int32), iv c0, iv c1, iv c2, iv c3, rv va1, rv r17, iv (own_wi c0), iv (own_wi c1), iv (own_wi c2), iv (own_wi c3), .unset, .unset, .unset]) rfl k_) ?_
  refine own_stW (T' := T24) (g' := (mkF m 131 #[iv p0, iv p1, iv p2, iv p3, iv p4, iv (1 : Int32), iv c0, iv c1, iv c2, iv c3, rv va1, rv r17, iv (own_wi c0), iv (own_wi c1), iv (own_wi c2), iv (own_wi c3), .unset, .unset, .unset] [(.int (1 : Int32))])) (fun _ k_ => XS.iload X24.here hx rfl (hb hby at_129) rfl  k_) ?_
  refine own_stW (T' := T24) (g' := (mkF m 134 #[iv p0, iv p1, iv p2, iv p3, iv p4, iv (1 : Int32), iv c0, iv c1, iv c2, iv c3, rv va1, rv r17, iv (own_wi c0), iv (own_wi c1), iv (own_wi c2), iv (own_wi c3), .unset, .unset, .unset] [])) (fun _ k_ => XS.ifNo X24.here hx rfl (hb hby at_131) rfl ((if0 _ _).trans (tlt (by decide : (0 : Int32) < (1 : Int32))).2.2.2) k_) ?_
  refine own_stW (T' := T24) (g' := (mkF m 136 #[iv p0, iv p1, iv p2, iv p3, iv p4, iv (1 : Int32), iv c0, iv c1, iv c2, iv c3, rv va1, rv r17, iv (own_wi c0), iv (own_wi c1), iv (own_wi c2), iv (own_wi c3), .unset, .unset, .unset] [(.int (own_wi c0))])) (fun _ k_ => XS.iload X24.here hx rfl (hb hby at_134) rfl  k_) ?_
  by_cases hc25 : (own_wi c0) = (0 : Int32)
  · refine own_stW (T' := T24) (g' := (mkF m 139 #[iv p0, iv p1, iv p2, iv p3, iv p4, iv (1 : Int32), iv c0, iv c1, iv c2, iv c3, rv va1, rv r17, iv (own_wi c0), iv (own_wi c1), iv (own_wi c2), iv (own_wi c3), .unset, .unset, .unset] [])) (fun _ k_ => XS.ifNo X24.here hx rfl (hb hby at_136) rfl ((if0 _ _).trans (teq hc25).2) k_) ?_
    refine own_stW (T' := T24) (g' := (mkF m 140 #[iv p0, iv p1, iv p2, iv p3, iv p4, iv (1 : Int32), iv c0, iv c1, iv c2, iv c3, rv va1, rv r17, iv (own_wi c0), iv (own_wi c1), iv (own_wi c2), iv (own_wi c3), .unset, .unset, .unset] [(.int (0 : Int32))])) (fun _ k_ => XS.iconst X24.here hx rfl (hb hby at_139) k_) ?_
    refine own_stW (T' := T24) (g' := (mkF m 142 #[iv p0, iv p1, iv p2, iv p3, iv p4, iv (1 : Int32), iv c0, iv c1, iv c2, iv c3, rv va1, rv r17, iv (own_wi c0), iv (own_wi c1), iv (own_wi c2), iv (own_wi c3), iv (0 : Int32), .unset, .unset] [])) (fun _ k_ => XS.istore X24.here hx rfl (hb hby at_140) rfl (l' := #[iv p0, iv p1, iv p2, iv p3, iv p4, iv (1 : Int32), iv c0, iv c1, iv c2, iv c3, rv va1, rv r17, iv (own_wi c0), iv (own_wi c1), iv (own_wi c2), iv (own_wi c3), iv (0 : Int32), .unset, .unset]) rfl k_) ?_
    refine own_stW (T' := T24) (g' := (mkF m 200 #[iv p0, iv p1, iv p2, iv p3, iv p4, iv (1 : Int32), iv c0, iv c1, iv c2, iv c3, rv va1, rv r17, iv (own_wi c0), iv (own_wi c1), iv (own_wi c2), iv (own_wi c3), iv (0 : Int32), .unset, .unset] [])) (fun _ k_ => XS.goto X24.here hx rfl (pc0 := 142) (pc' := 200) rfl (hb hby at_142) (by decide) (by decide) k_) ?_
    have ne26 : va1 ≠ b8 := Nat.ne_of_lt (Nat.lt_of_lt_of_le (Nat.lt_of_lt_of_le fq1_0.lt (Nat.le_of_eq (Wr.size W4).symm)) (Nat.le_of_eq g8.symm))
    have f27 : Arv Z T13.heap va1 kc1 .char (1 : Int32) [(.int c0)] (.int (0 : Int32)) := f11.keep K13 (ninS ne26 nin0)
    have f28 : Arv Z T17.heap va1 kc1 .char (1 : Int32) [(.int c0)] (.int (0 : Int32)) := f27.keep K17 nin0
    exact seg_f1 h0 T17.heap n0 p0 p1 p2 p3 p4 c0 c1 c2 c3 va1 kc1 r17 u17 ku17 0 cz fm X24 hx hZs hZ17 hS17 (Nat.le_refl _) CR18 hw hby hml howns hown17 hnm hret hlk eq24 N24 f20 hr0 hr1 hr2 hr3 f28 fq17_0 fq17_2 fq17_1 fq17_3 (by simp [own_is, own_wiF hc25]) SC hcz SF hfm
  · refine own_stW (T' := T24) (g' := (mkF m 145 #[iv p0, iv p1, iv p2, iv p3, iv p4, iv (1 : Int32), iv c0, iv c1, iv c2, iv c3, rv va1, rv r17, iv (own_wi c0), iv (own_wi c1), iv (own_wi c2), iv (own_wi c3), .unset, .unset, .unset] [])) (fun _ k_ => XS.ifYes X24.here hx rfl (pc0 := 136) (pc' := 145) rfl (hb hby at_136) rfl ((if0 _ _).trans (feq hc25).2) (by decide) (by decide) k_) ?_
    refine own_stW (T' := T24) (g' := (mkF m 147 #[iv p0, iv p1, iv p2, iv p3, iv p4, iv (1 : Int32), iv c0, iv c1, iv c2, iv c3, rv va1, rv r17, iv (own_wi c0), iv (own_wi c1), iv (own_wi c2), iv (own_wi c3), .unset, .unset, .unset] [(.int (1 : Int32))])) (fun _ k_ => XS.iload X24.here hx rfl (hb hby at_145) rfl  k_) ?_
    refine own_stW (T' := T24) (g' := (mkF m 148 #[iv p0, iv p1, iv p2, iv p3, iv p4, iv (1 : Int32), iv c0, iv c1, iv c2, iv c3, rv va1, rv r17, iv (own_wi c0), iv (own_wi c1), iv (own_wi c2), iv (own_wi c3), .unset, .unset, .unset] [(.int (1 : Int32)), (.int (1 : Int32))])) (fun _ k_ => XS.iconst X24.here hx rfl (hb hby at_147) k_) ?_
    refine own_stW (T' := T24) (g' := (mkF m 162 #[iv p0, iv p1, iv p2, iv p3, iv p4, iv (1 : Int32), iv c0, iv c1, iv c2, iv c3, rv va1, rv r17, iv (own_wi c0), iv (own_wi c1), iv (own_wi c2), iv (own_wi c3), .unset, .unset, .unset] [])) (fun _ k_ => XS.icmpYes X24.here hx rfl (pc0 := 148) (pc' := 162) rfl (hb hby at_148) rfl (flt (by decide : ¬ ((1 : Int32) < (1 : Int32)))).2.2.2 (by decide) (by decide) k_) ?_
    refine own_stW (T' := T24) (g' := (mkF m 164 #[iv p0, iv p1, iv p2, iv p3, iv p4, iv (1 : Int32), iv c0, iv c1, iv c2, iv c3, rv va1, rv r17, iv (own_wi c0), iv (own_wi c1), iv (own_wi c2), iv (own_wi c3), .unset, .unset, .unset] [(.int (1 : Int32))])) (fun _ k_ => XS.iload X24.here hx rfl (hb hby at_162) rfl  k_) ?_
    refine own_stW (T' := T24) (g' := (mkF m 165 #[iv p0, iv p1, iv p2, iv p3, iv p4, iv (1 : Int32), iv c0, iv c1, iv c2, iv c3, rv va1, rv r17, iv (own_wi c0), iv (own_wi c1), iv (own_wi c2), iv (own_wi c3), .unset, .unset, .unset] [(.int (2 : Int32)), (.int (1 : Int32))])) (fun _ k_ => XS.iconst X24.here hx rfl (hb hby at_164) k_) ?_
    refine own_stW (T' := T24) (g' := (mkF m 179 #[iv p0, iv p1, iv p2, iv p3, iv p4, iv (1 : Int32), iv c0, iv c1, iv c2, iv c3, rv va1, rv r17, iv (own_wi c0), iv (own_wi c1), iv (own_wi c2), iv (own_wi c3), .unset, .unset, .unset] [])) (fun _ k_ => XS.icmpYes X24.here hx rfl (pc0 := 165) (pc' := 179) rfl (hb hby at_165) rfl (flt (by decide : ¬ ((2 : Int32) < (1 : Int32)))).2.2.2 (by decide) (by decide) k_) ?_
    refine own_stW (T' := T24) (g' := (mkF m 181 #[iv p0, iv p1, iv p2, iv p3, iv p4, iv (1 : Int32), iv c0, iv c1, iv c2, iv c3, rv va1, rv r17, iv (own_wi c0), iv (own_wi c1), iv (own_wi c2), iv (own_wi c3), .unset, .unset, .unset] [(.int (1 : Int32))])) (fun _ k_ => XS.iload X24.here hx rfl (hb hby at_179) rfl  k_) ?_
    refine own_stW (T' := T24) (g' := (mkF m 182 #[iv p0, iv p1, iv p2, iv p3, iv p4, iv (1 : Int32), iv c0, iv c1, iv c2, iv c3, rv va1, rv r17, iv (own_wi c0), iv (own_wi c1), iv (own_wi c2), iv (own_wi c3), .unset, .unset, .unset] [(.int (3 : Int32)), (.int (1 : Int32))])) (fun _ k_ => XS.iconst X24.here hx rfl (hb hby at_181) k_) ?_
    refine own_stW (T' := T24) (g' := (mkF m 196 #[iv p0, iv p1, iv p2, iv p3, iv p4, iv (1 : Int32), iv c0, iv c1, iv c2, iv c3, rv va1, rv r17, iv (own_wi c0), iv (own_wi c1), iv (own_wi c2), iv (own_wi c3), .unset, .unset, .unset] [])) (fun _ k_ => XS.icmpYes X24.here hx rfl (pc0 := 182) (pc' := 196) rfl (hb hby at_182) rfl (flt (by decide : ¬ ((3 : Int32) < (1 : Int32)))).2.2.2 (by decide) (by decide) k_) ?_
    refine own_stW (T' := T24) (g' := (mkF m 198 #[iv p0, iv p1, iv p2, iv p3, iv p4, iv (1 : Int32), iv c0, iv c1, iv c2, iv c3, rv va1, rv r17, iv (own_wi c0), iv (own_wi c1), iv (own_wi c2), iv (own_wi c3), .unset, .unset, .unset] [(.int (1 : Int32))])) (fun _ k_ => XS.iload X24.here hx rfl (hb hby at_196) rfl  k_) ?_
    refine own_stW (T' := T24) (g' := (mkF m 200 #[iv p0, iv p1, iv p2, iv p3, iv p4, iv (1 : Int32), iv c0, iv c1, iv c2, iv c3, rv va1, rv r17, iv (own_wi c0), iv (own_wi c1), iv (own_wi c2), iv (own_wi c3), iv (1 : Int32), .unset, .unset] [])) (fun _ k_ => XS.istore X24.here hx rfl (hb hby at_198) rfl (l' := #[iv p0, iv p1, iv p2, iv p3, iv p4, iv (1 : Int32), iv c0, iv c1, iv c2, iv c3, rv va1, rv r17, iv (own_wi c0), iv (own_wi c1), iv (own_wi c2), iv (own_wi c3), iv (1 : Int32), .unset, .unset]) rfl k_) ?_
    have ne29 : va1 ≠ b8 := Nat.ne_of_lt (Nat.lt_of_lt_of_le (Nat.lt_of_lt_of_le fq1_0.lt (Nat.le_of_eq (Wr.size W4).symm)) (Nat.le_of_eq g8.symm))
    have f30 : Arv Z T13.heap va1 kc1 .char (1 : Int32) [(.int c0)] (.int (0 : Int32)) := f11.keep K13 (ninS ne29 nin0)
    have f31 : Arv Z T17.heap va1 kc1 .char (1 : Int32) [(.int c0)] (.int (0 : Int32)) := f30.keep K17 nin0
    exact seg_f1 h0 T17.heap n0 p0 p1 p2 p3 p4 c0 c1 c2 c3 va1 kc1 r17 u17 ku17 1 cz fm X24 hx hZs hZ17 hS17 (Nat.le_refl _) CR18 hw hby hml howns hown17 hnm hret hlk eq24 N24 f20 hr0 hr1 hr2 hr3 f31 fq17_0 fq17_2 fq17_1 fq17_3 (by simp [own_is, own_wiT hc25]) SC hcz SF hfm
set_option maxRecDepth 65536 in
set_option maxHeartbeats 40000000 in
theorem seg_g2 {p : Program} {l : Launch} {e : Env} {s : State} {m : MethodId} {args : Array Value} {below : List Frame} {meth : Method} {c : Code} {T0 : State} {locs : List Loc} {Z : State} {a0 : Array Value} {vm0 : Vm} {k0 : Nat} (h0 : Heap) (hB : Heap) (n0 : Nat) (p0 : Int32) (p1 : Int32) (p2 : Int32) (p3 : Int32) (p4 : Int32) (c0 : Int32) (c1 : Int32) (c2 : Int32) (c3 : Int32) (va : Addr) (kc : ClassId) (r : Addr) (u : Addr) (ku : ClassId) (ss : Nat) (ee : Int32) (cz : Int32) (fm : Value)
    (X0 : Stand p l e room_1 (s.setVm vm0) m args below meth c T0 locs 8 24) (hx : p.tables.exec = Jvm.exec) (hZs : Z.Warmed39 s.vm) (hZ : Z.Warmed39 (s.setVm vm0).vm) (hS0 : s.Since vm0 k0) (hk0 : k0 ≤ hB.size) (CR0 : CHr Z consts_1 s.vm h0 vm0 hB) (hw : ∀ d ∈ tables_1, d.before a0 Z = true) (hby : c.code = code) (hml : c.maxLocals = 19) (howns : s.vm.findClass "com/example/sheafgate/sheafgate/http/RequestFieldsStripPinLaw" = some m.cls) (hown : (s.setVm vm0).vm.findClass "com/example/sheafgate/sheafgate/http/RequestFieldsStripPinLaw" = some m.cls) (hnm : meth.name = "law") (hret : meth.sig.returnType = some .boolean) (hlk : meth.locks = false) (e0 : T0.heap = hB) (N0 : Fr n0 locs) (O0 : Old Z n0 hB) (hr0 : ¬ c0 < 0 ∧ ¬ (255 : Int32) < c0) (hr1 : ¬ c1 < 0 ∧ ¬ (255 : Int32) < c1) (hr2 : ¬ c2 < 0 ∧ ¬ (255 : Int32) < c2) (hr3 : ¬ c3 < 0 ∧ ¬ (255 : Int32) < c3) (VA : Arv Z hB va kc .char (2 : Int32) [(.int c0), (.int c1)] (.int (0 : Int32))) (E_r : Exa Z hB r "java/lang/String") (V_r : Fld Z hB r "java/lang/String" "value" "[B" (.ref u)) (C_r : Fld Z hB r "java/lang/String" "coder" "B" (.int (0 : Int32))) (A_r : Arv Z hB u ku .byte (Int32.ofNat (own_sub ([c0, c1] : List Int32) (own_is ([c0, c1] : List Int32)) (own_ie ([c0, c1] : List Int32))).length) (((own_sub ([c0, c1] : List Int32) (own_is ([c0, c1] : List Int32)) (own_ie ([c0, c1] : List Int32))).map StrChars.lo8).map Value.int) (.int (0 : Int32))) (hs : (own_is ([c0, c1] : List Int32)) = ss) (he : (own_is ([c0, c1] : List Int32)) < 2 → ee = Int32.ofNat (own_ie ([c0, c1] : List Int32))) (SC : Sta Z Z.heap "java/lang/String" "COMPACT_STRINGS" "Z" (.int cz)) (hcz : ¬ cz = (0 : Int32)) (SF : Sta Z Z.heap "jdk/internal/util/Preconditions" "SIOOBE_FORMATTER" "Ljava/util/function/BiFunction;" fm) (hfm : fm.isRef = true) :
    own_W p e below s room_1.cells room_1.slots Z consts_1 h0 (own_L n0) T0 (mkF m 270 #[iv p0, iv p1, iv p2, iv p3, iv p4, iv (2 : Int32), iv c0, iv c1, iv c2, iv c3, rv va, rv r, iv (own_wi c0), iv (own_wi c1), iv (own_wi c2), iv (own_wi c3), iv (Int32.ofNat ss), iv ee, .unset] []) := by
  have hEL := own_EW hw
  subst hs
  refine own_stW (T' := T0) (g' := (mkF m 272 #[iv p0, iv p1, iv p2, iv p3, iv p4, iv (2 : Int32), iv c0, iv c1, iv c2, iv c3, rv va, rv r, iv (own_wi c0), iv (own_wi c1), iv (own_wi c2), iv (own_wi c3), iv (Int32.ofNat (own_is ([c0, c1] : List Int32))), iv ee, .unset] [(.int (Int32.ofNat (own_is ([c0, c1] : List Int32))))])) (fun _ k_ => XS.iload X0.here hx rfl (hb hby at_270) rfl  k_) ?_
  refine own_stW (T' := T0) (g' := (mkF m 274 #[iv p0, iv p1, iv p2, iv p3, iv p4, iv (2 : Int32), iv c0, iv c1, iv c2, iv c3, rv va, rv r, iv (own_wi c0), iv (own_wi c1), iv (own_wi c2), iv (own_wi c3), iv (Int32.ofNat (own_is ([c0, c1] : List Int32))), iv ee, .unset] [(.int (2 : Int32)), (.int (Int32.ofNat (own_is ([c0, c1] : List Int32))))])) (fun _ k_ => XS.iload X0.here hx rfl (hb hby at_272) rfl  k_) ?_
  by_cases hc1 : (Int32.ofNat (own_is ([c0, c1] : List Int32))) < (2 : Int32)
  · refine own_stW (T' := T0) (g' := (mkF m 277 #[iv p0, iv p1, iv p2, iv p3, iv p4, iv (2 : Int32), iv c0, iv c1, iv c2, iv c3, rv va, rv r, iv (own_wi c0), iv (own_wi c1), iv (own_wi c2), iv (own_wi c3), iv (Int32.ofNat (own_is ([c0, c1] : List Int32))), iv ee, .unset] [])) (fun _ k_ => XS.icmpNo X0.here hx rfl (hb hby at_274) rfl (tlt hc1).2.1 k_) ?_
    have hl4 : (([c0, c1] : List Int32)).length ≤ 4000 := Nat.le_of_ble_eq_true rfl
    have hee := he ((own_olt (Nat.le_trans (own_isL ([c0, c1] : List Int32)) hl4) (Nat.le_of_ble_eq_true rfl)).mp hc1)
    subst hee
    refine own_stW (T' := T0) (g' := (mkF m 279 #[iv p0, iv p1, iv p2, iv p3, iv p4, iv (2 : Int32), iv c0, iv c1, iv c2, iv c3, rv va, rv r, iv (own_wi c0), iv (own_wi c1), iv (own_wi c2), iv (own_wi c3), iv (Int32.ofNat (own_is ([c0, c1] : List Int32))), iv (Int32.ofNat (own_ie ([c0, c1] : List Int32))), .unset] [(.int (Int32.ofNat (own_ie ([c0, c1] : List Int32))))])) (fun _ k_ => XS.iload X0.here hx rfl (hb hby at_277) rfl  k_) ?_
    refine own_stW (T' := T0) (g' := (mkF m 281 #[iv p0, iv p1, iv p2, iv p3, iv p4, iv (2 : Int32), iv c0, iv c1, iv c2, iv c3, rv va, rv r, iv (own_wi c0), iv (own_wi c1), iv (own_wi c2), iv (own_wi c3), iv (Int32.ofNat (own_is ([c0, c1] : List Int32))), iv (Int32.ofNat (own_ie ([c0, c1] : List Int32))), .unset] [(.int (Int32.ofNat (own_is ([c0, c1] : List Int32)))), (.int (Int32.ofNat (own_ie ([c0, c1] : List Int32))))])) (fun _ k_ => XS.iload X0.here hx rfl (hb hby at_279) rfl  k_) ?_
    refine own_stW (T' := T0) (g' := (mkF m 282 #[iv p0, iv p1, iv p2, iv p3, iv p4, iv (2 : Int32), iv c0, iv c1, iv c2, iv c3, rv va, rv r, iv (own_wi c0), iv (own_wi c1), iv (own_wi c2), iv (own_wi c3), iv (Int32.ofNat (own_is ([c0, c1] : List Int32))), iv (Int32.ofNat (own_ie ([c0, c1] : List Int32))), .unset] [(.int ((Int32.ofNat (own_ie ([c0, c1] : List Int32))) - (Int32.ofNat (own_is ([c0, c1] : List Int32)))))])) (fun _ k_ => XS.isub X0.here hx rfl (hb hby at_281) rfl k_) ?_
    rw [own_osub (own_isie ([c0, c1] : List Int32)) (Nat.le_trans (own_ieL ([c0, c1] : List Int32)) hl4)]
    refine own_stW (T' := T0) (g' := (mkF m 286 #[iv p0, iv p1, iv p2, iv p3, iv p4, iv (2 : Int32), iv c0, iv c1, iv c2, iv c3, rv va, rv r, iv (own_wi c0), iv (own_wi c1), iv (own_wi c2), iv (own_wi c3), iv (Int32.ofNat (own_is ([c0, c1] : List Int32))), iv (Int32.ofNat (own_ie ([c0, c1] : List Int32))), .unset] [(.int (Int32.ofNat ((own_ie ([c0, c1] : List Int32)) - (own_is ([c0, c1] : List Int32)))))])) (fun _ k_ => XS.goto X0.here hx rfl (pc0 := 282) (pc' := 286) rfl (hb hby at_282) (by decide) (by decide) k_) ?_
    refine own_stW (T' := T0) (g' := (mkF m 288 #[iv p0, iv p1, iv p2, iv p3, iv p4, iv (2 : Int32), iv c0, iv c1, iv c2, iv c3, rv va, rv r, iv (own_wi c0), iv (own_wi c1), iv (own_wi c2), iv (own_wi c3), iv (Int32.ofNat (own_is ([c0, c1] : List Int32))), iv (Int32.ofNat (own_ie ([c0, c1] : List Int32))), iv (Int32.ofNat ((own_ie ([c0, c1] : List Int32)) - (own_is ([c0, c1] : List Int32))))] [])) (fun _ k_ => XS.istore X0.here hx rfl (hb hby at_286) rfl (l' := #[iv p0, iv p1, iv p2, iv p3, iv p4, iv (2 : Int32), iv c0, iv c1, iv c2, iv c3, rv va, rv r, iv (own_wi c0), iv (own_wi c1), iv (own_wi c2), iv (own_wi c3), iv (Int32.ofNat (own_is ([c0, c1] : List Int32))), iv (Int32.ofNat (own_ie ([c0, c1] : List Int32))), iv (Int32.ofNat ((own_ie ([c0, c1] : List Int32)) - (own_is ([c0, c1] : List Int32))))]) rfl k_) ?_
    exact seg_h h0 hB n0 _ _ _ _ _ _ _ _ _ _ _ _ _ _ _ va kc r u ku ([c0, c1] : List Int32) _ cz fm X0 hx hZs hZ hS0 hk0 CR0 hw hby hml howns hown hnm hret hlk e0 N0 O0 (Nat.le_of_ble_eq_true rfl) (own_cRS hr0 (own_cRS hr1 own_cR0)) VA E_r V_r C_r A_r rfl SC hcz SF hfm
  · refine own_stW (T' := T0) (g' := (mkF m 285 #[iv p0, iv p1, iv p2, iv p3, iv p4, iv (2 : Int32), iv c0, iv c1, iv c2, iv c3, rv va, rv r, iv (own_wi c0), iv (own_wi c1), iv (own_wi c2), iv (own_wi c3), iv (Int32.ofNat (own_is ([c0, c1] : List Int32))), iv ee, .unset] [])) (fun _ k_ => XS.icmpYes X0.here hx rfl (pc0 := 274) (pc' := 285) rfl (hb hby at_274) rfl (flt hc1).2.1 (by decide) (by decide) k_) ?_
    refine own_stW (T' := T0) (g' := (mkF m 286 #[iv p0, iv p1, iv p2, iv p3, iv p4, iv (2 : Int32), iv c0, iv c1, iv c2, iv c3, rv va, rv r, iv (own_wi c0), iv (own_wi c1), iv (own_wi c2), iv (own_wi c3), iv (Int32.ofNat (own_is ([c0, c1] : List Int32))), iv ee, .unset] [(.int (0 : Int32))])) (fun _ k_ => XS.iconst X0.here hx rfl (hb hby at_285) k_) ?_
    refine own_stW (T' := T0) (g' := (mkF m 288 #[iv p0, iv p1, iv p2, iv p3, iv p4, iv (2 : Int32), iv c0, iv c1, iv c2, iv c3, rv va, rv r, iv (own_wi c0), iv (own_wi c1), iv (own_wi c2), iv (own_wi c3), iv (Int32.ofNat (own_is ([c0, c1] : List Int32))), iv ee, iv (0 : Int32)] [])) (fun _ k_ => XS.istore X0.here hx rfl (hb hby at_286) rfl (l' := #[iv p0, iv p1, iv p2, iv p3, iv p4, iv (2 : Int32), iv c0, iv c1, iv c2, iv c3, rv va, rv r, iv (own_wi c0), iv (own_wi c1), iv (own_wi c2), iv (own_wi c3), iv (Int32.ofNat (own_is ([c0, c1] : List Int32))), iv ee, iv (0 : Int32)]) rfl k_) ?_
    exact seg_h h0 hB n0 _ _ _ _ _ _ _ _ _ _ _ _ _ _ _ va kc r u ku ([c0, c1] : List Int32) _ cz fm X0 hx hZs hZ hS0 hk0 CR0 hw hby hml howns hown hnm hret hlk e0 N0 O0 (Nat.le_of_ble_eq_true rfl) (own_cRS hr0 (own_cRS hr1 own_cR0)) VA E_r V_r C_r A_r (by have a := own_all ([c0, c1] : List Int32) (fun q => absurd ((own_olt (by have b := own_isL ([c0, c1] : List Int32); exact Nat.le_trans b (Nat.le_of_ble_eq_true rfl)) (Nat.le_of_ble_eq_true rfl)).mpr (Nat.lt_of_lt_of_le q (own_ieL ([c0, c1] : List Int32)))) hc1); rw [a.2, Nat.sub_self]; rfl) SC hcz SF hfm
set_option maxRecDepth 65536 in
set_option maxHeartbeats 40000000 in
theorem seg_f2 {p : Program} {l : Launch} {e : Env} {s : State} {m : MethodId} {args : Array Value} {below : List Frame} {meth : Method} {c : Code} {T0 : State} {locs : List Loc} {Z : State} {a0 : Array Value} {vm0 : Vm} {k0 : Nat} (h0 : Heap) (hB : Heap) (n0 : Nat) (p0 : Int32) (p1 : Int32) (p2 : Int32) (p3 : Int32) (p4 : Int32) (c0 : Int32) (c1 : Int32) (c2 : Int32) (c3 : Int32) (va : Addr) (kc : ClassId) (r : Addr) (u : Addr) (ku : ClassId) (ss : Nat) (cz : Int32) (fm : Value)
    (X0 : Stand p l e room_1 (s.setVm vm0) m args below meth c T0 locs 8 24) (hx : p.tables.exec = Jvm.exec) (hZs : Z.Warmed39 s.vm) (hZ : Z.Warmed39 (s.setVm vm0).vm) (hS0 : s.Since vm0 k0) (hk0 : k0 ≤ hB.size) (CR0 : CHr Z consts_1 s.vm h0 vm0 hB) (hw : ∀ d ∈ tables_1, d.before a0 Z = true) (hby : c.code = code) (hml : c.maxLocals = 19) (howns : s.vm.findClass "com/example/sheafgate/sheafgate/http/RequestFieldsStripPinLaw" = some m.cls) (hown : (s.setVm vm0).vm.findClass "com/example/sheafgate/sheafgate/http/RequestFieldsStripPinLaw" = some m.cls) (hnm : meth.name = "law") (hret : meth.sig.returnType = some .boolean) (hlk : meth.locks = false) (e0 : T0.heap = hB) (N0 : Fr n0 locs) (O0 : Old Z n0 hB) (hr0 : ¬ c0 < 0 ∧ ¬ (255 : Int32) < c0) (hr1 : ¬ c1 < 0 ∧ ¬ (255 : Int32) < c1) (hr2 : ¬ c2 < 0 ∧ ¬ (255 : Int32) < c2) (hr3 : ¬ c3 < 0 ∧ ¬ (255 : Int32) < c3) (VA : Arv Z hB va kc .char (2 : Int32) [(.int c0), (.int c1)] (.int (0 : Int32))) (E_r : Exa Z hB r "java/lang/String") (V_r : Fld Z hB r "java/lang/String" "value" "[B" (.ref u)) (C_r : Fld Z hB r "java/lang/String" "coder" "B" (.int (0 : Int32))) (A_r : Arv Z hB u ku .byte (Int32.ofNat (own_sub ([c0, c1] : List Int32) (own_is ([c0, c1] : List Int32)) (own_ie ([c0, c1] : List Int32))).length) (((own_sub ([c0, c1] : List Int32) (own_is ([c0, c1] : List Int32)) (own_ie ([c0, c1] : List Int32))).map StrChars.lo8).map Value.int) (.int (0 : Int32))) (hs : (own_is ([c0, c1] : List Int32)) = ss) (SC : Sta Z Z.heap "java/lang/String" "COMPACT_STRINGS" "Z" (.int cz)) (hcz : ¬ cz = (0 : Int32)) (SF : Sta Z Z.heap "jdk/internal/util/Preconditions" "SIOOBE_FORMATTER" "Ljava/util/function/BiFunction;" fm) (hfm : fm.isRef = true) :
    own_W p e below s room_1.cells room_1.slots Z consts_1 h0 (own_L n0) T0 (mkF m 200 #[iv p0, iv p1, iv p2, iv p3, iv p4, iv (2 : Int32), iv c0, iv c1, iv c2, iv c3, rv va, rv r, iv (own_wi c0), iv (own_wi c1), iv (own_wi c2), iv (own_wi c3), iv (Int32.ofNat ss), .unset, .unset] []) := by
  have hEL := own_EW hw
  refine own_stW (T' := T0) (g' := (mkF m 202 #[iv p0, iv p1, iv p2, iv p3, iv p4, iv (2 : Int32), iv c0, iv c1, iv c2, iv c3, rv va, rv r, iv (own_wi c0), iv (own_wi c1), iv (own_wi c2), iv (own_wi c3), iv (Int32.ofNat ss), .unset, .unset] [(.int (2 : Int32))])) (fun _ k_ => XS.iload X0.here hx rfl (hb hby at_200) rfl  k_) ?_
  refine own_stW (T' := T0) (g' := (mkF m 203 #[iv p0, iv p1, iv p2, iv p3, iv p4, iv (2 : Int32), iv c0, iv c1, iv c2, iv c3, rv va, rv r, iv (own_wi c0), iv (own_wi c1), iv (own_wi c2), iv (own_wi c3), iv (Int32.ofNat ss), .unset, .unset] [(.int (3 : Int32)), (.int (2 : Int32))])) (fun _ k_ => XS.iconst X0.here hx rfl (hb hby at_202) k_) ?_
  refine own_stW (T' := T0) (g' := (mkF m 217 #[iv p0, iv p1, iv p2, iv p3, iv p4, iv (2 : Int32), iv c0, iv c1, iv c2, iv c3, rv va, rv r, iv (own_wi c0), iv (own_wi c1), iv (own_wi c2), iv (own_wi c3), iv (Int32.ofNat ss), .unset, .unset] [])) (fun _ k_ => XS.icmpYes X0.here hx rfl (pc0 := 203) (pc' := 217) rfl (hb hby at_203) rfl (flt (by decide : ¬ ((3 : Int32) < (2 : Int32)))).2.2.2 (by decide) (by decide) k_) ?_
  refine own_stW (T' := T0) (g' := (mkF m 219 #[iv p0, iv p1, iv p2, iv p3, iv p4, iv (2 : Int32), iv c0, iv c1, iv c2, iv c3, rv va, rv r, iv (own_wi c0), iv (own_wi c1), iv (own_wi c2), iv (own_wi c3), iv (Int32.ofNat ss), .unset, .unset] [(.int (2 : Int32))])) (fun _ k_ => XS.iload X0.here hx rfl (hb hby at_217) rfl  k_) ?_
  refine own_stW (T' := T0) (g' := (mkF m 220 #[iv p0, iv p1, iv p2, iv p3, iv p4, iv (2 : Int32), iv c0, iv c1, iv c2, iv c3, rv va, rv r, iv (own_wi c0), iv (own_wi c1), iv (own_wi c2), iv (own_wi c3), iv (Int32.ofNat ss), .unset, .unset] [(.int (2 : Int32)), (.int (2 : Int32))])) (fun _ k_ => XS.iconst X0.here hx rfl (hb hby at_219) k_) ?_
  refine own_stW (T' := T0) (g' := (mkF m 234 #[iv p0, iv p1, iv p2, iv p3, iv p4, iv (2 : Int32), iv c0, iv c1, iv c2, iv c3, rv va, rv r, iv (own_wi c0), iv (own_wi c1), iv (own_wi c2), iv (own_wi c3), iv (Int32.ofNat ss), .unset, .unset] [])) (fun _ k_ => XS.icmpYes X0.here hx rfl (pc0 := 220) (pc' := 234) rfl (hb hby at_220) rfl (flt (by decide : ¬ ((2 : Int32) < (2 : Int32)))).2.2.2 (by decide) (by decide) k_) ?_
  refine own_stW (T' := T0) (g' := (mkF m 236 #[iv p0, iv p1, iv p2, iv p3, iv p4, iv (2 : Int32), iv c0, iv c1, iv c2, iv c3, rv va, rv r, iv (own_wi c0), iv (own_wi c1), iv (own_wi c2), iv (own_wi c3), iv (Int32.ofNat ss), .unset, .unset] [(.int (2 : Int32))])) (fun _ k_ => XS.iload X0.here hx rfl (hb hby at_234) rfl  k_) ?_
  refine own_stW (T' := T0) (g' := (mkF m 237 #[iv p0, iv p1, iv p2, iv p3, iv p4, iv (2 : Int32), iv c0, iv c1, iv c2, iv c3, rv va, rv r, iv (own_wi c0), iv (own_wi c1), iv (own_wi c2), iv (own_wi c3), iv (Int32.ofNat ss), .unset, .unset] [(.int (1 : Int32)), (.int (2 : Int32))])) (fun _ k_ => XS.iconst X0.here hx rfl (hb hby at_236) k_) ?_
  refine own_stW (T' := T0) (g' := (mkF m 240 #[iv p0, iv p1, iv p2, iv p3, iv p4, iv (2 : Int32), iv c0, iv c1, iv c2, iv c3, rv va, rv r, iv (own_wi c0), iv (own_wi c1), iv (own_wi c2), iv (own_wi c3), iv (Int32.ofNat ss), .unset, .unset] [])) (fun _ k_ => XS.icmpNo X0.here hx rfl (hb hby at_237) rfl (tlt (by decide : (1 : Int32) < (2 : Int32))).2.2.2 k_) ?_
  refine own_stW (T' := T0) (g' := (mkF m 242 #[iv p0, iv p1, iv p2, iv p3, iv p4, iv (2 : Int32), iv c0, iv c1, iv c2, iv c3, rv va, rv r, iv (own_wi c0), iv (own_wi c1), iv (own_wi c2), iv (own_wi c3), iv (Int32.ofNat ss), .unset, .unset] [(.int (own_wi c1))])) (fun _ k_ => XS.iload X0.here hx rfl (hb hby at_240) rfl  k_) ?_
  by_cases hc1 : (own_wi c1) = (0 : Int32)
  · refine own_stW (T' := T0) (g' := (mkF m 245 #[iv p0, iv p1, iv p2, iv p3, iv p4, iv (2 : Int32), iv c0, iv c1, iv c2, iv c3, rv va, rv r, iv (own_wi c0), iv (own_wi c1), iv (own_wi c2), iv (own_wi c3), iv (Int32.ofNat ss), .unset, .unset] [])) (fun _ k_ => XS.ifNo X0.here hx rfl (hb hby at_242) rfl ((if0 _ _).trans (teq hc1).2) k_) ?_
    refine own_stW (T' := T0) (g' := (mkF m 246 #[iv p0, iv p1, iv p2, iv p3, iv p4, iv (2 : Int32), iv c0, iv c1, iv c2, iv c3, rv va, rv r, iv (own_wi c0), iv (own_wi c1), iv (own_wi c2), iv (own_wi c3), iv (Int32.ofNat ss), .unset, .unset] [(.int (2 : Int32))])) (fun _ k_ => XS.iconst X0.here hx rfl (hb hby at_245) k_) ?_
    refine own_stW (T' := T0) (g' := (mkF m 248 #[iv p0, iv p1, iv p2, iv p3, iv p4, iv (2 : Int32), iv c0, iv c1, iv c2, iv c3, rv va, rv r, iv (own_wi c0), iv (own_wi c1), iv (own_wi c2), iv (own_wi c3), iv (Int32.ofNat ss), iv (2 : Int32), .unset] [])) (fun _ k_ => XS.istore X0.here hx rfl (hb hby at_246) rfl (l' := #[iv p0, iv p1, iv p2, iv p3, iv p4, iv (2 : Int32), iv c0, iv c1, iv c2, iv c3, rv va, rv r, iv (own_wi c0), iv (own_wi c1), iv (own_wi c2), iv (own_wi c3), iv (Int32.ofNat ss), iv (2 : Int32), .unset]) rfl k_) ?_
    refine own_stW (T' := T0) (g' := (mkF m 270 #[iv p0, iv p1, iv p2, iv p3, iv p4, iv (2 : Int32), iv c0, iv c1, iv c2, iv c3, rv va, rv r, iv (own_wi c0), iv (own_wi c1), iv (own_wi c2), iv (own_wi c3), iv (Int32.ofNat ss), iv (2 : Int32), .unset] [])) (fun _ k_ => XS.goto X0.here hx rfl (pc0 := 248) (pc' := 270) rfl (hb hby at_248) (by decide) (by decide) k_) ?_
    exact seg_g2 h0 hB n0 p0 p1 p2 p3 p4 c0 c1 c2 c3 va kc r u ku ss _ cz fm X0 hx hZs hZ hS0 hk0 CR0 hw hby hml howns hown hnm hret hlk e0 N0 O0 hr0 hr1 hr2 hr3 VA E_r V_r C_r A_r hs (fun _ => by rw [own_ieE ([c0, c1] : List Int32) 1 (Nat.le_of_ble_eq_true rfl) (own_wiF hc1) (fun j a b => by have b' : j < 2 := b; exfalso; omega)]; rfl) SC hcz SF hfm
  · refine own_stW (T' := T0) (g' := (mkF m 251 #[iv p0, iv p1, iv p2, iv p3, iv p4, iv (2 : Int32), iv c0, iv c1, iv c2, iv c3, rv va, rv r, iv (own_wi c0), iv (own_wi c1), iv (own_wi c2), iv (own_wi c3), iv (Int32.ofNat ss), .unset, .unset] [])) (fun _ k_ => XS.ifYes X0.here hx rfl (pc0 := 242) (pc' := 251) rfl (hb hby at_242) rfl ((if0 _ _).trans (feq hc1).2) (by decide) (by decide) k_) ?_
    refine own_stW (T' := T0) (g' := (mkF m 253 #[iv p0, iv p1, iv p2, iv p3, iv p4, iv (2 : Int32), iv c0, iv c1, iv c2, iv c3, rv va, rv r, iv (own_wi c0), iv (own_wi c1), iv (own_wi c2), iv (own_wi c3), iv (Int32.ofNat ss), .unset, .unset] [(.int (2 : Int32))])) (fun _ k_ => XS.iload X0.here hx rfl (hb hby at_251) rfl  k_) ?_
    refine own_stW (T' := T0) (g' := (mkF m 256 #[iv p0, iv p1, iv p2, iv p3, iv p4, iv (2 : Int32), iv c0, iv c1, iv c2, iv c3, rv va, rv r, iv (own_wi c0), iv (own_wi c1), iv (own_wi c2), iv (own_wi c3), iv (Int32.ofNat ss), .unset, .unset] [])) (fun _ k_ => XS.ifNo X0.here hx rfl (hb hby at_253) rfl ((if0 _ _).trans (tlt (by decide : (0 : Int32) < (2 : Int32))).2.2.2) k_) ?_
    refine own_stW (T' := T0) (g' := (mkF m 258 #[iv p0, iv p1, iv p2, iv p3, iv p4, iv (2 : Int32), iv c0, iv c1, iv c2, iv c3, rv va, rv r, iv (own_wi c0), iv (own_wi c1), iv (own_wi c2), iv (own_wi c3), iv (Int32.ofNat ss), .unset, .unset] [(.int (own_wi c0))])) (fun _ k_ => XS.iload X0.here hx rfl (hb hby at_256) rfl  k_) ?_
    by_cases hc2 : (own_wi c0) = (0 : Int32)
    · refine own_stW (T' := T0) (g' := (mkF m 261 #[iv p0, iv p1, iv p2, iv p3, iv p4, iv (2 : Int32), iv c0, iv c1, iv c2, iv c3, rv va, rv r, iv (own_wi c0), iv (own_wi c1), iv (own_wi c2), iv (own_wi c3), iv (Int32.ofNat ss), .unset, .unset] [])) (fun _ k_ => XS.ifNo X0.here hx rfl (hb hby at_258) rfl ((if0 _ _).trans (teq hc2).2) k_) ?_
      refine own_stW (T' := T0) (g' := (mkF m 262 #[iv p0, iv p1, iv p2, iv p3, iv p4, iv (2 : Int32), iv c0, iv c1, iv c2, iv c3, rv va, rv r, iv (own_wi c0), iv (own_wi c1), iv (own_wi c2), iv (own_wi c3), iv (Int32.ofNat ss), .unset, .unset] [(.int (1 : Int32))])) (fun _ k_ => XS.iconst X0.here hx rfl (hb hby at_261) k_) ?_
      refine own_stW (T' := T0) (g' := (mkF m 264 #[iv p0, iv p1, iv p2, iv p3, iv p4, iv (2 : Int32), iv c0, iv c1, iv c2, iv c3, rv va, rv r, iv (own_wi c0), iv (own_wi c1), iv (own_wi c2), iv (own_wi c3), iv (Int32.ofNat ss), iv (1 : Int32), .unset] [])) (fun _ k_ => XS.istore X0.here hx rfl (hb hby at_262) rfl (l' := #[iv p0, iv p1, iv p2, iv p3, iv p4, iv (2 : Int32), iv c0, iv c1, iv c2, iv c3, rv va, rv r, iv (own_wi c0), iv (own_wi c1), iv (own_wi c2), iv (own_wi c3), iv (Int32.ofNat ss), iv (1 : Int32), .unset]) rfl k_) ?_
      refine own_stW (T' := T0) (g' := (mkF m 270 #[iv p0, iv p1, iv p2, iv p3, iv p4, iv (2 : Int32), iv c0, iv c1, iv c2, iv c3, rv va, rv r, iv (own_wi c0), iv (own_wi c1), iv (own_wi c2), iv (own_wi c3), iv (Int32.ofNat ss), iv (1 : Int32), .unset] [])) (fun _ k_ => XS.goto X0.here hx rfl (pc0 := 264) (pc' := 270) rfl (hb hby at_264) (by decide) (by decide) k_) ?_
      exact seg_g2 h0 hB n0 p0 p1 p2 p3 p4 c0 c1 c2 c3 va kc r u ku ss _ cz fm X0 hx hZs hZ hS0 hk0 CR0 hw hby hml howns hown hnm hret hlk e0 N0 O0 hr0 hr1 hr2 hr3 VA E_r V_r C_r A_r hs (fun _ => by rw [own_ieE ([c0, c1] : List Int32) 0 (Nat.le_of_ble_eq_true rfl) (own_wiF hc2) (fun j a b => by have b' : j < 2 := b; obtain rfl : j = 1 := (by omega); exact own_wiT hc1)]; rfl) SC hcz SF hfm
    · refine own_stW (T' := T0) (g' := (mkF m 267 #[iv p0, iv p1, iv p2, iv p3, iv p4, iv (2 : Int32), iv c0, iv c1, iv c2, iv c3, rv va, rv r, iv (own_wi c0), iv (own_wi c1), iv (own_wi c2), iv (own_wi c3), iv (Int32.ofNat ss), .unset, .unset] [])) (fun _ k_ => XS.ifYes X0.here hx rfl (pc0 := 258) (pc' := 267) rfl (hb hby at_258) rfl ((if0 _ _).trans (feq hc2).2) (by decide) (by decide) k_) ?_
      refine own_stW (T' := T0) (g' := (mkF m 268 #[iv p0, iv p1, iv p2, iv p3, iv p4, iv (2 : Int32), iv c0, iv c1, iv c2, iv c3, rv va, rv r, iv (own_wi c0), iv (own_wi c1), iv (own_wi c2), iv (own_wi c3), iv (Int32.ofNat ss), .unset, .unset] [(.int (0 : Int32))])) (fun _ k_ => XS.iconst X0.here hx rfl (hb hby at_267) k_) ?_
      refine own_stW (T' := T0) (g' := (mkF m 270 #[iv p0, iv p1, iv p2, iv p3, iv p4, iv (2 : Int32), iv c0, iv c1, iv c2, iv c3, rv va, rv r, iv (own_wi c0), iv (own_wi c1), iv (own_wi c2), iv (own_wi c3), iv (Int32.ofNat ss), iv (0 : Int32), .unset] [])) (fun _ k_ => XS.istore X0.here hx rfl (hb hby at_268) rfl (l' := #[iv p0, iv p1, iv p2, iv p3, iv p4, iv (2 : Int32), iv c0, iv c1, iv c2, iv c3, rv va, rv r, iv (own_wi c0), iv (own_wi c1), iv (own_wi c2), iv (own_wi c3), iv (Int32.ofNat ss), iv (0 : Int32), .unset]) rfl k_) ?_
      exact seg_g2 h0 hB n0 p0 p1 p2 p3 p4 c0 c1 c2 c3 va kc r u ku ss _ cz fm X0 hx hZs hZ hS0 hk0 CR0 hw hby hml howns hown hnm hret hlk e0 N0 O0 hr0 hr1 hr2 hr3 VA E_r V_r C_r A_r hs (fun q => by have z : (own_is ([c0, c1] : List Int32)) = 2 := (by simp [own_is, own_wiT hc2, own_wiT hc1]); omega) SC hcz SF hfm
set_option maxRecDepth 65536 in
set_option maxHeartbeats 40000000 in
theorem seg_a2 {p : Program} {l : Launch} {e : Env} {s : State} {m : MethodId} {args : Array Value} {below : List Frame} {meth : Method} {c : Code} {T0 : State} {locs : List Loc} {Z : State} {a0 : Array Value} {vm0 : Vm} {k0 : Nat} (h0 : Heap) (hB : Heap) (n0 : Nat) (p0 : Int32) (p1 : Int32) (p2 : Int32) (p3 : Int32) (p4 : Int32) (c0 : Int32) (c1 : Int32) (c2 : Int32) (c3 : Int32) (cz : Int32) (fm : Value)
    (X0 : Stand p l e room_1 (s.setVm vm0) m args below meth c T0 locs 0 0) (hx : p.tables.exec = Jvm.exec) (hZs : Z.Warmed39 s.vm) (hZ : Z.Warmed39 (s.setVm vm0).vm) (hS0 : s.Since vm0 k0) (hk0 : k0 ≤ hB.size) (CR0 : CHr Z consts_1 s.vm h0 vm0 hB) (hw : ∀ d ∈ tables_1, d.before a0 Z = true) (hby : c.code = code) (hml : c.maxLocals = 19) (howns : s.vm.findClass "com/example/sheafgate/sheafgate/http/RequestFieldsStripPinLaw" = some m.cls) (hown : (s.setVm vm0).vm.findClass "com/example/sheafgate/sheafgate/http/RequestFieldsStripPinLaw" = some m.cls) (hnm : meth.name = "law") (hret : meth.sig.returnType = some .boolean) (hlk : meth.locks = false) (e0 : T0.heap = hB) (N0 : Fr n0 locs) (O0 : Old Z n0 hB) (hr0 : ¬ c0 < 0 ∧ ¬ (255 : Int32) < c0) (hr1 : ¬ c1 < 0 ∧ ¬ (255 : Int32) < c1) (hr2 : ¬ c2 < 0 ∧ ¬ (255 : Int32) < c2) (hr3 : ¬ c3 < 0 ∧ ¬ (255 : Int32) < c3) (SC : Sta Z Z.heap "java/lang/String" "COMPACT_STRINGS" "Z" (.int cz)) (hcz : ¬ cz = (0 : Int32)) (SF : Sta Z Z.heap "jdk/internal/util/Preconditions" "SIOOBE_FORMATTER" "Ljava/util/function/BiFunction;" fm) (hfm : fm.isRef = true) :
    own_W p e below s room_1.cells room_1.slots Z consts_1 h0 (own_L n0) T0 (mkF m 33 #[iv p0, iv p1, iv p2, iv p3, iv p4, iv (2 : Int32), iv c0, iv c1, iv c2, iv c3, .unset, .unset, .unset, .unset, .unset, .unset, .unset, .unset, .unset] []) := by
  have hEL := own_EW hw
  refine own_stW (T' := T0) (g' := (mkF m 35 #[iv p0, iv p1, iv p2, iv p3, iv p4, iv (2 : Int32), iv c0, iv c1, iv c2, iv c3, .unset, .unset, .unset, .unset, .unset, .unset, .unset, .unset, .unset] [(.int (2 : Int32))])) (fun _ k_ => XS.iload X0.here hx rfl (hb hby at_33) rfl  k_) ?_
  obtain ⟨_, T1, L1, X1, hQ1, st1⟩ := own_callS X0 hx (y := own_m24) hown (mvT hZ (wd hw 5 rfl)) (mvT hZ (wd hw 6 rfl)) (mvT hZ (wd hw 3 rfl)) (mvT hZ (wd hw 7 rfl)) (by decide) (backOf (W := 0) (rm_make2 l Z a0 hw []  hB n0 O0) hZ (wd hw 7 rfl) (wd hw 3 rfl) (by decide) (by decide)) (g := (mkF m 35 #[iv p0, iv p1, iv p2, iv p3, iv p4, iv (2 : Int32), iv c0, iv c1, iv c2, iv c3, .unset, .unset, .unset, .unset, .unset, .unset, .unset, .unset, .unset] [(.int (2 : Int32))])) rfl (by rw [hml]; rfl) (argsL := [(.int (2 : Int32))]) (rest := []) (lenOf pd__I__C rfl) rfl (by show 2 * 0 + _ ≤ _; exact Nat.le_of_eq rfl) (hb hby at_35) rfl e0 (by decide) (by decide) (c' := 1) (s' := 4) rfl rfl
  obtain ⟨va1, kc1, rfl, Nq1, K1, fq1_0, xq1_fresh_va⟩ := hQ1
  have N1 := Fr.app N0 Nq1
  have CR2 : CHr Z consts_1 s.vm h0 vm0 T1.heap := CR0.trans (CHr.keep K1 sf0 CR0.1)
  refine own_stW (T' := T1) (g' := (mkF m 38 #[iv p0, iv p1, iv p2, iv p3, iv p4, iv (2 : Int32), iv c0, iv c1, iv c2, iv c3, .unset, .unset, .unset, .unset, .unset, .unset, .unset, .unset, .unset] [(.ref va1)])) st1 ?_
  clear st1
  refine own_stW (T' := T1) (g' := (mkF m 40 #[iv p0, iv p1, iv p2, iv p3, iv p4, iv (2 : Int32), iv c0, iv c1, iv c2, iv c3, rv va1, .unset, .unset, .unset, .unset, .unset, .unset, .unset, .unset] [])) (fun _ k_ => XS.astore X1.here hx rfl (hb hby at_38) rfl rfl (l' := #[iv p0, iv p1, iv p2, iv p3, iv p4, iv (2 : Int32), iv c0, iv c1, iv c2, iv c3, rv va1, .unset, .unset, .unset, .unset, .unset, .unset, .unset, .unset]) rfl k_) ?_
  refine own_stW (T' := T1) (g' := (mkF m 42 #[iv p0, iv p1, iv p2, iv p3, iv p4, iv (2 : Int32), iv c0, iv c1, iv c2, iv c3, rv va1, .unset, .unset, .unset, .unset, .unset, .unset, .unset, .unset] [(.int (2 : Int32))])) (fun _ k_ => XS.iload X1.here hx rfl (hb hby at_40) rfl  k_) ?_
  refine own_stW (T' := T1) (g' := (mkF m 45 #[iv p0, iv p1, iv p2, iv p3, iv p4, iv (2 : Int32), iv c0, iv c1, iv c2, iv c3, rv va1, .unset, .unset, .unset, .unset, .unset, .unset, .unset, .unset] [])) (fun _ k_ => XS.ifNo X1.here hx rfl (hb hby at_42) rfl ((if0 _ _).trans (tlt (by decide : (0 : Int32) < (2 : Int32))).2.2.2) k_) ?_
  refine own_stW (T' := T1) (g' := (mkF m 47 #[iv p0, iv p1, iv p2, iv p3, iv p4, iv (2 : Int32), iv c0, iv c1, iv c2, iv c3, rv va1, .unset, .unset, .unset, .unset, .unset, .unset, .unset, .unset] [(.ref va1)])) (fun _ k_ => XS.aload X1.here hx rfl (hb hby at_45) rfl rfl  k_) ?_
  refine own_stW (T' := T1) (g' := (mkF m 48 #[iv p0, iv p1, iv p2, iv p3, iv p4, iv (2 : Int32), iv c0, iv c1, iv c2, iv c3, rv va1, .unset, .unset, .unset, .unset, .unset, .unset, .unset, .unset] [(.int (0 : Int32)), (.ref va1)])) (fun _ k_ => XS.iconst X1.here hx rfl (hb hby at_47) k_) ?_
  refine own_stW (T' := T1) (g' := (mkF m 50 #[iv p0, iv p1, iv p2, iv p3, iv p4, iv (2 : Int32), iv c0, iv c1, iv c2, iv c3, rv va1, .unset, .unset, .unset, .unset, .unset, .unset, .unset, .unset] [(.int c0), (.int (0 : Int32)), (.ref va1)])) (fun _ k_ => XS.iload X1.here hx rfl (hb hby at_48) rfl  k_) ?_
  obtain ⟨cl3, Ar3, q3, S3, N3, H3, G3⟩ := id fq1_0
  have hin3 : ¬ ((0 : Int32) < 0 ∨ cl3.slots.size ≤ ((0 : Int32)).toNatClampNeg) := inb_of S3 ⟨by decide, by decide⟩
  obtain ⟨T4, h4, X4, e4, W4, st4⟩ := stC X1 hx hZ rfl Ar3 (j := (0 : Int32)) hin3 (g := (mkF m 50 #[iv p0, iv p1, iv p2, iv p3, iv p4, iv (2 : Int32), iv c0, iv c1, iv c2, iv c3, rv va1, .unset, .unset, .unset, .unset, .unset, .unset, .unset, .unset] [(.int c0), (.int (0 : Int32)), (.ref va1)])) rfl rfl (hb hby at_50)
  have CR5 : CHr Z consts_1 s.vm h0 vm0 h4 := CR2.trans (CHr.wr W4 (Safe.arv hZ.alike fq1_0 (by decide)) CR2.1)
  have V4 : Arv Z h4 va1 kc1 .char (2 : Int32) [(.int (nar .char c0)), (.int (0 : Int32))] (.int (0 : Int32)) := Arv.set Ar3 q3 S3 N3 H3 G3 (fits_nar_char _) W4 0 rfl (Nat.le_of_ble_eq_true rfl)
  have Vn4 : Arv Z h4 va1 kc1 .char (2 : Int32) [(.int c0), (.int (0 : Int32))] (.int (0 : Int32)) := by simpa only [own_nch hr0] using V4
  have Nx4 := Fr.snoc X4 N1 (Nat.le_trans (own_z O0) xq1_fresh_va)
  refine own_stW (T' := T4) (g' := (mkF m 51 #[iv p0, iv p1, iv p2, iv p3, iv p4, iv (2 : Int32), iv c0, iv c1, iv c2, iv c3, rv va1, .unset, .unset, .unset, .unset, .unset, .unset, .unset, .unset] [])) st4 ?_
  clear hin3 G3 H3 N3 S3 q3 Ar3 cl3 st4
  refine own_stW (T' := T4) (g' := (mkF m 53 #[iv p0, iv p1, iv p2, iv p3, iv p4, iv (2 : Int32), iv c0, iv c1, iv c2, iv c3, rv va1, .unset, .unset, .unset, .unset, .unset, .unset, .unset, .unset] [(.int (2 : Int32))])) (fun _ k_ => XS.iload X4.here hx rfl (hb hby at_51) rfl  k_) ?_
  refine own_stW (T' := T4) (g' := (mkF m 54 #[iv p0, iv p1, iv p2, iv p3, iv p4, iv (2 : Int32), iv c0, iv c1, iv c2, iv c3, rv va1, .unset, .unset, .unset, .unset, .unset, .unset, .unset, .unset] [(.int (1 : Int32)), (.int (2 : Int32))])) (fun _ k_ => XS.iconst X4.here hx rfl (hb hby at_53) k_) ?_
  refine own_stW (T' := T4) (g' := (mkF m 57 #[iv p0, iv p1, iv p2, iv p3, iv p4, iv (2 : Int32), iv c0, iv c1, iv c2, iv c3, rv va1, .unset, .unset, .unset, .unset, .unset, .unset, .unset, .unset] [])) (fun _ k_ => XS.icmpNo X4.here hx rfl (hb hby at_54) rfl (tlt (by decide : (1 : Int32) < (2 : Int32))).2.2.2 k_) ?_
  refine own_stW (T' := T4) (g' := (mkF m 59 #[iv p0, iv p1, iv p2, iv p3, iv p4, iv (2 : Int32), iv c0, iv c1, iv c2, iv c3, rv va1, .unset, .unset, .unset, .unset, .unset, .unset, .unset, .unset] [(.ref va1)])) (fun _ k_ => XS.aload X4.here hx rfl (hb hby at_57) rfl rfl  k_) ?_
  refine own_stW (T' := T4) (g' := (mkF m 60 #[iv p0, iv p1, iv p2, iv p3, iv p4, iv (2 : Int32), iv c0, iv c1, iv c2, iv c3, rv va1, .unset, .unset, .unset, .unset, .unset, .unset, .unset, .unset] [(.int (1 : Int32)), (.ref va1)])) (fun _ k_ => XS.iconst X4.here hx rfl (hb hby at_59) k_) ?_
  refine own_stW (T' := T4) (g' := (mkF m 62 #[iv p0, iv p1, iv p2, iv p3, iv p4, iv (2 : Int32), iv c0, iv c1, iv c2, iv c3, rv va1, .unset, .unset, .unset, .unset, .unset, .unset, .unset, .unset] [(.int c1), (.int (1 : Int32)), (.ref va1)])) (fun _ k_ => XS.iload X4.here hx rfl (hb hby at_60) rfl  k_) ?_
  obtain ⟨cl6, Ar6, q6, S6, N6, H6, G6⟩ := id Vn4
  have hin6 : ¬ ((1 : Int32) < 0 ∨ cl6.slots.size ≤ ((1 : Int32)).toNatClampNeg) := inb_of S6 ⟨by decide, by decide⟩
  obtain ⟨T7, h7, X7, e7, W7, st7⟩ := stC X4 hx hZ e4 Ar6 (j := (1 : Int32)) hin6 (g := (mkF m 62 #[iv p0, iv p1, iv p2, iv p3, iv p4, iv (2 : Int32), iv c0, iv c1, iv c2, iv c3, rv va1, .unset, .unset, .unset, .unset, .unset, .unset, .unset, .unset] [(.int c1), (.int (1 : Int32)), (.ref va1)])) rfl rfl (hb hby at_62)
  have CR8 : CHr Z consts_1 s.vm h0 vm0 h7 := CR5.trans (CHr.wr W7 (Safe.arv hZ.alike Vn4 (by decide)) CR5.1)
  have V7 : Arv Z h7 va1 kc1 .char (2 : Int32) [(.int c0), (.int (nar .char c1))] (.int (0 : Int32)) := Arv.set Ar6 q6 S6 N6 H6 G6 (fits_nar_char _) W7 1 rfl (Nat.le_of_ble_eq_true rfl)
  have Vn7 : Arv Z h7 va1 kc1 .char (2 : Int32) [(.int c0), (.int c1)] (.int (0 : Int32)) := by simpa only [own_nch hr1] using V7
  have Nx7 := Fr.snoc X7 Nx4 (Nat.le_trans (own_z O0) xq1_fresh_va)
  refine own_stW (T' := T7) (g' := (mkF m 63 #[iv p0, iv p1, iv p2, iv p3, iv p4, iv (2 : Int32), iv c0, iv c1, iv c2, iv c3, rv va1, .unset, .unset, .unset, .unset, .unset, .unset, .unset, .unset] [])) st7 ?_
  clear hin6 G6 H6 N6 S6 q6 Ar6 cl6 st7
  refine own_stW (T' := T7) (g' := (mkF m 65 #[iv p0, iv p1, iv p2, iv p3, iv p4, iv (2 : Int32), iv c0, iv c1, iv c2, iv c3, rv va1, .unset, .unset, .unset, .unset, .unset, .unset, .unset, .unset] [(.int (2 : Int32))])) (fun _ k_ => XS.iload X7.here hx rfl (hb hby at_63) rfl  k_) ?_
  refine own_stW (T' := T7) (g' := (mkF m 66 #[iv p0, iv p1, iv p2, iv p3, iv p4, iv (2 : Int32), iv c0, iv c1, iv c2, iv c3, rv va1, .unset, .unset, .unset, .unset, .unset, .unset, .unset, .unset] [(.int (2 : Int32)), (.int (2 : Int32))])) (fun _ k_ => XS.iconst X7.here hx rfl (hb hby at_65) k_) ?_
  refine own_stW (T' := T7) (g' := (mkF m 75 #[iv p0, iv p1, iv p2, iv p3, iv p4, iv (2 : Int32), iv c0, iv c1, iv c2, iv c3, rv va1, .unset, .unset, .unset, .unset, .unset, .unset, .unset, .unset] [])) (fun _ k_ => XS.icmpYes X7.here hx rfl (pc0 := 66) (pc' := 75) rfl (hb hby at_66) rfl (flt (by decide : ¬ ((2 : Int32) < (2 : Int32)))).2.2.2 (by decide) (by decide) k_) ?_
  refine own_stW (T' := T7) (g' := (mkF m 77 #[iv p0, iv p1, iv p2, iv p3, iv p4, iv (2 : Int32), iv c0, iv c1, iv c2, iv c3, rv va1, .unset, .unset, .unset, .unset, .unset, .unset, .unset, .unset] [(.int (2 : Int32))])) (fun _ k_ => XS.iload X7.here hx rfl (hb hby at_75) rfl  k_) ?_
  refine own_stW (T' := T7) (g' := (mkF m 78 #[iv p0, iv p1, iv p2, iv p3, iv p4, iv (2 : Int32), iv c0, iv c1, iv c2, iv c3, rv va1, .unset, .unset, .unset, .unset, .unset, .unset, .unset, .unset] [(.int (3 : Int32)), (.int (2 : Int32))])) (fun _ k_ => XS.iconst X7.here hx rfl (hb hby at_77) k_) ?_
  refine own_stW (T' := T7) (g' := (mkF m 87 #[iv p0, iv p1, iv p2, iv p3, iv p4, iv (2 : Int32), iv c0, iv c1, iv c2, iv c3, rv va1, .unset, .unset, .unset, .unset, .unset, .unset, .unset, .unset] [])) (fun _ k_ => XS.icmpYes X7.here hx rfl (pc0 := 78) (pc' := 87) rfl (hb hby at_78) rfl (flt (by decide : ¬ ((3 : Int32) < (2 : Int32)))).2.2.2 (by decide) (by decide) k_) ?_
  have f9 : Old Z n0 T1.heap := O0.keep K1 all0
  have f10 : Old Z n0 h4 := f9.wr W4 (Nat.le_trans (own_z O0) xq1_fresh_va)
  have f11 : Old Z n0 h7 := f10.wr W7 (Nat.le_trans (own_z O0) xq1_fresh_va)
  obtain ⟨T12, h12, X12, e12, E12, A12, D12, -, st12⟩ := newO X7 hx hZ hown (wd hw 9 rfl) (wd hw 10 rfl) (wd hw 11 rfl) e7 (g := (mkF m 87 #[iv p0, iv p1, iv p2, iv p3, iv p4, iv (2 : Int32), iv c0, iv c1, iv c2, iv c3, rv va1, .unset, .unset, .unset, .unset, .unset, .unset, .unset, .unset] [])) rfl (hb hby at_87) (by decide) (by decide)
  obtain ⟨b12, g12⟩ : ∃ z, z = h7.size := ⟨_, rfl⟩
  rw [← g12] at A12 D12 st12
  have fr12 : n0 ≤ b12 := Nat.le_trans (own_z f11) (Nat.le_of_eq g12.symm)
  have CR13 : CHr Z consts_1 s.vm h0 vm0 h12 := CR8.trans (CHr.ext E12 CR8.1)
  have sf14 : Safe Z consts_1 vm0 h12 b12 := Safe.ext E12 CR8.1 (Safe.new (Nat.le_of_eq g12.symm))
  have F12_value : Fld Z h12 b12 "java/lang/String" "value" "[B" .null := D12 (Or.inr (wd hw 24 rfl)) (ty := (.array .byte)) (by decide)
  have F12_coder : Fld Z h12 b12 "java/lang/String" "coder" "B" (.int (0 : Int32)) := D12 (Or.inr (wd hw 25 rfl)) (ty := .byte) (by decide)
  refine own_stW (T' := T12) (g' := (mkF m 90 #[iv p0, iv p1, iv p2, iv p3, iv p4, iv (2 : Int32), iv c0, iv c1, iv c2, iv c3, rv va1, .unset, .unset, .unset, .unset, .unset, .unset, .unset, .unset] [(.ref b12)])) st12 ?_
  clear st12
  refine own_stW (T' := T12) (g' := (mkF m 91 #[iv p0, iv p1, iv p2, iv p3, iv p4, iv (2 : Int32), iv c0, iv c1, iv c2, iv c3, rv va1, .unset, .unset, .unset, .unset, .unset, .unset, .unset, .unset] [(.ref b12), (.ref b12)])) (fun _ k_ => XS.dup X12.here hx rfl (hb hby at_90) rfl rfl k_) ?_
  refine own_stW (T' := T12) (g' := (mkF m 93 #[iv p0, iv p1, iv p2, iv p3, iv p4, iv (2 : Int32), iv c0, iv c1, iv c2, iv c3, rv va1, .unset, .unset, .unset, .unset, .unset, .unset, .unset, .unset] [(.ref va1), (.ref b12), (.ref b12)])) (fun _ k_ => XS.aload X12.here hx rfl (hb hby at_91) rfl rfl  k_) ?_
  have f15 : Arv Z h12 va1 kc1 .char (2 : Int32) [(.int c0), (.int c1)] (.int (0 : Int32)) := Vn7.ext E12
  have f16 : Old Z n0 h12 := f11.ext E12
  obtain ⟨_, T17, L17, X17, hQ17, st17⟩ := own_callI X12 hx (y := own_m18) rfl hown (mvT hZ (wd hw 12 rfl)) (mvT hZ (wd hw 13 rfl)) (mvT hZ (wd hw 14 rfl)) (by decide) (backOf (W := 1) (rm_ini1_2 l Z a0 hw [] b12 va1 kc1 cz c0 c1 h12 n0 f16 A12 F12_value F12_coder fr12 f15 SC hcz hr0.2 hr1.2) hZ (wd hw 14 rfl) (wd hw 11 rfl) (by decide) (by decide)) (g := (mkF m 93 #[iv p0, iv p1, iv p2, iv p3, iv p4, iv (2 : Int32), iv c0, iv c1, iv c2, iv c3, rv va1, .unset, .unset, .unset, .unset, .unset, .unset, .unset, .unset] [(.ref va1), (.ref b12), (.ref b12)])) rfl (by rw [hml]; rfl) (a := b12) (argsL := [(.ref va1)]) (rest := [(.ref b12)]) (lenOf pd___C_V rfl) rfl (by show 2 * 0 + _ ≤ _; exact Nat.le_of_eq rfl) (hb hby at_93) rfl e12 (by decide) (by decide) (c' := 6) (s' := 16) rfl rfl
  obtain ⟨t17, kb17, rfl, Nq17, K17, fq17_0, fq17_1, fq17_2, fq17_3, xq17_fresh_t⟩ := hQ17
  have N17 := Fr.app Nx7 Nq17
  have CR18 : CHr Z consts_1 s.vm h0 vm0 T17.heap := CR13.trans (CHr.keep K17 (sfS sf14 sf0) CR13.1)
  have sf19 : Safe Z consts_1 vm0 T17.heap b12 := Safe.keep K17 (sfS sf14 sf0) CR13.1 sf14
  refine own_stW (T' := T17) (g' := (mkF m 96 #[iv p0, iv p1, iv p2, iv p3, iv p4, iv (2 : Int32), iv c0, iv c1, iv c2, iv c3, rv va1, .unset, .unset, .unset, .unset, .unset, .unset, .unset, .unset] [(.ref b12)])) st17 ?_
  clear st17
  have f20 : Old Z n0 T17.heap := f16.keep K17 (allS fr12 all0)
  obtain ⟨_, T21, L21, X21, hS21, hQ21, ch21, st21⟩ := own_callSW X17 hx (y := own_m16) hown (mvT hZ (wd hw 30 rfl)) (mvT hZ (wd hw 31 rfl)) (mvT hZ (wd hw 32 rfl)) (mvT hZ (wd hw 33 rfl)) (by decide) (own_backW (W := 0) (rm_strip l Z a0 hw [] b12 t17 kb17 ([c0, c1] : List Int32) cz fm T17.heap n0 f20 fq17_0 fq17_2 fq17_1 fq17_3 (own_cRS hr0 (own_cRS hr1 own_cR0)) (Nat.le_of_ble_eq_true rfl) SC hcz SF hfm) hZ (wd hw 33 rfl) (wd hw 32 rfl) (by decide) (by decide) hEL CR18.1 sf0 all0) (g := (mkF m 96 #[iv p0, iv p1, iv p2, iv p3, iv p4, iv (2 : Int32), iv c0, iv c1, iv c2, iv c3, rv va1, .unset, .unset, .unset, .unset, .unset, .unset, .unset, .unset] [(.ref b12)])) rfl (by rw [hml]; rfl) (argsL := [(.ref b12)]) (rest := []) (lenOf pd__Ljava_lang_String__Ljava_lang_String_ rfl) rfl (by show 2 * 0 + _ ≤ _; exact Nat.le_of_eq rfl) (hb hby at_96) rfl rfl (by decide) (by decide) (c' := 8) (s' := 24) rfl rfl hS0 (Nat.le_trans (Nat.le_trans (Nat.le_trans (Nat.le_trans (Nat.le_trans hk0 K1.1) (Nat.le_of_eq (Wr.size W4).symm)) (Nat.le_of_eq (Wr.size W7).symm)) E12.1) K17.1)
  obtain ⟨r21, u21, ku21, rfl, Nq21, K21, fq21_0, fq21_1, fq21_2, fq21_3⟩ := hQ21
  have N21 := Fr.app N17 Nq21
  have CR22 : CHr Z consts_1 s.vm h0 T21.vm T21.heap := CR18.trans ch21
  have sf23 : Safe Z consts_1 T21.vm T21.heap b12 := ch21.safe (Nat.lt_of_lt_of_le A12.lt K17.1) sf19
  have hZ21 : Z.Warmed39 (s.setVm T21.vm).vm := own_hZ hZs hS21
  have hown21 : (s.setVm T21.vm).vm.findClass "com/example/sheafgate/sheafgate/http/RequestFieldsStripPinLaw" = some m.cls := own_hown howns hS21
  refine own_stW (T' := T21) (g' := (mkF m 99 #[iv p0, iv p1, iv p2, iv p3, iv p4, iv (2 : Int32), iv c0, iv c1, iv c2, iv c3, rv va1, .unset, .unset, .unset, .unset, .unset, .unset, .unset, .unset] [(.ref r21)])) st21 ?_
  clear st21
  refine own_stW (T' := T21) (g' := (mkF m 101 #[iv p0, iv p1, iv p2, iv p3, iv p4, iv (2 : Int32), iv c0, iv c1, iv c2, iv c3, rv va1, rv r21, .unset, .unset, .unset, .unset, .unset, .unset, .unset] [])) (fun _ k_ => XS.astore X21.here hx rfl (hb hby at_99) rfl rfl (l' := #[iv p0, iv p1, iv p2, iv p3, iv p4, iv (2 : Int32), iv c0, iv c1, iv c2, iv c3, rv va1, rv r21, .unset, .unset, .unset, .unset, .unset, .unset, .unset]) rfl k_) ?_
  refine own_stW (T' := T21) (g' := (mkF m 103 #[iv p0, iv p1, iv p2, iv p3, iv p4, iv (2 : Int32), iv c0, iv c1, iv c2, iv c3, rv va1, rv r21, .unset, .unset, .unset, .unset, .unset, .unset, .unset] [(.int c0)])) (fun _ k_ => XS.iload X21.here hx rfl (hb hby at_101) rfl  k_) ?_
  have f24 : Old Z n0 T21.heap := f20.keep K21 all0
  obtain ⟨_, T25, L25, X25, hQ25, st25⟩ := own_callS X21 hx (y := own_m23) hown21 (mvT hZ21 (wd hw 59 rfl)) (mvT hZ21 (wd hw 60 rfl)) (mvT hZ21 (wd hw 3 rfl)) (mvT hZ21 (wd hw 61 rfl)) (by decide) (backOf (W := 0) (rm_ws l Z a0 hw [] c0 T21.heap n0 f24) hZ21 (wd hw 61 rfl) (wd hw 3 rfl) (by decide) (by decide)) (g := (mkF m 103 #[iv p0, iv p1, iv p2, iv p3, iv p4, iv (2 : Int32), iv c0, iv c1, iv c2, iv c3, rv va1, rv r21, .unset, .unset, .unset, .unset, .unset, .unset, .unset] [(.int c0)])) rfl (by rw [hml]; rfl) (argsL := [(.int c0)]) (rest := []) (lenOf pd__C_Z rfl) rfl (by show 2 * 0 + _ ≤ _; exact Nat.le_of_eq rfl) (hb hby at_103) rfl rfl (by decide) (by decide) (c' := 8) (s' := 24) rfl rfl
  obtain ⟨rfl, Nq25, eq25⟩ := hQ25
  have N25 := Fr.app N21 Nq25
  refine own_stW (T' := T25) (g' := (mkF m 106 #[iv p0, iv p1, iv p2, iv p3, iv p4, iv (2 : Int32), iv c0, iv c1, iv c2, iv c3, rv va1, rv r21, .unset, .unset, .unset, .unset, .unset, .unset, .unset] [(.int (own_wi c0))])) st25 ?_
  clear st25
  refine own_stW (T' := T25) (g' := (mkF m 108 #[iv p0, iv p1, iv p2, iv p3, iv p4, iv (2 : Int32), iv c0, iv c1, iv c2, iv c3, rv va1, rv r21, iv (own_wi c0), .unset, .unset, .unset, .unset, .unset, .unset] [])) (fun _ k_ => XS.istore X25.here hx rfl (hb hby at_106) rfl (l' := #[iv p0, iv p1, iv p2, iv p3, iv p4, iv (2 : Int32), iv c0, iv c1, iv c2, iv c3, rv va1, rv r21, iv (own_wi c0), .unset, .unset, .unset, .unset, .unset, .unset]) rfl k_) ?_
  refine own_stW (T' := T25) (g' := (mkF m 110 #[iv p0, iv p1, iv p2, iv p3, iv p4, iv (2 : Int32), iv c0, iv c1, iv c2, iv c3, rv va1, rv r21, iv (own_wi c0), .unset, .unset, .unset, .unset, .unset, .unset] [(.int c1)])) (fun _ k_ => XS.iload X25.here hx rfl (hb hby at_108) rfl  k_) ?_
  obtain ⟨_, T26, L26, X26, hQ26, st26⟩ := own_callS X25 hx (y := own_m23) hown21 (mvT hZ21 (wd hw 59 rfl)) (mvT hZ21 (wd hw 60 rfl)) (mvT hZ21 (wd hw 3 rfl)) (mvT hZ21 (wd hw 61 rfl)) (by decide) (backOf (W := 0) (rm_ws l Z a0 hw [] c1 T21.heap n0 f24) hZ21 (wd hw 61 rfl) (wd hw 3 rfl) (by decide) (by decide)) (g := (mkF m 110 #[iv p0, iv p1, iv p2, iv p3, iv p4, iv (2 : Int32), iv c0, iv c1, iv c2, iv c3, rv va1, rv r21, iv (own_wi c0), .unset, .unset, .unset, .unset, .unset, .unset] [(.int c1)])) rfl (by rw [hml]; rfl) (argsL := [(.int c1)]) (rest := []) (lenOf pd__C_Z rfl) rfl (by show 2 * 0 + _ ≤ _; exact Nat.le_of_eq rfl) (hb hby at_110) rfl eq25 (by decide) (by decide) (c' := 8) (s' := 24) rfl rfl
  obtain ⟨rfl, Nq26, eq26⟩ := hQ26
  have N26 := Fr.app N25 Nq26
  refine own_stW (T' := T26) (g' := (mkF m 113 #[iv p0, iv p1, iv p2, iv p3, iv p4, iv (2 : Int32), iv c0, iv c1, iv c2, iv c3, rv va1, rv r21, iv (own_wi c0), .unset, .unset, .unset, .unset, .unset, .unset] [(.int (own_wi c1))])) st26 ?_
  clear st26
  refine own_stW (T' := T26) (g' := (mkF m 115 #[iv p0, iv p1, iv p2, iv p3, iv p4, iv (2 : Int32), iv c0, iv c1, iv c2, iv c3, rv va1, rv r21, iv (own_wi c0), iv (own_wi c1), .unset, .unset, .unset, .unset, .unset] [])) (fun _ k_ => XS.istore X26.here hx rfl (hb hby at_113) rfl (l' := #[iv p0, iv p1, iv p2, iv p3, iv p4, iv (2 : Int32), iv c0, iv c1, iv c2, iv c3, rv va1, rv r21, iv (own_wi c0), iv (own_wi c1), .unset, .unset, .unset, .unset, .unset]) rfl k_) ?_
  refine own_stW (T' := T26) (g' := (mkF m 117 #[iv p0, iv p1, iv p2, iv p3, iv p4, iv (2 : Int32), iv c0, iv c1, iv c2, iv c3, rv va1, rv r21, iv (own_wi c0), iv (own_wi c1), .unset, .unset, .unset, .unset, .unset] [(.int c2)])) (fun _ k_ => XS.iload X26.here hx rfl (hb hby at_115) rfl  k_) ?_
  obtain ⟨_, T27, L27, X27, hQ27, st27⟩ := own_callS X26 hx (y := own_m23) hown21 (mvT hZ21 (wd hw 59 rfl)) (mvT hZ21 (wd hw 60 rfl)) (mvT hZ21 (wd hw 3 rfl)) (mvT hZ21 (wd hw 61 rfl)) (by decide) (backOf (W := 0) (rm_ws l Z a0 hw [] c2 T21.heap n0 f24) hZ21 (wd hw 61 rfl) (wd hw 3 rfl) (by decide) (by decide)) (g := (mkF m 117 #[iv p0, iv p1, iv p2, iv p3, iv p4, iv (2 : Int32), iv c0, iv c1, iv c2, iv c3, rv va1, rv r21, iv (own_wi c0), iv (own_wi c1), .unset, .unset, .unset, .unset, .unset] [(.int c2)])) rfl (by rw [hml]; rfl) (argsL := [(.int c2)]) (rest := []) (lenOf pd__C_Z rfl) rfl (by show 2 * 0 + _ ≤ _; exact Nat.le_of_eq rfl) (hb hby at_117) rfl eq26 (by decide) (by decide) (c' := 8) (s' := 24) rfl rfl
  obtain ⟨rfl, Nq27, eq27⟩ := hQ27
  have N27 := Fr.app N26 Nq27
  refine own_stW (T' := T27) (g' := (mkF m 120 #[iv p0, iv p1, iv p2, iv p3, iv p4, iv (2 : Int32), iv c0, iv c1, iv c2, iv c3, rv va1, rv r21, iv (own_wi c0), iv (own_wi c1), .unset, .unset, .unset, .unset, .unset] [(.int (own_wi c2))])) st27 ?_
  clear st27
  refine own_stW (T' := T27) (g' := (mkF m 122 #[iv p0, iv p1, iv p2, iv p3, iv p4, iv (2 : Int32), iv c0, iv c1, iv c2, iv c3, rv va1, rv r21, iv (own_wi c0), iv (own_wi c1), iv (own_wi c2), .unset, .unset, .unset, .unset] [])) (fun _ k_ => XS.istore X27.here hx rfl (hb hby at_120) rfl (l' := #[iv p0, iv p1, iv p2, iv p3, iv p4, iv (2 : Int32), iv c0, iv c1, iv c2, iv c3, rv va1, rv r21, iv (own_wi c0), iv (own_wi c1), iv (own_wi c2), .unset, .unset, .unset, .unset]) rfl k_) ?_
  refine own_stW (T' := T27) (g' := (mkF m 124 #[iv p0, iv p1, iv p2, iv p3, iv p4, iv (2 : Int32), iv c0, iv c1, iv c2, iv c3, rv va1, rv r21, iv (own_wi c0), iv (own_wi c1), iv (own_wi c2), .unset, .unset, .unset, .unset] [(.int c3)])) (fun _ k_ => XS.iload X27.here hx rfl (hb hby at_122) rfl  k_) ?_
  obtain ⟨_, T28, L28, X28, hQ28, st28⟩ := own_callS X27 hx (y := own_m23) hown21 (mvT hZ21 (wd hw 59 rfl)) (mvT hZ21 (wd hw 60 rfl)) (mvT hZ21 (wd hw 3 rfl)) (mvT hZ21 (wd hw 61 rfl)) (by decide) (backOf (W := 0) (rm_ws l Z a0 hw [] c3 T21.heap n0 f24) hZ21 (wd hw 61 rfl) (wd hw 3 rfl) (by decide) (by decide)) (g := (mkF m 124 #[iv p0, iv p1, iv p2, iv p3, iv p4, iv (2 : Int32), iv c0, iv c1, iv c2, iv c3, rv va1, rv r21, iv (own_wi c0), iv (own_wi c1), iv (own_wi c2), .unset, .unset, .unset, .unset] [(.int c3)])) rfl (by rw [hml]; rfl) (argsL := [(.int c3)]) (rest := []) (lenOf pd__C_Z rfl) rfl (by show 2 * 0 + _ ≤ _; exact Nat.le_of_eq rfl) (hb hby at_124) rfl eq27 (by decide) (by decide) (c' := 8) (s' := 24) rfl rfl
  obtain ⟨rfl, Nq28, eq28⟩ := hQ28
  have N28 := Fr.app N27 Nq28
  refine own_stW (T' := T28) (g' := (mkF m 127 #[iv p0, iv p1, iv p2, iv p3, iv p4, iv (2 : Int32), iv c0, iv c1, iv c2, iv c3, rv va1, rv r21, iv (own_wi c0), iv (own_wi c1), iv (own_wi c2), .unset, .unset, .unset, .unset] [(.int (own_wi c3))])) st28 ?_
  clear st28
  refine own_stW (T' := T28) (g' := (mkF m 129 #[iv p0, iv p1, iv p2, iv p3, iv p4, iv (2 : Int32), iv c0, iv c1, iv c2, iv c3, rv va1, rv r21, iv (own_wi c0), iv (own_wi c1), iv (own_wi c2), iv (own_wi c3), .unset, .unset, .unset] [])) (fun _ k_ => XS.istore X28.here hx rfl (hb hby at_127) rfl (l' := #[iv p0, iv p1, iv p2, iv p3, iv p4, iv (2 : Int32), iv c0, iv c1, iv c2, iv c3, rv va1, rv r21, iv (own_wi c0), iv (own_wi c1), iv (own_wi c2), iv (own_wi c3), .unset, .unset, .unset]) rfl k_) ?_
  refine own_stW (T' := T28) (g' := (mkF m 131 #[iv p0, iv p1, iv p2, iv p3, iv p4, iv (2 : Int32), iv c0, iv c1, iv c2, iv c3, rv va1, rv r21, iv (own_wi c0), iv (own_wi c1), iv (own_wi c2), iv (own_wi c3), .unset, .unset, .unset] [(.int (2 : Int32))])) (fun _ k_ => XS.iload X28.here hx rfl (hb hby at_129) rfl  k_) ?_
  refine own_stW (T' := T28) (g' := (mkF m 134 #[iv p0, iv p1, iv p2, iv p3, iv p4, iv (2 : Int32), iv c0, iv c1, iv c2, iv c3, rv va1, rv r21, iv (own_wi c0), iv (own_wi c1), iv (own_wi c2), iv (own_wi c3), .unset, .unset, .unset] [])) (fun _ k_ => XS.ifNo X28.here hx rfl (hb hby at_131) rfl ((if0 _ _).trans (tlt (by decide : (0 : Int32) < (2 : Int32))).2.2.2) k_) ?_
  refine own_stW (T' := T28) (g' := (mkF m 136 #[iv p0, iv p1, iv p2, iv p3, iv p4, iv (2 : Int32), iv c0, iv c1, iv c2, iv c3, rv va1, rv r21, iv (own_wi c0), iv (own_wi c1), iv (own_wi c2), iv (own_wi c3), .unset, .unset, .unset] [(.int (own_wi c0))])) (fun _ k_ => XS.iload X28.here hx rfl (hb hby at_134) rfl  k_) ?_
  by_cases hc29 : (own_wi c0) = (0 : Int32)
  · refine own_stW (T' := T28) (g' := (mkF m 139 #[iv p0, iv p1, iv p2, iv p3, iv p4, iv (2 : Int32), iv c0, iv c1, iv c2, iv c3, rv va1, rv r21, iv (own_wi c0), iv (own_wi c1), iv (own_wi c2), iv (own_wi c3), .unset, .unset, .unset] [])) (fun _ k_ => XS.ifNo X28.here hx rfl (hb hby at_136) rfl ((if0 _ _).trans (teq hc29).2) k_) ?_
    refine own_stW (T' := T28) (g' := (mkF m 140 #[iv p0, iv p1, iv p2, iv p3, iv p4, iv (2 : Int32), iv c0, iv c1, iv c2, iv c3, rv va1, rv r21, iv (own_wi c0), iv (own_wi c1), iv (own_wi c2), iv (own_wi c3), .unset, .unset, .unset] [(.int (0 : Int32))])) (fun _ k_ => XS.iconst X28.here hx rfl (hb hby at_139) k_) ?_
    refine own_stW (T' := T28) (g' := (mkF m 142 #[iv p0, iv p1, iv p2, iv p3, iv p4, iv (2 : Int32), iv c0, iv c1, iv c2, iv c3, rv va1, rv r21, iv (own_wi c0), iv (own_wi c1), iv (own_wi c2), iv (own_wi c3), iv (0 : Int32), .unset, .unset] [])) (fun _ k_ => XS.istore X28.here hx rfl (hb hby at_140) rfl (l' := #[iv p0, iv p1, iv p2, iv p3, iv p4, iv (2 : Int32), iv c0, iv c1, iv c2, iv c3, rv va1, rv r21, iv (own_wi c0), iv (own_wi c1), iv (own_wi c2), iv (own_wi c3), iv (0 : Int32), .unset, .unset]) rfl k_) ?_
    refine own_stW (T' := T28) (g' := (mkF m 200 #[iv p0, iv p1, iv p2, iv p3, iv p4, iv (2 : Int32), iv c0, iv c1, iv c2, iv c3, rv va1, rv r21, iv (own_wi c0), iv (own_wi c1), iv (own_wi c2), iv (own_wi c3), iv (0 : Int32), .unset, .unset] [])) (fun _ k_ => XS.goto X28.here hx rfl (pc0 := 142) (pc' := 200) rfl (hb hby at_142) (by decide) (by decide) k_) ?_
    have ne30 : va1 ≠ b12 := Nat.ne_of_lt (Nat.lt_of_lt_of_le (Nat.lt_of_lt_of_le (Nat.lt_of_lt_of_le fq1_0.lt (Nat.le_of_eq (Wr.size W4).symm)) (Nat.le_of_eq (Wr.size W7).symm)) (Nat.le_of_eq g12.symm))
    have f31 : Arv Z T17.heap va1 kc1 .char (2 : Int32) [(.int c0), (.int c1)] (.int (0 : Int32)) := f15.keep K17 (ninS ne30 nin0)
    have f32 : Arv Z T21.heap va1 kc1 .char (2 : Int32) [(.int c0), (.int c1)] (.int (0 : Int32)) := f31.keep K21 nin0
    exact seg_f2 h0 T21.heap n0 p0 p1 p2 p3 p4 c0 c1 c2 c3 va1 kc1 r21 u21 ku21 0 cz fm X28 hx hZs hZ21 hS21 (Nat.le_refl _) CR22 hw hby hml howns hown21 hnm hret hlk eq28 N28 f24 hr0 hr1 hr2 hr3 f32 fq21_0 fq21_2 fq21_1 fq21_3 (by simp [own_is, own_wiF hc29]) SC hcz SF hfm
  · refine own_stW (T' := T28) (g' := (mkF m 145 #[iv p0, iv p1, iv p2, iv p3, iv p4, iv (2 : Int32), iv c0, iv c1, iv c2, iv c3, rv va1, rv r21, iv (own_wi c0), iv (own_wi c1), iv (own_wi c2), iv (own_wi c3), .unset, .unset, .unset] [])) (fun _ k_ => XS.ifYes X28.here hx rfl (pc0 := 136) (pc' := 145) rfl (hb hby at_136) rfl ((if0 _ _).trans (feq hc29).2) (by decide) (by decide) k_) ?_
    refine own_stW (T' := T28) (g' := (mkF m 147 #[iv p0, iv p1, iv p2, iv p3, iv p4, iv (2 : Int32), iv c0, iv c1, iv c2, iv c3, rv va1, rv r21, iv (own_wi c0), iv (own_wi c1), iv (own_wi c2), iv (own_wi c3), .unset, .unset, .unset] [(.int (2 : Int32))])) (fun _ k_ => XS.iload X28.here hx rfl (hb hby at_145) rfl  k_) ?_
    refine own_stW (T' := T28) (g' := (mkF m 148 #[iv p0, iv p1, iv p2, iv p3, iv p4, iv (2 : Int32), iv c0, iv c1, iv c2, iv c3, rv va1, rv r21, iv (own_wi c0), iv (own_wi c1), iv (own_wi c2), iv (own_wi c3), .unset, .unset, .unset] [(.int (1 : Int32)), (.int (2 : Int32))])) (fun _ k_ => XS.iconst X28.here hx rfl (hb hby at_147) k_) ?_
    refine own_stW (T' := T28) (g' := (mkF m 151 #[iv p0, iv p1, iv p2, iv p3, iv p4, iv (2 : Int32), iv c0, iv c1, iv c2, iv c3, rv va1, rv r21, iv (own_wi c0), iv (own_wi c1), iv (own_wi c2), iv (own_wi c3), .unset, .unset, .unset] [])) (fun _ k_ => XS.icmpNo X28.here hx rfl (hb hby at_148) rfl (tlt (by decide : (1 : Int32) < (2 : Int32))).2.2.2 k_) ?_
    refine own_stW (T' := T28) (g' := (mkF m 153 #[iv p0, iv p1, iv p2, iv p3, iv p4, iv (2 : Int32), iv c0, iv c1, iv c2, iv c3, rv va1, rv r21, iv (own_wi c0), iv (own_wi c1), iv (own_wi c2), iv (own_wi c3), .unset, .unset, .unset] [(.int (own_wi c1))])) (fun _ k_ => XS.iload X28.here hx rfl (hb hby at_151) rfl  k_) ?_
    by_cases hc33 : (own_wi c1) = (0 : Int32)
    · refine own_stW (T' := T28) (g' := (mkF m 156 #[iv p0, iv p1, iv p2, iv p3, iv p4, iv (2 : Int32), iv c0, iv c1, iv c2, iv c3, rv va1, rv r21, iv (own_wi c0), iv (own_wi c1), iv (own_wi c2), iv (own_wi c3), .unset, .unset, .unset] [])) (fun _ k_ => XS.ifNo X28.here hx rfl (hb hby at_153) rfl ((if0 _ _).trans (teq hc33).2) k_) ?_
      refine own_stW (T' := T28) (g' := (mkF m 157 #[iv p0, iv p1, iv p2, iv p3, iv p4, iv (2 : Int32), iv c0, iv c1, iv c2, iv c3, rv va1, rv r21, iv (own_wi c0), iv (own_wi c1), iv (own_wi c2), iv (own_wi c3), .unset, .unset, .unset] [(.int (1 : Int32))])) (fun _ k_ => XS.iconst X28.here hx rfl (hb hby at_156) k_) ?_
      refine own_stW (T' := T28) (g' := (mkF m 159 #[iv p0, iv p1, iv p2, iv p3, iv p4, iv (2 : Int32), iv c0, iv c1, iv c2, iv c3, rv va1, rv r21, iv (own_wi c0), iv (own_wi c1), iv (own_wi c2), iv (own_wi c3), iv (1 : Int32), .unset, .unset] [])) (fun _ k_ => XS.istore X28.here hx rfl (hb hby at_157) rfl (l' := #[iv p0, iv p1, iv p2, iv p3, iv p4, iv (2 : Int32), iv c0, iv c1, iv c2, iv c3, rv va1, rv r21, iv (own_wi c0), iv (own_wi c1), iv (own_wi c2), iv (own_wi c3), iv (1 : Int32), .unset, .unset]) rfl k_) ?_
      refine own_stW (T' := T28) (g' := (mkF m 200 #[iv p0, iv p1, iv p2, iv p3, iv p4, iv (2 : Int32), iv c0, iv c1, iv c2, iv c3, rv va1, rv r21, iv (own_wi c0), iv (own_wi c1), iv (own_wi c2), iv (own_wi c3), iv (1 : Int32), .unset, .unset] [])) (fun _ k_ => XS.goto X28.here hx rfl (pc0 := 159) (pc' := 200) rfl (hb hby at_159) (by decide) (by decide) k_) ?_
      have ne34 : va1 ≠ b12 := Nat.ne_of_lt (Nat.lt_of_lt_of_le (Nat.lt_of_lt_of_le (Nat.lt_of_lt_of_le fq1_0.lt (Nat.le_of_eq (Wr.size W4).symm)) (Nat.le_of_eq (Wr.size W7).symm)) (Nat.le_of_eq g12.symm))
      have f35 : Arv Z T17.heap va1 kc1 .char (2 : Int32) [(.int c0), (.int c1)] (.int (0 : Int32)) := f15.keep K17 (ninS ne34 nin0)
      have f36 : Arv Z T21.heap va1 kc1 .char (2 : Int32) [(.int c0), (.int c1)] (.int (0 : Int32)) := f35.keep K21 nin0
      exact seg_f2 h0 T21.heap n0 p0 p1 p2 p3 p4 c0 c1 c2 c3 va1 kc1 r21 u21 ku21 1 cz fm X28 hx hZs hZ21 hS21 (Nat.le_refl _) CR22 hw hby hml howns hown21 hnm hret hlk eq28 N28 f24 hr0 hr1 hr2 hr3 f36 fq21_0 fq21_2 fq21_1 fq21_3 (by simp [own_is, own_wiT hc29, own_wiF hc33]) SC hcz SF hfm
    · refine own_stW (T' := T28) (g' := (mkF m 162 #[iv p0, iv p1, iv p2, iv p3, iv p4, iv (2 : Int32), iv c0, iv c1, iv c2, iv c3, rv va1, rv r21, iv (own_wi c0), iv (own_wi c1), iv (own_wi c2), iv (own_wi c3), .unset, .unset, .unset] [])) (fun _ k_ => XS.ifYes X28.here hx rfl (pc0 := 153) (pc' := 162) rfl (hb hby at_153) rfl ((if0 _ _).trans (feq hc33).2) (by decide) (by decide) k_) ?_
      refine own_stW (T' := T28) (g' := (mkF m 164 #[iv p0, iv p1, iv p2, iv p3, iv p4, iv (2 : Int32), iv c0, iv c1, iv c2, iv c3, rv va1, rv r21, iv (own_wi c0), iv (own_wi c1), iv (own_wi c2), iv (own_wi c3), .unset, .unset, .unset] [(.int (2 : Int32))])) (fun _ k_ => XS.iload X28.here hx rfl (hb hby at_162) rfl  k_) ?_
      refine own_stW (T' := T28) (g' := (mkF m 165 #[iv p0, iv p1, iv p2, iv p3, iv p4, iv (2 : Int32), iv c0, iv c1, iv c2, iv c3, rv va1, rv r21, iv (own_wi c0), iv (own_wi c1), iv (own_wi c2), iv (own_wi c3), .unset, .unset, .unset] [(.int (2 : Int32)), (.int (2 : Int32))])) (fun _ k_ => XS.iconst X28.here hx rfl (hb hby at_164) k_) ?_
      refine own_stW (T' := T28) (g' := (mkF m 179 #[iv p0, iv p1, iv p2, iv p3, iv p4, iv (2 : Int32), iv c0, iv c1, iv c2, iv c3, rv va1, rv r21, iv (own_wi c0), iv (own_wi c1), iv (own_wi c2), iv (own_wi c3), .unset, .unset, .unset] [])) (fun _ k_ => XS.icmpYes X28.here hx rfl (pc0 := 165) (pc' := 179) rfl (hb hby at_165) rfl (flt (by decide : ¬ ((2 : Int32) < (2 : Int32)))).2.2.2 (by decide) (by decide) k_) ?_
      refine own_stW (T' := T28) (g' := (mkF m 181 #[iv p0, iv p1, iv p2, iv p3, iv p4, iv (2 : Int32), iv c0, iv c1, iv c2, iv c3, rv va1, rv r21, iv (own_wi c0), iv (own_wi c1), iv (own_wi c2), iv (own_wi c3), .unset, .unset, .unset] [(.int (2 : Int32))])) (fun _ k_ => XS.iload X28.here hx rfl (hb hby at_179) rfl  k_) ?_
      refine own_stW (T' := T28) (g' := (mkF m 182 #[iv p0, iv p1, iv p2, iv p3, iv p4, iv (2 : Int32), iv c0, iv c1, iv c2, iv c3, rv va1, rv r21, iv (own_wi c0), iv (own_wi c1), iv (own_wi c2), iv (own_wi c3), .unset, .unset, .unset] [(.int (3 : Int32)), (.int (2 : Int32))])) (fun _ k_ => XS.iconst X28.here hx rfl (hb hby at_181) k_) ?_
      refine own_stW (T' := T28) (g' := (mkF m 196 #[iv p0, iv p1, iv p2, iv p3, iv p4, iv (2 : Int32), iv c0, iv c1, iv c2, iv c3, rv va1, rv r21, iv (own_wi c0), iv (own_wi c1), iv (own_wi c2), iv (own_wi c3), .unset, .unset, .unset] [])) (fun _ k_ => XS.icmpYes X28.here hx rfl (pc0 := 182) (pc' := 196) rfl (hb hby at_182) rfl (flt (by decide : ¬ ((3 : Int32) < (2 : Int32)))).2.2.2 (by decide) (by decide) k_) ?_
      refine own_stW (T' := T28) (g' := (mkF m 198 #[iv p0, iv p1, iv p2, iv p3, iv p4, iv (2 : Int32), iv c0, iv c1, iv c2, iv c3, rv va1, rv r21, iv (own_wi c0), iv (own_wi c1), iv (own_wi c2), iv (own_wi c3), .unset, .unset, .unset] [(.int (2 : Int32))])) (fun _ k_ => XS.iload X28.here hx rfl (hb hby at_196) rfl  k_) ?_
      refine own_stW (T' := T28) (g' := (mkF m 200 #[iv p0, iv p1, iv p2, iv p3, iv p4, iv (2 : Int32), iv c0, iv c1, iv c2, iv c3, rv va1, rv r21, iv (own_wi c0), iv (own_wi c1), iv (own_wi c2), iv (own_wi c3), iv (2 : Int32), .unset, .unset] [])) (fun _ k_ => XS.istore X28.here hx rfl (hb hby at_198) rfl (l' := #[iv p0, iv p1, iv p2, iv p3, iv p4, iv (2 : Int32), iv c0, iv c1, iv c2, iv c3, rv va1, rv r21, iv (own_wi c0), iv (own_wi c1), iv (own_wi c2), iv (own_wi c3), iv (2 : Int32), .unset, .unset]) rfl k_) ?_
      have ne37 : va1 ≠ b12 := Nat.ne_of_lt (Nat.lt_of_lt_of_le (Nat.lt_of_lt_of_le (Nat.lt_of_lt_of_le fq1_0.lt (Nat.le_of_eq (Wr.size W4).symm)) (Nat.le_of_eq (Wr.size W7).symm)) (Nat.le_of_eq g12.symm))
      have f38 : Arv Z T17.heap va1 kc1 .char (2 : Int32) [(.int c0), (.int c1)] (.int (0 : Int32)) := f15.keep K17 (ninS ne37 nin0)
      have f39 : Arv Z T21.heap va1 kc1 .char (2 : Int32) [(.int c0), (.int c1)] (.int (0 : Int32)) := f38.keep K21 nin0
      exact seg_f2 h0 T21.heap n0 p0 p1 p2 p3 p4 c0 c1 c2 c3 va1 kc1 r21 u21 ku21 2 cz fm X28 hx hZs hZ21 hS21 (Nat.le_refl _) CR22 hw hby hml howns hown21 hnm hret hlk eq28 N28 f24 hr0 hr1 hr2 hr3 f39 fq21_0 fq21_2 fq21_1 fq21_3 (by simp [own_is, own_wiT hc29, own_wiT hc33]) SC hcz SF hfm
set_option maxRecDepth 65536 in
set_option maxHeartbeats 40000000 in
theorem seg_g3 {p : Program} {l : Launch} {e : Env} {s : State} {m : MethodId} {args : Array Value} {below : List Frame} {meth : Method} {c : Code} {T0 : State} {locs : List Loc} {Z : State} {a0 : Array Value} {vm0 : Vm} {k0 : Nat} (h0 : Heap) (hB : Heap) (n0 : Nat) (p0 : Int32) (p1 : Int32) (p2 : Int32) (p3 : Int32) (p4 : Int32) (c0 : Int32) (c1 : Int32) (c2 : Int32) (c3 : Int32) (va : Addr) (kc : ClassId) (r : Addr) (u : Addr) (ku : ClassId) (ss : Nat) (ee : Int32) (cz : Int32) (fm : Value)
    (X0 : Stand p l e room_1 (s.setVm vm0) m args below meth c T0 locs 8 24) (hx : p.tables.exec = Jvm.exec) (hZs : Z.Warmed39 s.vm) (hZ : Z.Warmed39 (s.setVm vm0).vm) (hS0 : s.Since vm0 k0) (hk0 : k0 ≤ hB.size) (CR0 : CHr Z consts_1 s.vm h0 vm0 hB) (hw : ∀ d ∈ tables_1, d.before a0 Z = true) (hby : c.code = code) (hml : c.maxLocals = 19) (howns : s.vm.findClass "com/example/sheafgate/sheafgate/http/RequestFieldsStripPinLaw" = some m.cls) (hown : (s.setVm vm0).vm.findClass "com/example/sheafgate/sheafgate/http/RequestFieldsStripPinLaw" = some m.cls) (hnm : meth.name = "law") (hret : meth.sig.returnType = some .boolean) (hlk : meth.locks = false) (e0 : T0.heap = hB) (N0 : Fr n0 locs) (O0 : Old Z n0 hB) (hr0 : ¬ c0 < 0 ∧ ¬ (255 : Int32) < c0) (hr1 : ¬ c1 < 0 ∧ ¬ (255 : Int32) < c1) (hr2 : ¬ c2 < 0 ∧ ¬ (255 : Int32) < c2) (hr3 : ¬ c3 < 0 ∧ ¬ (255 : Int32) < c3) (VA : Arv Z hB va kc .char (3 : Int32) [(.int c0), (.int c1), (.int c2)] (.int (0 : Int32))) (E_r : Exa Z hB r "java/lang/String") (V_r : Fld Z hB r "java/lang/String" "value" "[B" (.ref u)) (C_r : Fld Z hB r "java/lang/String" "coder" "B" (.int (0 : Int32))) (A_r : Arv Z hB u ku .byte (Int32.ofNat (own_sub ([c0, c1, c2] : List Int32) (own_is ([c0, c1, c2] : List Int32)) (own_ie ([c0, c1, c2] : List Int32))).length) (((own_sub ([c0, c1, c2] : List Int32) (own_is ([c0, c1, c2] : List Int32)) (own_ie ([c0, c1, c2] : List Int32))).map StrChars.lo8).map Value.int) (.int (0 : Int32))) (hs : (own_is ([c0, c1, c2] : List Int32)) = ss) (he : (own_is ([c0, c1, c2] : List Int32)) < 3 → ee = Int32.ofNat (own_ie ([c0, c1, c2] : List Int32))) (SC : Sta Z Z.heap "java/lang/String" "COMPACT_STRINGS" "Z" (.int cz)) (hcz : ¬ cz = (0 : Int32)) (SF : Sta Z Z.heap "jdk/internal/util/Preconditions" "SIOOBE_FORMATTER" "Ljava/util/function/BiFunction;" fm) (hfm : fm.isRef = true) :
    own_W p e below s room_1.cells room_1.slots Z consts_1 h0 (own_L n0) T0 (mkF m 270 #[iv p0, iv p1, iv p2, iv p3, iv p4, iv (3 : Int32), iv c0, iv c1, iv c2, iv c3, rv va, rv r, iv (own_wi c0), iv (own_wi c1), iv (own_wi c2), iv (own_wi c3), iv (Int32.ofNat ss), iv ee, .unset] []) := by
  have hEL := own_EW hw
  subst hs
  refine own_stW (T' := T0) (g' := (mkF m 272 #[iv p0, iv p1, iv p2, iv p3, iv p4, iv (3 : Int32), iv c0, iv c1, iv c2, iv c3, rv va, rv r, iv (own_wi c0), iv (own_wi c1), iv (own_wi c2), iv (own_wi c3), iv (Int32.ofNat (own_is ([c0, c1, c2] : List Int32))), iv ee, .unset] [(.int (Int32.ofNat (own_is ([c0, c1, c2] : List Int32))))])) (fun _ k_ => XS.iload X0.here hx rfl (hb hby at_270) rfl  k_) ?_
  refine own_stW (T' := T0) (g' := (mkF m 274 #[iv p0, iv p1, iv p2, iv p3, iv p4, iv (3 : Int32), iv c0, iv c1, iv c2, iv c3, rv va, rv r, iv (own_wi c0), iv (own_wi c1), iv (own_wi c2), iv (own_wi c3), iv (Int32.ofNat (own_is ([c0, c1, c2] : List Int32))), iv ee, .unset] [(.int (3 : Int32)), (.int (Int32.ofNat (own_is ([c0, c1, c2] : List Int32))))])) (fun _ k_ => XS.iload X0.here hx rfl (hb hby at_272) rfl  k_) ?_
  by_cases hc1 : (Int32.ofNat (own_is ([c0, c1, c2] : List Int32))) < (3 : Int32)
  · refine own_stW (T' := T0) (g' := (mkF m 277 #[iv p0, iv p1, iv p2, iv p3, iv p4, iv (3 : Int32), iv c0, iv c1, iv c2, iv c3, rv va, rv r, iv (own_wi c0), iv (own_wi c1), iv (own_wi c2), iv (own_wi c3), iv (Int32.ofNat (own_is ([c0, c1, c2] : List Int32))), iv ee, .unset] [])) (fun _ k_ => XS.icmpNo X0.here hx rfl (hb hby at_274) rfl (tlt hc1).2.1 k_) ?_
    have hl4 : (([c0, c1, c2] : List Int32)).length ≤ 4000 := Nat.le_of_ble_eq_true rfl
    have hee := he ((own_olt (Nat.le_trans (own_isL ([c0, c1, c2] : List Int32)) hl4) (Nat.le_of_ble_eq_true rfl)).mp hc1)
    subst hee
    refine own_stW (T' := T0) (g' := (mkF m 279 #[iv p0, iv p1, iv p2, iv p3, iv p4, iv (3 : Int32), iv c0, iv c1, iv c2, iv c3, rv va, rv r, iv (own_wi c0), iv (own_wi c1), iv (own_wi c2), iv (own_wi c3), iv (Int32.ofNat (own_is ([c0, c1, c2] : List Int32))), iv (Int32.ofNat (own_ie ([c0, c1, c2] : List Int32))), .unset] [(.int (Int32.ofNat (own_ie ([c0, c1, c2] : List Int32))))])) (fun _ k_ => XS.iload X0.here hx rfl (hb hby at_277) rfl  k_) ?_
    refine own_stW (T' := T0) (g' := (mkF m 281 #[iv p0, iv p1, iv p2, iv p3, iv p4, iv (3 : Int32), iv c0, iv c1, iv c2, iv c3, rv va, rv r, iv (own_wi c0), iv (own_wi c1), iv (own_wi c2), iv (own_wi c3), iv (Int32.ofNat (own_is ([c0, c1, c2] : List Int32))), iv (Int32.ofNat (own_ie ([c0, c1, c2] : List Int32))), .unset] [(.int (Int32.ofNat (own_is ([c0, c1, c2] : List Int32)))), (.int (Int32.ofNat (own_ie ([c0, c1, c2] : List Int32))))])) (fun _ k_ => XS.iload X0.here hx rfl (hb hby at_279) rfl  k_) ?_
    refine own_stW (T' := T0) (g' := (mkF m 282 #[iv p0, iv p1, iv p2, iv p3, iv p4, iv (3 : Int32), iv c0, iv c1, iv c2, iv c3, rv va, rv r, iv (own_wi c0), iv (own_wi c1), iv (own_wi c2), iv (own_wi c3), iv (Int32.ofNat (own_is ([c0, c1, c2] : List Int32))), iv (Int32.ofNat (own_ie ([c0, c1, c2] : List Int32))), .unset] [(.int ((Int32.ofNat (own_ie ([c0, c1, c2] : List Int32))) - (Int32.ofNat (own_is ([c0, c1, c2] : List Int32)))))])) (fun _ k_ => XS.isub X0.here hx rfl (hb hby at_281) rfl k_) ?_
    rw [own_osub (own_isie ([c0, c1, c2] : List Int32)) (Nat.le_trans (own_ieL ([c0, c1, c2] : List Int32)) hl4)]
    refine own_stW (T' := T0) (g' := (mkF m 286 #[iv p0, iv p1, iv p2, iv p3, iv p4, iv (3 : Int32), iv c0, iv c1, iv c2, iv c3, rv va, rv r, iv (own_wi c0), iv (own_wi c1), iv (own_wi c2), iv (own_wi c3), iv (Int32.ofNat (own_is ([c0, c1, c2] : List Int32))), iv (Int32.ofNat (own_ie ([c0, c1, c2] : List Int32))), .unset] [(.int (Int32.ofNat ((own_ie ([c0, c1, c2] : List Int32)) - (own_is ([c0, c1, c2] : List Int32)))))])) (fun _ k_ => XS.goto X0.here hx rfl (pc0 := 282) (pc' := 286) rfl (hb hby at_282) (by decide) (by decide) k_) ?_
    refine own_stW (T' := T0) (g' := (mkF m 288 #[iv p0, iv p1, iv p2, iv p3, iv p4, iv (3 : Int32), iv c0, iv c1, iv c2, iv c3, rv va, rv r, iv (own_wi c0), iv (own_wi c1), iv (own_wi c2), iv (own_wi c3), iv (Int32.ofNat (own_is ([c0, c1, c2] : List Int32))), iv (Int32.ofNat (own_ie ([c0, c1, c2] : List Int32))), iv (Int32.ofNat ((own_ie ([c0, c1, c2] : List Int32)) - (own_is ([c0, c1, c2] : List Int32))))] [])) (fun _ k_ => XS.istore X0.here hx rfl (hb hby at_286) rfl (l' := #[iv p0, iv p1, iv p2, iv p3, iv p4, iv (3 : Int32), iv c0, iv c1, iv c2, iv c3, rv va, rv r, iv (own_wi c0), iv (own_wi c1), iv (own_wi c2), iv (own_wi c3), iv (Int32.ofNat (own_is ([c0, c1, c2] : List Int32))), iv (Int32.ofNat (own_ie ([c0, c1, c2] : List Int32))), iv (Int32.ofNat ((own_ie ([c0, c1, c2] : List Int32)) - (own_is ([c0, c1, c2] : List Int32))))]) rfl k_) ?_
    exact seg_h h0 hB n0 _ _ _ _ _ _ _ _ _ _ _ _ _ _ _ va kc r u ku ([c0, c1, c2] : List Int32) _ cz fm X0 hx hZs hZ hS0 hk0 CR0 hw hby hml howns hown hnm hret hlk e0 N0 O0 (Nat.le_of_ble_eq_true rfl) (own_cRS hr0 (own_cRS hr1 (own_cRS hr2 own_cR0))) VA E_r V_r C_r A_r rfl SC hcz SF hfm
  · refine own_stW (T' := T0) (g' := (mkF m 285 #[iv p0, iv p1, iv p2, iv p3, iv p4, iv (3 : Int32), iv c0, iv c1, iv c2, iv c3, rv va, rv r, iv (own_wi c0), iv (own_wi c1), iv (own_wi c2), iv (own_wi c3), iv (Int32.ofNat (own_is ([c0, c1, c2] : List Int32))), iv ee, .unset] [])) (fun _ k_ => XS.icmpYes X0.here hx rfl (pc0 := 274) (pc' := 285) rfl (hb hby at_274) rfl (flt hc1).2.1 (by decide) (by decide) k_) ?_
    refine own_stW (T' := T0) (g' := (mkF m 286 #[iv p0, iv p1, iv p2, iv p3, iv p4, iv (3 : Int32), iv c0, iv c1, iv c2, iv c3, rv va, rv r, iv (own_wi c0), iv (own_wi c1), iv (own_wi c2), iv (own_wi c3), iv (Int32.ofNat (own_is ([c0, c1, c2] : List Int32))), iv ee, .unset] [(.int (0 : Int32))])) (fun _ k_ => XS.iconst X0.here hx rfl (hb hby at_285) k_) ?_
    refine own_stW (T' := T0) (g' := (mkF m 288 #[iv p0, iv p1, iv p2, iv p3, iv p4, iv (3 : Int32), iv c0, iv c1, iv c2, iv c3, rv va, rv r, iv (own_wi c0), iv (own_wi c1), iv (own_wi c2), iv (own_wi c3), iv (Int32.ofNat (own_is ([c0, c1, c2] : List Int32))), iv ee, iv (0 : Int32)] [])) (fun _ k_ => XS.istore X0.here hx rfl (hb hby at_286) rfl (l' := #[iv p0, iv p1, iv p2, iv p3, iv p4, iv (3 : Int32), iv c0, iv c1, iv c2, iv c3, rv va, rv r, iv (own_wi c0), iv (own_wi c1), iv (own_wi c2), iv (own_wi c3), iv (Int32.ofNat (own_is ([c0, c1, c2] : List Int32))), iv ee, iv (0 : Int32)]) rfl k_) ?_
    exact seg_h h0 hB n0 _ _ _ _ _ _ _ _ _ _ _ _ _ _ _ va kc r u ku ([c0, c1, c2] : List Int32) _ cz fm X0 hx hZs hZ hS0 hk0 CR0 hw hby hml howns hown hnm hret hlk e0 N0 O0 (Nat.le_of_ble_eq_true rfl) (own_cRS hr0 (own_cRS hr1 (own_cRS hr2 own_cR0))) VA E_r V_r C_r A_r (by have a := own_all ([c0, c1, c2] : List Int32) (fun q => absurd ((own_olt (by have b := own_isL ([c0, c1, c2] : List Int32); exact Nat.le_trans b (Nat.le_of_ble_eq_true rfl)) (Nat.le_of_ble_eq_true rfl)).mpr (Nat.lt_of_lt_of_le q (own_ieL ([c0, c1, c2] : List Int32)))) hc1); rw [a.2, Nat.sub_self]; rfl) SC hcz SF hfm
set_option maxRecDepth 65536 in
set_option maxHeartbeats 40000000 in
theorem seg_f3 {p : Program} {l : Launch} {e : Env} {s : State} {m : MethodId} {args : Array Value} {below : List Frame} {meth : Method} {c : Code} {T0 : State} {locs : List Loc} {Z : State} {a0 : Array Value} {vm0 : Vm} {k0 : Nat} (h0 : Heap) (hB : Heap) (n0 : Nat) (p0 : Int32) (p1 : Int32) (p2 : Int32) (p3 : Int32) (p4 : Int32) (c0 : Int32) (c1 : Int32) (c2 : Int32) (c3 : Int32) (va : Addr) (kc : ClassId) (r : Addr) (u : Addr) (ku : ClassId) (ss : Nat) (cz : Int32) (fm : Value)
    (X0 : Stand p l e room_1 (s.setVm vm0) m args below meth c T0 locs 8 24) (hx : p.tables.exec = Jvm.exec) (hZs : Z.Warmed39 s.vm) (hZ : Z.Warmed39 (s.setVm vm0).vm) (hS0 : s.Since vm0 k0) (hk0 : k0 ≤ hB.size) (CR0 : CHr Z consts_1 s.vm h0 vm0 hB) (hw : ∀ d ∈ tables_1, d.before a0 Z = true) (hby : c.code = code) (hml : c.maxLocals = 19) (howns : s.vm.findClass "com/example/sheafgate/sheafgate/http/RequestFieldsStripPinLaw" = some m.cls) (hown : (s.setVm vm0).vm.findClass "com/example/sheafgate/sheafgate/http/RequestFieldsStripPinLaw" = some m.cls) (hnm : meth.name = "law") (hret : meth.sig.returnType = some .boolean) (hlk : meth.locks = false) (e0 : T0.heap = hB) (N0 : Fr n0 locs) (O0 : Old Z n0 hB) (hr0 : ¬ c0 < 0 ∧ ¬ (255 : Int32) < c0) (hr1 : ¬ c1 < 0 ∧ ¬ (255 : Int32) < c1) (hr2 : ¬ c2 < 0 ∧ ¬ (255 : Int32) < c2) (hr3 : ¬ c3 < 0 ∧ ¬ (255 : Int32) < c3) (VA : Arv Z hB va kc .char (3 : Int32) [(.int c0), (.int c1), (.int c2)] (.int (0 : Int32))) (E_r : Exa Z hB r "java/lang/String") (V_r : Fld Z hB r "java/lang/String" "value" "[B" (.ref u)) (C_r : Fld Z hB r "java/lang/String" "coder" "B" (.int (0 : Int32))) (A_r : Arv Z hB u ku .byte (Int32.ofNat (own_sub ([c0, c1, c2] : List Int32) (own_is ([c0, c1, c2] : List Int32)) (own_ie ([c0, c1, c2] : List Int32))).length) (((own_sub ([c0, c1, c2] : List Int32) (own_is ([c0, c1, c2] : List Int32)) (own_ie ([c0, c1, c2] : List Int32))).map StrChars.lo8).map Value.int) (.int (0 : Int32))) (hs : (own_is ([c0, c1, c2] : List Int32)) = ss) (SC : Sta Z Z.heap "java/lang/String" "COMPACT_STRINGS" "Z" (.int cz)) (hcz : ¬ cz = (0 : Int32)) (SF : Sta Z Z.heap "jdk/internal/util/Preconditions" "SIOOBE_FORMATTER" "Ljava/util/function/BiFunction;" fm) (hfm : fm.isRef = true) :
    own_W p e below s room_1.cells room_1.slots Z consts_1 h0 (own_L n0) T0 (mkF m 200 #[iv p0, iv p1, iv p2, iv p3, iv p4, iv (3 : Int32), iv c0, iv c1, iv c2, iv c3, rv va, rv r, iv (own_wi c0), iv (own_wi c1), iv (own_wi c2), iv (own_wi c3), iv (Int32.ofNat ss), .unset, .unset] []) := by
  have hEL := own_EW hw
  refine own_stW (T' := T0) (g' := (mkF m 202 #[iv p0, iv p1, iv p2, iv p3, iv p4, iv (3 : Int32), iv c0, iv c1, iv c2, iv c3, rv va, rv r, iv (own_wi c0), iv (own_wi c1), iv (own_wi c2), iv (own_wi c3), iv (Int32.ofNat ss), .unset, .unset] [(.int (3 : Int32))])) (fun _ k_ => XS.iload X0.here hx rfl (hb hby at_200) rfl  k_) ?_
  refine own_stW (T' := T0) (g' := (mkF m 203 #[iv p0, iv p1, iv p2, iv p3, iv p4, iv (3 : Int32), iv c0, iv c1, iv c2, iv c3, rv va, rv r, iv (own_wi c0), iv (own_wi c1), iv (own_wi c2), iv (own_wi c3), iv (Int32.ofNat ss), .unset, .unset] [(.int (3 : Int32)), (.int (3 : Int32))])) (fun _ k_ => XS.iconst X0.here hx rfl (hb hby at_202) k_) ?_
  refine own_stW (T' := T0) (g' := (mkF m 217 #[iv p0, iv p1, iv p2, iv p3, iv p4, iv (3 : Int32), iv c0, iv c1, iv c2, iv c3, rv va, rv r, iv (own_wi c0), iv (own_wi c1), iv (own_wi c2), iv (own_wi c3), iv (Int32.ofNat ss), .unset, .unset] [])) (fun _ k_ => XS.icmpYes X0.here hx rfl (pc0 := 203) (pc' := 217) rfl (hb hby at_203) rfl (flt (by decide : ¬ ((3 : Int32) < (3 : Int32)))).2.2.2 (by decide) (by decide) k_) ?_
  refine own_stW (T' := T0) (g' := (mkF m 219 #[iv p0, iv p1, iv p2, iv p3, iv p4, iv (3 : Int32), iv c0, iv c1, iv c2, iv c3, rv va, rv r, iv (own_wi c0), iv (own_wi c1), iv (own_wi c2), iv (own_wi c3), iv (Int32.ofNat ss), .unset, .unset] [(.int (3 : Int32))])) (fun _ k_ => XS.iload X0.here hx rfl (hb hby at_217) rfl  k_) ?_
  refine own_stW (T' := T0) (g' := (mkF m 220 #[iv p0, iv p1, iv p2, iv p3, iv p4, iv (3 : Int32), iv c0, iv c1, iv c2, iv c3, rv va, rv r, iv (own_wi c0), iv (own_wi c1), iv (own_wi c2), iv (own_wi c3), iv (Int32.ofNat ss), .unset, .unset] [(.int (2 : Int32)), (.int (3 : Int32))])) (fun _ k_ => XS.iconst X0.here hx rfl (hb hby at_219) k_) ?_
  refine own_stW (T' := T0) (g' := (mkF m 223 #[iv p0, iv p1, iv p2, iv p3, iv p4, iv (3 : Int32), iv c0, iv c1, iv c2, iv c3, rv va, rv r, iv (own_wi c0), iv (own_wi c1), iv (own_wi c2), iv (own_wi c3), iv (Int32.ofNat ss), .unset, .unset] [])) (fun _ k_ => XS.icmpNo X0.here hx rfl (hb hby at_220) rfl (tlt (by decide : (2 : Int32) < (3 : Int32))).2.2.2 k_) ?_
  refine own_stW (T' := T0) (g' := (mkF m 225 #[iv p0, iv p1, iv p2, iv p3, iv p4, iv (3 : Int32), iv c0, iv c1, iv c2, iv c3, rv va, rv r, iv (own_wi c0), iv (own_wi c1), iv (own_wi c2), iv (own_wi c3), iv (Int32.ofNat ss), .unset, .unset] [(.int (own_wi c2))])) (fun _ k_ => XS.iload X0.here hx rfl (hb hby at_223) rfl  k_) ?_
  by_cases hc1 : (own_wi c2) = (0 : Int32)
  · refine own_stW (T' := T0) (g' := (mkF m 228 #[iv p0, iv p1, iv p2, iv p3, iv p4, iv (3 : Int32), iv c0, iv c1, iv c2, iv c3, rv va, rv r, iv (own_wi c0), iv (own_wi c1), iv (own_wi c2), iv (own_wi c3), iv (Int32.ofNat ss), .unset, .unset] [])) (fun _ k_ => XS.ifNo X0.here hx rfl (hb hby at_225) rfl ((if0 _ _).trans (teq hc1).2) k_) ?_
    refine own_stW (T' := T0) (g' := (mkF m 229 #[iv p0, iv p1, iv p2, iv p3, iv p4, iv (3 : Int32), iv c0, iv c1, iv c2, iv c3, rv va, rv r, iv (own_wi c0), iv (own_wi c1), iv (own_wi c2), iv (own_wi c3), iv (Int32.ofNat ss), .unset, .unset] [(.int (3 : Int32))])) (fun _ k_ => XS.iconst X0.here hx rfl (hb hby at_228) k_) ?_
    refine own_stW (T' := T0) (g' := (mkF m 231 #[iv p0, iv p1, iv p2, iv p3, iv p4, iv (3 : Int32), iv c0, iv c1, iv c2, iv c3, rv va, rv r, iv (own_wi c0), iv (own_wi c1), iv (own_wi c2), iv (own_wi c3), iv (Int32.ofNat ss), iv (3 : Int32), .unset] [])) (fun _ k_ => XS.istore X0.here hx rfl (hb hby at_229) rfl (l' := #[iv p0, iv p1, iv p2, iv p3, iv p4, iv (3 : Int32), iv c0, iv c1, iv c2, iv c3, rv va, rv r, iv (own_wi c0), iv (own_wi c1), iv (own_wi c2), iv (own_wi c3), iv (Int32.ofNat ss), iv (3 : Int32), .unset]) rfl k_) ?_
    refine own_stW (T' := T0) (g' := (mkF m 270 #[iv p0, iv p1, iv p2, iv p3, iv p4, iv (3 : Int32), iv c0, iv c1, iv c2, iv c3, rv va, rv r, iv (own_wi c0), iv (own_wi c1), iv (own_wi c2), iv (own_wi c3), iv (Int32.ofNat ss), iv (3 : Int32), .unset] [])) (fun _ k_ => XS.goto X0.here hx rfl (pc0 := 231) (pc' := 270) rfl (hb hby at_231) (by decide) (by decide) k_) ?_
    exact seg_g3 h0 hB n0 p0 p1 p2 p3 p4 c0 c1 c2 c3 va kc r u ku ss _ cz fm X0 hx hZs hZ hS0 hk0 CR0 hw hby hml howns hown hnm hret hlk e0 N0 O0 hr0 hr1 hr2 hr3 VA E_r V_r C_r A_r hs (fun _ => by rw [own_ieE ([c0, c1, c2] : List Int32) 2 (Nat.le_of_ble_eq_true rfl) (own_wiF hc1) (fun j a b => by have b' : j < 3 := b; exfalso; omega)]; rfl) SC hcz SF hfm
  · refine own_stW (T' := T0) (g' := (mkF m 234 #[iv p0, iv p1, iv p2, iv p3, iv p4, iv (3 : Int32), iv c0, iv c1, iv c2, iv c3, rv va, rv r, iv (own_wi c0), iv (own_wi c1), iv (own_wi c2), iv (own_wi c3), iv (Int32.ofNat ss), .unset, .unset] [])) (fun _ k_ => XS.ifYes X0.here hx rfl (pc0 := 225) (pc' := 234) rfl (hb hby at_225) rfl ((if0 _ _).trans (feq hc1).2) (by decide) (by decide) k_) ?_
    refine own_stW (T' := T0) (g' := (mkF m 236 #[iv p0, iv p1, iv p2, iv p3, iv p4, iv (3 : Int32), iv c0, iv c1, iv c2, iv c3, rv va, rv r, iv (own_wi c0), iv (own_wi c1), iv (own_wi c2), iv (own_wi c3), iv (Int32.ofNat ss), .unset, .unset] [(.int (3 : Int32))])) (fun _ k_ => XS.iload X0.here hx rfl (hb hby at_234) rfl  k_) ?_
    refine own_stW (T' := T0) (g' := (mkF m 237 #[iv p0, iv p1, iv p2, iv p3, iv p4, iv (3 : Int32), iv c0, iv c1, iv c2, iv c3, rv va, rv r, iv (own_wi c0), iv (own_wi c1), iv (own_wi c2), iv (own_wi c3), iv (Int32.ofNat ss), .unset, .unset] [(.int (1 : Int32)), (.int (3 : Int32))])) (fun _ k_ => XS.iconst X0.here hx rfl (hb hby at_236) k_) ?_
    refine own_stW (T' := T0) (g' := (mkF m 240 #[iv p0, iv p1, iv p2, iv p3, iv p4, iv (3 : Int32), iv c0, iv c1, iv c2, iv c3, rv va, rv r, iv (own_wi c0), iv (own_wi c1), iv (own_wi c2), iv (own_wi c3), iv (Int32.ofNat ss), .unset, .unset] [])) (fun _ k_ => XS.icmpNo X0.here hx rfl (hb hby at_237) rfl (tlt (by decide : (1 : Int32) < (3 : Int32))).2.2.2 k_) ?_
    refine own_stW (T' := T0) (g' := (mkF m 242 #[iv p0, iv p1, iv p2, iv p3, iv p4, iv (3 : Int32), iv c0, iv c1, iv c2, iv c3, rv va, rv r, iv (own_wi c0), iv (own_wi c1), iv (own_wi c2), iv (own_wi c3), iv (Int32.ofNat ss), .unset, .unset] [(.int (own_wi c1))])) (fun _ k_ => XS.iload X0.here hx rfl (hb hby at_240) rfl  k_) ?_
    by_cases hc2 : (own_wi c1) = (0 : Int32)
    · refine own_stW (T' := T0) (g' := (mkF m 245 #[iv p0, iv p1, iv p2, iv p3, iv p4, iv (3 : Int32), iv c0, iv c1, iv c2, iv c3, rv va, rv r, iv (own_wi c0), iv (own_wi c1), iv (own_wi c2), iv (own_wi c3), iv (Int32.ofNat ss), .unset, .unset] [])) (fun _ k_ => XS.ifNo X0.here hx rfl (hb hby at_242) rfl ((if0 _ _).trans (teq hc2).2) k_) ?_
      refine own_stW (T' := T0) (g' := (mkF m 246 #[iv p0, iv p1, iv p2, iv p3, iv p4, iv (3 : Int32), iv c0, iv c1, iv c2, iv c3, rv va, rv r, iv (own_wi c0), iv (own_wi c1), iv (own_wi c2), iv (own_wi c3), iv (Int32.ofNat ss), .unset, .unset] [(.int (2 : Int32))])) (fun _ k_ => XS.iconst X0.here hx rfl (hb hby at_245) k_) ?_
      refine own_stW (T' := T0) (g' := (mkF m 248 #[iv p0, iv p1, iv p2, iv p3, iv p4, iv (3 : Int32), iv c0, iv c1, iv c2, iv c3, rv va, rv r, iv (own_wi c0), iv (own_wi c1), iv (own_wi c2), iv (own_wi c3), iv (Int32.ofNat ss), iv (2 : Int32), .unset] [])) (fun _ k_ => XS.istore X0.here hx rfl (hb hby at_246) rfl (l' := #[iv p0, iv p1, iv p2, iv p3, iv p4, iv (3 : Int32), iv c0, iv c1, iv c2, iv c3, rv va, rv r, iv (own_wi c0), iv (own_wi c1), iv (own_wi c2), iv (own_wi c3), iv (Int32.ofNat ss), iv (2 : Int32), .unset]) rfl k_) ?_
      refine own_stW (T' := T0) (g' := (mkF m 270 #[iv p0, iv p1, iv p2, iv p3, iv p4, iv (3 : Int32), iv c0, iv c1, iv c2, iv c3, rv va, rv r, iv (own_wi c0), iv (own_wi c1), iv (own_wi c2), iv (own_wi c3), iv (Int32.ofNat ss), iv (2 : Int32), .unset] [])) (fun _ k_ => XS.goto X0.here hx rfl (pc0 := 248) (pc' := 270) rfl (hb hby at_248) (by decide) (by decide) k_) ?_
      exact seg_g3 h0 hB n0 p0 p1 p2 p3 p4 c0 c1 c2 c3 va kc r u ku ss _ cz fm X0 hx hZs hZ hS0 hk0 CR0 hw hby hml howns hown hnm hret hlk e0 N0 O0 hr0 hr1 hr2 hr3 VA E_r V_r C_r A_r hs (fun _ => by rw [own_ieE ([c0, c1, c2] : List Int32) 1 (Nat.le_of_ble_eq_true rfl) (own_wiF hc2) (fun j a b => by have b' : j < 3 := b; obtain rfl : j = 2 := (by omega); exact own_wiT hc1)]; rfl) SC hcz SF hfm
    · refine own_stW (T' := T0) (g' := (mkF m 251 #[iv p0, iv p1, iv p2, iv p3, iv p4, iv (3 : Int32), iv c0, iv c1, iv c2, iv c3, rv va, rv r, iv (own_wi c0), iv (own_wi c1), iv (own_wi c2), iv (own_wi c3), iv (Int32.ofNat ss), .unset, .unset] [])) (fun _ k_ => XS.ifYes X0.here hx rfl (pc0 := 242) (pc' := 251) rfl (hb hby at_242) rfl ((if0 _ _).trans (feq hc2).2) (by decide) (by decide) k_) ?_
      refine own_stW (T' := T0) (g' := (mkF m 253 #[iv p0, iv p1, iv p2, iv p3, iv p4, iv (3 : Int32), iv c0, iv c1, iv c2, iv c3, rv va, rv r, iv (own_wi c0), iv (own_wi c1), iv (own_wi c2), iv (own_wi c3), iv (Int32.ofNat ss), .unset, .unset] [(.int (3 : Int32))])) (fun _ k_ => XS.iload X0.here hx rfl (hb hby at_251) rfl  k_) ?_
      refine own_stW (T' := T0) (g' := (mkF m 256 #[iv p0, iv p1, iv p2, iv p3, iv p4, iv (3 : Int32), iv c0, iv c1, iv c2, iv c3, rv va, rv r, iv (own_wi c0), iv (own_wi c1), iv (own_wi c2), iv (own_wi c3), iv (Int32.ofNat ss), .unset, .unset] [])) (fun _ k_ => XS.ifNo X0.here hx rfl (hb hby at_253) rfl ((if0 _ _).trans (tlt (by decide : (0 : Int32) < (3 : Int32))).2.2.2) k_) ?_
      refine own_stW (T' := T0) (g' := (mkF m 258 #[iv p0, iv p1, iv p2, iv p3, iv p4, iv (3 : Int32), iv c0, iv c1, iv c2, iv c3, rv va, rv r, iv (own_wi c0), iv (own_wi c1), iv (own_wi c2), iv (own_wi c3), iv (Int32.ofNat ss), .unset, .unset] [(.int (own_wi c0))])) (fun _ k_ => XS.iload X0.here hx rfl (hb hby at_256) rfl  k_) ?_
      by_cases hc3 : (own_wi c0) = (0 : Int32)
      · refine own_stW (T' := T0) (g' := (mkF m 261 #[iv p0, iv p1, iv p2, iv p3, iv p4, iv (3 : Int32), iv c0, iv c1, iv c2, iv c3, rv va, rv r, iv (own_wi c0), iv (own_wi c1), iv (own_wi c2), iv (own_wi c3), iv (Int32.ofNat ss), .unset, .unset] [])) (fun _ k_ => XS.ifNo X0.here hx rfl (hb hby at_258) rfl ((if0 _ _).trans (teq hc3).2) k_) ?_
        refine own_stW (T' := T0) (g' := (mkF m 262 #[iv p0, iv p1, iv p2, iv p3, iv p4, iv (3 : Int32), iv c0, iv c1, iv c2, iv c3, rv va, rv r, iv (own_wi c0), iv (own_wi c1), iv (own_wi c2), iv (own_wi c3), iv (Int32.ofNat ss), .unset, .unset] [(.int (1 : Int32))])) (fun _ k_ => XS.iconst X0.here hx rfl (hb hby at_261) k_) ?_
        refine own_stW (T' := T0) (g' := (mkF m 264 #[iv p0, iv p1, iv p2, iv p3, iv p4, iv (3 : Int32), iv c0, iv c1, iv c2, iv c3, rv va, rv r, iv (own_wi c0), iv (own_wi c1), iv (own_wi c2), iv (own_wi c3), iv (Int32.ofNat ss), iv (1 : Int32), .unset] [])) (fun _ k_ => XS.istore X0.here hx rfl (hb hby at_262) rfl (l' := #[iv p0, iv p1, iv p2, iv p3, iv p4, iv (3 : Int32), iv c0, iv c1, iv c2, iv c3, rv va, rv r, iv (own_wi c0), iv (own_wi c1), iv (own_wi c2), iv (own_wi c3), iv (Int32.ofNat ss), iv (1 : Int32), .unset]) rfl k_) ?_
        refine own_stW (T' := T0) (g' := (mkF m 270 #[iv p0, iv p1, iv p2, iv p3, iv p4, iv (3 : Int32), iv c0, iv c1, iv c2, iv c3, rv va, rv r, iv (own_wi c0), iv (own_wi c1), iv (own_wi c2), iv (own_wi c3), iv (Int32.ofNat ss), iv (1 : Int32), .unset] [])) (fun _ k_ => XS.goto X0.here hx rfl (pc0 := 264) (pc' := 270) rfl (hb hby at_264) (by decide) (by decide) k_) ?_
        exact seg_g3 h0 hB n0 p0 p1 p2 p3 p4 c0 c1 c2 c3 va kc r u ku ss _ cz fm X0 hx hZs hZ hS0 hk0 CR0 hw hby hml howns hown hnm hret hlk e0 N0 O0 hr0 hr1 hr2 hr3 VA E_r V_r C_r A_r hs (fun _ => by rw [own_ieE ([c0, c1, c2] : List Int32) 0 (Nat.le_of_ble_eq_true rfl) (own_wiF hc3) (fun j a b => by have b' : j < 3 := b; rcases (show j = 1 ∨ j = 2 by omega) with rfl | rfl <;> first | exact own_wiT hc2 | exact own_wiT hc1)]; rfl) SC hcz SF hfm
      · refine own_stW (T' := T0) (g' := (mkF m 267 #[iv p0, iv p1, iv p2, iv p3, iv p4, iv (3 : Int32), iv c0, iv c1, iv c2, iv c3, rv va, rv r, iv (own_wi c0), iv (own_wi c1), iv (own_wi c2), iv (own_wi c3), iv (Int32.ofNat ss), .unset, .unset] [])) (fun _ k_ => XS.ifYes X0.here hx rfl (pc0 := 258) (pc' := 267) rfl (hb hby at_258) rfl ((if0 _ _).trans (feq hc3).2) (by decide) (by decide) k_) ?_
        refine own_stW (T' := T0) (g' := (mkF m 268 #[iv p0, iv p1, iv p2, iv p3, iv p4, iv (3 : Int32), iv c0, iv c1, iv c2, iv c3, rv va, rv r, iv (own_wi c0), iv (own_wi c1), iv (own_wi c2), iv (own_wi c3), iv (Int32.ofNat ss), .unset, .unset] [(.int (0 : Int32))])) (fun _ k_ => XS.iconst X0.here hx rfl (hb hby at_267) k_) ?_
        refine own_stW (T' := T0) (g' := (mkF m 270 #[iv p0, iv p1, iv p2, iv p3, iv p4, iv (3 : Int32), iv c0, iv c1, iv c2, iv c3, rv va, rv r, iv (own_wi c0), iv (own_wi c1), iv (own_wi c2), iv (own_wi c3), iv (Int32.ofNat ss), iv (0 : Int32), .unset] [])) (fun _ k_ => XS.istore X0.here hx rfl (hb hby at_268) rfl (l' := #[iv p0, iv p1, iv p2, iv p3, iv p4, iv (3 : Int32), iv c0, iv c1, iv c2, iv c3, rv va, rv r, iv (own_wi c0), iv (own_wi c1), iv (own_wi c2), iv (own_wi c3), iv (Int32.ofNat ss), iv (0 : Int32), .unset]) rfl k_) ?_
        exact seg_g3 h0 hB n0 p0 p1 p2 p3 p4 c0 c1 c2 c3 va kc r u ku ss _ cz fm X0 hx hZs hZ hS0 hk0 CR0 hw hby hml howns hown hnm hret hlk e0 N0 O0 hr0 hr1 hr2 hr3 VA E_r V_r C_r A_r hs (fun q => by have z : (own_is ([c0, c1, c2] : List Int32)) = 3 := (by simp [own_is, own_wiT hc3, own_wiT hc2, own_wiT hc1]); omega) SC hcz SF hfm
set_option maxRecDepth 65536 in
set_option maxHeartbeats 40000000 in
theorem seg_a3 {p : Program} {l : Launch} {e : Env} {s : State} {m : MethodId} {args : Array Value} {below : List Frame} {meth : Method} {c : Code} {T0 : State} {locs : List Loc} {Z : State} {a0 : Array Value} {vm0 : Vm} {k0 : Nat} (h0 : Heap) (hB : Heap) (n0 : Nat) (p0 : Int32) (p1 : Int32) (p2 : Int32) (p3 : Int32) (p4 : Int32) (c0 : Int32) (c1 : Int32) (c2 : Int32) (c3 : Int32) (cz : Int32) (fm : Value)
    (X0 : Stand p l e room_1 (s.setVm vm0) m args below meth c T0 locs 0 0) (hx : p.tables.exec = Jvm.exec) (hZs : Z.Warmed39 s.vm) (hZ : Z.Warmed39 (s.setVm vm0).vm) (hS0 : s.Since vm0 k0) (hk0 : k0 ≤ hB.size) (CR0 : CHr Z consts_1 s.vm h0 vm0 hB) (hw : ∀ d ∈ tables_1, d.before a0 Z = true) (hby : c.code = code) (hml : c.maxLocals = 19) (howns : s.vm.findClass "com/example/sheafgate/sheafgate/http/RequestFieldsStripPinLaw" = some m.cls) (hown : (s.setVm vm0).vm.findClass "com/example/sheafgate/sheafgate/http/RequestFieldsStripPinLaw" = some m.cls) (hnm : meth.name = "law") (hret : meth.sig.returnType = some .boolean) (hlk : meth.locks = false) (e0 : T0.heap = hB) (N0 : Fr n0 locs) (O0 : Old Z n0 hB) (hr0 : ¬ c0 < 0 ∧ ¬ (255 : Int32) < c0) (hr1 : ¬ c1 < 0 ∧ ¬ (255 : Int32) < c1) (hr2 : ¬ c2 < 0 ∧ ¬ (255 : Int32) < c2) (hr3 : ¬ c3 < 0 ∧ ¬ (255 : Int32) < c3) (SC : Sta Z Z.heap "java/lang/String" "COMPACT_STRINGS" "Z" (.int cz)) (hcz : ¬ cz = (0 : Int32)) (SF : Sta Z Z.heap "jdk/internal/util/Preconditions" "SIOOBE_FORMATTER" "Ljava/util/function/BiFunction;" fm) (hfm : fm.isRef = true) :
    own_W p e below s room_1.cells room_1.slots Z consts_1 h0 (own_L n0) T0 (mkF m 33 #[iv p0, iv p1, iv p2, iv p3, iv p4, iv (3 : Int32), iv c0, iv c1, iv c2, iv c3, .unset, .unset, .unset, .unset, .unset, .unset, .unset, .unset, .unset] []) := by
  have hEL := own_EW hw
  refine own_stW (T' := T0) (g' := (mkF m 35 #[iv p0, iv p1, iv p2, iv p3, iv p4, iv (3 : Int32), iv c0, iv c1, iv c2, iv c3, .unset, .unset, .unset, .unset, .unset, .unset, .unset, .unset, .unset] [(.int (3 : Int32))])) (fun _ k_ => XS.iload X0.here hx rfl (hb hby at_33) rfl  k_) ?_
  obtain ⟨_, T1, L1, X1, hQ1, st1⟩ := own_callS X0 hx (y := own_m24) hown (mvT hZ (wd hw 5 rfl)) (mvT hZ (wd hw 6 rfl)) (mvT hZ (wd hw 3 rfl)) (mvT hZ (wd hw 7 rfl)) (by decide) (backOf (W := 0) (rm_make3 l Z a0 hw []  hB n0 O0) hZ (wd hw 7 rfl) (wd hw 3 rfl) (by decide) (by decide)) (g := (mkF m 35 #[iv p0, iv p1, iv p2, iv p3, iv p4, iv (3 : Int32), iv c0, iv c1, iv c2, iv c3, .unset, .unset, .unset, .unset, .unset, .unset, .unset, .unset, .unset] [(.int (3 : Int32))])) rfl (by rw [hml]; rfl) (argsL := [(.int (3 : Int32))]) (rest := []) (lenOf pd__I__C rfl) rfl (by show 2 * 0 + _ ≤ _; exact Nat.le_of_eq rfl) (hb hby at_35) rfl e0 (by decide) (by decide) (c' := 1) (s' := 4) rfl rfl
  obtain ⟨va1, kc1, rfl, Nq1, K1, fq1_0, xq1_fresh_va⟩ := hQ1
  have N1 := Fr.app N0 Nq1
  have CR2 : CHr Z consts_1 s.vm h0 vm0 T1.heap := CR0.trans (CHr.keep K1 sf0 CR0.1)
  refine own_stW (T' := T1) (g' := (mkF m 38 #[iv p0, iv p1, iv p2, iv p3, iv p4, iv (3 : Int32), iv c0, iv c1, iv c2, iv c3, .unset, .unset, .unset, .unset, .unset, .unset, .unset, .unset, .unset] [(.ref va1)])) st1 ?_
  clear st1
  refine own_stW (T' := T1) (g' := (mkF m 40 #[iv p0, iv p1, iv p2, iv p3, iv p4, iv (3 : Int32), iv c0, iv c1, iv c2, iv c3, rv va1, .unset, .unset, .unset, .unset, .unset, .unset, .unset, .unset] [])) (fun _ k_ => XS.astore X1.here hx rfl (hb hby at_38) rfl rfl (l' := #[iv p0, iv p1, iv p2, iv p3, iv p4, iv (3 : Int32), iv c0, iv c1, iv c2, iv c3, rv va1, .unset, .unset, .unset, .unset, .unset, .unset, .unset, .unset]) rfl k_) ?_
  refine own_stW (T' := T1) (g' := (mkF m 42 #[iv p0, iv p1, iv p2, iv p3, iv p4, iv (3 : Int32), iv c0, iv c1, iv c2, iv c3, rv va1, .unset, .unset, .unset, .unset, .unset, .unset, .unset, .unset] [(.int (3 : Int32))])) (fun _ k_ => XS.iload X1.here hx rfl (hb hby at_40) rfl  k_) ?_
  refine own_stW (T' := T1) (g' := (mkF m 45 #[iv p0, iv p1, iv p2, iv p3, iv p4, iv (3 : Int32), iv c0, iv c1, iv c2, iv c3, rv va1, .unset, .unset, .unset, .unset, .unset, .unset, .unset, .unset] [])) (fun _ k_ => XS.ifNo X1.here hx rfl (hb hby at_42) rfl ((if0 _ _).trans (tlt (by decide : (0 : Int32) < (3 : Int32))).2.2.2) k_) ?_
  refine own_stW (T' := T1) (g' := (mkF m 47 #[iv p0, iv p1, iv p2, iv p3, iv p4, iv (3 : Int32), iv c0, iv c1, iv c2, iv c3, rv va1, .unset, .unset, .unset, .unset, .unset, .unset, .unset, .unset] [(.ref va1)])) (fun _ k_ => XS.aload X1.here hx rfl (hb hby at_45) rfl rfl  k_) ?_
  refine own_stW (T' := T1) (g' := (mkF m 48 #[iv p0, iv p1, iv p2, iv p3, iv p4, iv (3 : Int32), iv c0, iv c1, iv c2, iv c3, rv va1, .unset, .unset, .unset, .unset, .unset, .unset, .unset, .unset] [(.int (0 : Int32)), (.ref va1)])) (fun _ k_ => XS.iconst X1.here hx rfl (hb hby at_47) k_) ?_
  refine own_stW (T' := T1) (g' := (mkF m 50 #[iv p0, iv p1, iv p2, iv p3, iv p4, iv (3 : Int32), iv c0, iv c1, iv c2, iv c3, rv va1, .unset, .unset, .unset, .unset, .unset, .unset, .unset, .unset] [(.int c0), (.int (0 : Int32)), (.ref va1)])) (fun _ k_ => XS.iload X1.here hx rfl (hb hby at_48) rfl  k_) ?_
  obtain ⟨cl3, Ar3, q3, S3, N3, H3, G3⟩ := id fq1_0
  have hin3 : ¬ ((0 : Int32) < 0 ∨ cl3.slots.size ≤ ((0 : Int32)).toNatClampNeg) := inb_of S3 ⟨by decide, by decide⟩
  obtain ⟨T4, h4, X4, e4, W4, st4⟩ := stC X1 hx hZ rfl Ar3 (j := (0 : Int32)) hin3 (g := (mkF m 50 #[iv p0, iv p1, iv p2, iv p3, iv p4, iv (3 : Int32), iv c0, iv c1, iv c2, iv c3, rv va1, .unset, .unset, .unset, .unset, .unset, .unset, .unset, .unset] [(.int c0), (.int (0 : Int32)), (.ref va1)])) rfl rfl (hb hby at_50)
  have CR5 : CHr Z consts_1 s.vm h0 vm0 h4 := CR2.trans (CHr.wr W4 (Safe.arv hZ.alike fq1_0 (by decide)) CR2.1)
  have V4 : Arv Z h4 va1 kc1 .char (3 : Int32) [(.int (nar .char c0)), (.int (0 : Int32)), (.int (0 : Int32))] (.int (0 : Int32)) := Arv.set Ar3 q3 S3 N3 H3 G3 (fits_nar_char _) W4 0 rfl (Nat.le_of_ble_eq_true rfl)
  have Vn4 : Arv Z h4 va1 kc1 .char (3 : Int32) [(.int c0), (.int (0 : Int32)), (.int (0 : Int32))] (.int (0 : Int32)) := by simpa only [own_nch hr0] using V4
  have Nx4 := Fr.snoc X4 N1 (Nat.le_trans (own_z O0) xq1_fresh_va)
  refine own_stW (T' := T4) (g' := (mkF m 51 #[iv p0, iv p1, iv p2, iv p3, iv p4, iv (3 : Int32), iv c0, iv c1, iv c2, iv c3, rv va1, .unset, .unset, .unset, .unset, .unset, .unset, .unset, .unset] [])) st4 ?_
  clear hin3 G3 H3 N3 S3 q3 Ar3 cl3 st4
  refine own_stW (T' := T4) (g' := (mkF m 53 #[iv p0, iv p1, iv p2, iv p3, iv p4, iv (3 : Int32), iv c0, iv c1, iv c2, iv c3, rv va1, .unset, .unset, .unset, .unset, .unset, .unset, .unset, .unset] [(.int (3 : Int32))])) (fun _ k_ => XS.iload X4.here hx rfl (hb hby at_51) rfl  k_) ?_
  refine own_stW (T' := T4) (g' := (mkF m 54 #[iv p0, iv p1, iv p2, iv p3, iv p4, iv (3 : Int32), iv c0, iv c1, iv c2, iv c3, rv va1, .unset, .unset, .unset, .unset, .unset, .unset, .unset, .unset] [(.int (1 : Int32)), (.int (3 : Int32))])) (fun _ k_ => XS.iconst X4.here hx rfl (hb hby at_53) k_) ?_
  refine own_stW (T' := T4) (g' := (mkF m 57 #[iv p0, iv p1, iv p2, iv p3, iv p4, iv (3 : Int32), iv c0, iv c1, iv c2, iv c3, rv va1, .unset, .unset, .unset, .unset, .unset, .unset, .unset, .unset] [])) (fun _ k_ => XS.icmpNo X4.here hx rfl (hb hby at_54) rfl (tlt (by decide : (1 : Int32) < (3 : Int32))).2.2.2 k_) ?_
  refine own_stW (T' := T4) (g' := (mkF m 59 #[iv p0, iv p1, iv p2, iv p3, iv p4, iv (3 : Int32), iv c0, iv c1, iv c2, iv c3, rv va1, .unset, .unset, .unset, .unset, .unset, .unset, .unset, .unset] [(.ref va1)])) (fun _ k_ => XS.aload X4.here hx rfl (hb hby at_57) rfl rfl  k_) ?_
  refine own_stW (T' := T4) (g' := (mkF m 60 #[iv p0, iv p1, iv p2, iv p3, iv p4, iv (3 : Int32), iv c0, iv c1, iv c2, iv c3, rv va1, .unset, .unset, .unset, .unset, .unset, .unset, .unset, .unset] [(.int (1 : Int32)), (.ref va1)])) (fun _ k_ => XS.iconst X4.here hx rfl (hb hby at_59) k_) ?_
  refine own_stW (T' := T4) (g' := (mkF m 62 #[iv p0, iv p1, iv p2, iv p3, iv p4, iv (3 : Int32), iv c0, iv c1, iv c2, iv c3, rv va1, .unset, .unset, .unset, .unset, .unset, .unset, .unset, .unset] [(.int c1), (.int (1 : Int32)), (.ref va1)])) (fun _ k_ => XS.iload X4.here hx rfl (hb hby at_60) rfl  k_) ?_
  obtain ⟨cl6, Ar6, q6, S6, N6, H6, G6⟩ := id Vn4
  have hin6 : ¬ ((1 : Int32) < 0 ∨ cl6.slots.size ≤ ((1 : Int32)).toNatClampNeg) := inb_of S6 ⟨by decide, by decide⟩
  obtain ⟨T7, h7, X7, e7, W7, st7⟩ := stC X4 hx hZ e4 Ar6 (j := (1 : Int32)) hin6 (g := (mkF m 62 #[iv p0, iv p1, iv p2, iv p3, iv p4, iv (3 : Int32), iv c0, iv c1, iv c2, iv c3, rv va1, .unset, .unset, .unset, .unset, .unset, .unset, .unset, .unset] [(.int c1), (.int (1 : Int32)), (.ref va1)])) rfl rfl (hb hby at_62)
  have CR8 : CHr Z consts_1 s.vm h0 vm0 h7 := CR5.trans (CHr.wr W7 (Safe.arv hZ.alike Vn4 (by decide)) CR5.1)
  have V7 : Arv Z h7 va1 kc1 .char (3 : Int32) [(.int c0), (.int (nar .char c1)), (.int (0 : Int32))] (.int (0 : Int32)) := Arv.set Ar6 q6 S6 N6 H6 G6 (fits_nar_char _) W7 1 rfl (Nat.le_of_ble_eq_true rfl)
  have Vn7 : Arv Z h7 va1 kc1 .char (3 : Int32) [(.int c0), (.int c1), (.int (0 : Int32))] (.int (0 : Int32)) := by simpa only [own_nch hr1] using V7
  have Nx7 := Fr.snoc X7 Nx4 (Nat.le_trans (own_z O0) xq1_fresh_va)
  refine own_stW (T' := T7) (g' := (mkF m 63 #[iv p0, iv p1, iv p2, iv p3, iv p4, iv (3 : Int32), iv c0, iv c1, iv c2, iv c3, rv va1, .unset, .unset, .unset, .unset, .unset, .unset, .unset, .unset] [])) st7 ?_
  clear hin6 G6 H6 N6 S6 q6 Ar6 cl6 st7
  refine own_stW (T' := T7) (g' := (mkF m 65 #[iv p0, iv p1, iv p2, iv p3, iv p4, iv (3 : Int32), iv c0, iv c1, iv c2, iv c3, rv va1, .unset, .unset, .unset, .unset, .unset, .unset, .unset, .unset] [(.int (3 : Int32))])) (fun _ k_ => XS.iload X7.here hx rfl (hb hby at_63) rfl  k_) ?_
  refine own_stW (T' := T7) (g' := (mkF m 66 #[iv p0, iv p1, iv p2, iv p3, iv p4, iv (3 : Int32), iv c0, iv c1, iv c2, iv c3, rv va1, .unset, .unset, .unset, .unset, .unset, .unset, .unset, .unset] [(.int (2 : Int32)), (.int (3 : Int32))])) (fun _ k_ => XS.iconst X7.here hx rfl (hb hby at_65) k_) ?_
  refine own_stW (T' := T7) (g' := (mkF m 69 #[iv p0, iv p1, iv p2, iv p3, iv p4, iv (3 : Int32), iv c0, iv c1, iv c2, iv c3, rv va1, .unset, .unset, .unset, .unset, .unset, .unset, .unset, .unset] [])) (fun _ k_ => XS.icmpNo X7.here hx rfl (hb hby at_66) rfl (tlt (by decide : (2 : Int32) < (3 : Int32))).2.2.2 k_) ?_
  refine own_stW (T' := T7) (g' := (mkF m 71 #[iv p0, iv p1, iv p2, iv p3, iv p4, iv (3 : Int32), iv c0, iv c1, iv c2, iv c3, rv va1, .unset, .unset, .unset, .unset, .unset, .unset, .unset, .unset] [(.ref va1)])) (fun _ k_ => XS.aload X7.here hx rfl (hb hby at_69) rfl rfl  k_) ?_
  refine own_stW (T' := T7) (g' := (mkF m 72 #[iv p0, iv p1, iv p2, iv p3, iv p4, iv (3 : Int32), iv c0, iv c1, iv c2, iv c3, rv va1, .unset, .unset, .unset, .unset, .unset, .unset, .unset, .unset] [(.int (2 : Int32)), (.ref va1)])) (fun _ k_ => XS.iconst X7.here hx rfl (hb hby at_71) k_) ?_
  refine own_stW (T' := T7) (g' := (mkF m 74 #[iv p0, iv p1, iv p2, iv p3, iv p4, iv (3 : Int32), iv c0, iv c1, iv c2, iv c3, rv va1, .unset, .unset, .unset, .unset, .unset, .unset, .unset, .unset] [(.int c2), (.int (2 : Int32)), (.ref va1)])) (fun _ k_ => XS.iload X7.here hx rfl (hb hby at_72) rfl  k_) ?_
  obtain ⟨cl9, Ar9, q9, S9, N9, H9, G9⟩ := id Vn7
  have hin9 : ¬ ((2 : Int32) < 0 ∨ cl9.slots.size ≤ ((2 : Int32)).toNatClampNeg) := inb_of S9 ⟨by decide, by decide⟩
  obtain ⟨T10, h10, X10, e10, W10, st10⟩ := stC X7 hx hZ e7 Ar9 (j := (2 : Int32)) hin9 (g := (mkF m 74 #[iv p0, iv p1, iv p2, iv p3, iv p4, iv (3 : Int32), iv c0, iv c1, iv c2, iv c3, rv va1, .unset, .unset, .unset, .unset, .unset, .unset, .unset, .unset] [(.int c2), (.int (2 : Int32)), (.ref va1)])) rfl rfl (hb hby at_74)
  have CR11 : CHr Z consts_1 s.vm h0 vm0 h10 := CR8.trans (CHr.wr W10 (Safe.arv hZ.alike Vn7 (by decide)) CR8.1)
  have V10 : Arv Z h10 va1 kc1 .char (3 : Int32) [(.int c0), (.int c1), (.int (nar .char c2))] (.int (0 : Int32)) := Arv.set Ar9 q9 S9 N9 H9 G9 (fits_nar_char _) W10 2 rfl (Nat.le_of_ble_eq_true rfl)
  have Vn10 : Arv Z h10 va1 kc1 .char (3 : Int32) [(.int c0), (.int c1), (.int c2)] (.int (0 : Int32)) := by simpa only [own_nch hr2] using V10
  have Nx10 := Fr.snoc X10 Nx7 (Nat.le_trans (own_z O0) xq1_fresh_va)
  refine own_stW (T' := T10) (g' := (mkF m 75 #[iv p0, iv p1, iv p2, iv p3, iv p4, iv (3 : Int32), iv c0, iv c1, iv c2, iv c3, rv va1, .unset, .unset, .unset, .unset, .unset, .unset, .unset, .unset] [])) st10 ?_
  clear hin9 G9 H9 N9 S9 q9 Ar9 cl9 st10
  refine own_stW (T' := T10) (g' := (mkF m 77 #[iv p0, iv p1, iv p2, iv p3, iv p4, iv (3 : Int32), iv c0, iv c1, iv c2, iv c3, rv va1, .unset, .unset, .unset, .unset, .unset, .unset, .unset, .unset] [(.int (3 : Int32))])) (fun _ k_ => XS.iload X10.here hx rfl (hb hby at_75) rfl  k_) ?_
  refine own_stW (T' := T10) (g' := (mkF m 78 #[iv p0, iv p1, iv p2, iv p3, iv p4, iv (3 : Int32), iv c0, iv c1, iv c2, iv c3, rv va1, .unset, .unset, .unset, .unset, .unset, .unset, .unset, .unset] [(.int (3 : Int32)), (.int (3 : Int32))])) (fun _ k_ => XS.iconst X10.here hx rfl (hb hby at_77) k_) ?_
  refine own_stW (T' := T10) (g' := (mkF m 87 #[iv p0, iv p1, iv p2, iv p3, iv p4, iv (3 : Int32), iv c0, iv c1, iv c2, iv c3, rv va1, .unset, .unset, .unset, .unset, .unset, .unset, .unset, .unset] [])) (fun _ k_ => XS.icmpYes X10.here hx rfl (pc0 := 78) (pc' := 87) rfl (hb hby at_78) rfl (flt (by decide : ¬ ((3 : Int32) < (3 : Int32)))).2.2.2 (by decide) (by decide) k_) ?_
  have f12 : Old Z n0 T1.heap := O0.keep K1 all0
  have f13 : Old Z n0 h4 := f12.wr W4 (Nat.le_trans (own_z O0) xq1_fresh_va)
  have f14 : Old Z n0 h7 := f13.wr W7 (Nat.le_trans (own_z O0) xq1_fresh_va)
  have f15 : Old Z n0 h10 := f14.wr W10 (Nat.le_trans (own_z O0) xq1_fresh_va)
  obtain ⟨T16, h16, X16, e16, E16, A16, D16, -, st16⟩ := newO X10 hx hZ hown (wd hw 9 rfl) (wd hw 10 rfl) (wd hw 11 rfl) e10 (g := (mkF m 87 #[iv p0, iv p1, iv p2, iv p3, iv p4, iv (3 : Int32), iv c0, iv c1, iv c2, iv c3, rv va1, .unset, .unset, .unset, .unset, .unset, .unset, .unset, .unset] [])) rfl (hb hby at_87) (by decide) (by decide)
  obtain ⟨b16, g16⟩ : ∃ z, z = h10.size := ⟨_, rfl⟩
  rw [← g16] at A16 D16 st16
  have fr16 : n0 ≤ b16 := Nat.le_trans (own_z f15) (Nat.le_of_eq g16.symm)
  have CR17 : CHr Z consts_1 s.vm h0 vm0 h16 := CR11.trans (CHr.ext E16 CR11.1)
  have sf18 : Safe Z consts_1 vm0 h16 b16 := Safe.ext E16 CR11.1 (Safe.new (Nat.le_of_eq g16.symm))
  have F16_value : Fld Z h16 b16 "java/lang/String" "value" "[B" .null := D16 (Or.inr (wd hw 24 rfl)) (ty := (.array .byte)) (by decide)
  have F16_coder : Fld Z h16 b16 "java/lang/String" "coder" "B" (.int (0 : Int32)) := D16 (Or.inr (wd hw 25 rfl)) (ty := .byte) (by decide)
  refine own_stW (T' := T16) (g' := (mkF m 90 #[iv p0, iv p1, iv p2, iv p3, iv p4, iv (3 : Int32), iv c0, iv c1, iv c2, iv c3, rv va1, .unset, .unset, .unset, .unset, .unset, .unset, .unset, .unset] [(.ref b16)])) st16 ?_
  clear st16
  refine own_stW (T' := T16) (g' := (mkF m 91 #[iv p0, iv p1, iv p2, iv p3, iv p4, iv (3 : Int32), iv c0, iv c1, iv c2, iv c3, rv va1, .unset, .unset, .unset, .unset, .unset, .unset, .unset, .unset] [(.ref b16), (.ref b16)])) (fun _ k_ => XS.dup X16.here hx rfl (hb hby at_90) rfl rfl k_) ?_
  refine own_stW (T' := T16) (g' := (mkF m 93 #[iv p0, iv p1, iv p2, iv p3, iv p4, iv (3 : Int32), iv c0, iv c1, iv c2, iv c3, rv va1, .unset, .unset, .unset, .unset, .unset, .unset, .unset, .unset] [(.ref va1), (.ref b16), (.ref b16)])) (fun _ k_ => XS.aload X16.here hx rfl (hb hby at_91) rfl rfl  k_) ?_
  have f19 : Arv Z h16 va1 kc1 .char (3 : Int32) [(.int c0), (.int c1), (.int c2)] (.int (0 : Int32)) := Vn10.ext E16
  have f20 : Old Z n0 h16 := f15.ext E16
  obtain ⟨_, T21, L21, X21, hQ21, st21⟩ := own_callI X16 hx (y := own_m18) rfl hown (mvT hZ (wd hw 12 rfl)) (mvT hZ (wd hw 13 rfl)) (mvT hZ (wd hw 14 rfl)) (by decide) (backOf (W := 1) (rm_ini1_3 l Z a0 hw [] b16 va1 kc1 cz c0 c1 c2 h16 n0 f20 A16 F16_value F16_coder fr16 f19 SC hcz hr0.2 hr1.2 hr2.2) hZ (wd hw 14 rfl) (wd hw 11 rfl) (by decide) (by decide)) (g := (mkF m 93 #[iv p0, iv p1, iv p2, iv p3, iv p4, iv (3 : Int32), iv c0, iv c1, iv c2, iv c3, rv va1, .unset, .unset, .unset, .unset, .unset, .unset, .unset, .unset] [(.ref va1), (.ref b16), (.ref b16)])) rfl (by rw [hml]; rfl) (a := b16) (argsL := [(.ref va1)]) (rest := [(.ref b16)]) (lenOf pd___C_V rfl) rfl (by show 2 * 0 + _ ≤ _; exact Nat.le_of_eq rfl) (hb hby at_93) rfl e16 (by decide) (by decide) (c' := 6) (s' := 16) rfl rfl
  obtain ⟨t21, kb21, rfl, Nq21, K21, fq21_0, fq21_1, fq21_2, fq21_3, xq21_fresh_t⟩ := hQ21
  have N21 := Fr.app Nx10 Nq21
  have CR22 : CHr Z consts_1 s.vm h0 vm0 T21.heap := CR17.trans (CHr.keep K21 (sfS sf18 sf0) CR17.1)
  have sf23 : Safe Z consts_1 vm0 T21.heap b16 := Safe.keep K21 (sfS sf18 sf0) CR17.1 sf18
  refine own_stW (T' := T21) (g' := (mkF m 96 #[iv p0, iv p1, iv p2, iv p3, iv p4, iv (3 : Int32), iv c0, iv c1, iv c2, iv c3, rv va1, .unset, .unset, .unset, .unset, .unset, .unset, .unset, .unset] [(.ref b16)])) st21 ?_
  clear st21
  have f24 : Old Z n0 T21.heap := f20.keep K21 (allS fr16 all0)
  obtain ⟨_, T25, L25, X25, hS25, hQ25, ch25, st25⟩ := own_callSW X21 hx (y := own_m16) hown (mvT hZ (wd hw 30 rfl)) (mvT hZ (wd hw 31 rfl)) (mvT hZ (wd hw 32 rfl)) (mvT hZ (wd hw 33 rfl)) (by decide) (own_backW (W := 0) (rm_strip l Z a0 hw [] b16 t21 kb21 ([c0, c1, c2] : List Int32) cz fm T21.heap n0 f24 fq21_0 fq21_2 fq21_1 fq21_3 (own_cRS hr0 (own_cRS hr1 (own_cRS hr2 own_cR0))) (Nat.le_of_ble_eq_true rfl) SC hcz SF hfm) hZ (wd hw 33 rfl) (wd hw 32 rfl) (by decide) (by decide) hEL CR22.1 sf0 all0) (g := (mkF m 96 #[iv p0, iv p1, iv p2, iv p3, iv p4, iv (3 : Int32), iv c0, iv c1, iv c2, iv c3, rv va1, .unset, .unset, .unset, .unset, .unset, .unset, .unset, .unset] [(.ref b16)])) rfl (by rw [hml]; rfl) (argsL := [(.ref b16)]) (rest := []) (lenOf pd__Ljava_lang_String__Ljava_lang_String_ rfl) rfl (by show 2 * 0 + _ ≤ _; exact Nat.le_of_eq rfl) (hb hby at_96) rfl rfl (by decide) (by decide) (c' := 8) (s' := 24) rfl rfl hS0 (Nat.le_trans (Nat.le_trans (Nat.le_trans (Nat.le_trans (Nat.le_trans (Nat.le_trans hk0 K1.1) (Nat.le_of_eq (Wr.size W4).symm)) (Nat.le_of_eq (Wr.size W7).symm)) (Nat.le_of_eq (Wr.size W10).symm)) E16.1) K21.1)
  obtain ⟨r25, u25, ku25, rfl, Nq25, K25, fq25_0, fq25_1, fq25_2, fq25_3⟩ := hQ25
  have N25 := Fr.app N21 Nq25
  have CR26 : CHr Z consts_1 s.vm h0 T25.vm T25.heap := CR22.trans ch25
  have sf27 : Safe Z consts_1 T25.vm T25.heap b16 := ch25.safe (Nat.lt_of_lt_of_le A16.lt K21.1) sf23
  have hZ25 : Z.Warmed39 (s.setVm T25.vm).vm := own_hZ hZs hS25
  have hown25 : (s.setVm T25.vm).vm.findClass "com/example/sheafgate/sheafgate/http/RequestFieldsStripPinLaw" = some m.cls := own_hown howns hS25
  refine own_stW (T' := T25) (g' := (mkF m 99 #[iv p0, iv p1, iv p2, iv p3, iv p4, iv (3 : Int32), iv c0, iv c1, iv c2, iv c3, rv va1, .unset, .unset, .unset, .unset, .unset, .unset, .unset, .unset] [(.ref r25)])) st25 ?_
  clear st25
  refine own_stW (T' := T25) (g' := (mkF m 101 #[iv p0, iv p1, iv p2, iv p3, iv p4, iv (3 : Int32), iv c0, iv c1, iv c2, iv c3, rv va1, rv r25, .unset, .unset, .unset, .unset, .unset, .unset, .unset] [])) (fun _ k_ => XS.astore X25.here hx rfl (hb hby at_99) rfl rfl (l' := #[iv p0, iv p1, iv p2, iv p3, iv p4, iv (3 : Int32), iv c0, iv c1, iv c2, iv c3, rv va1, rv r25, .unset, .unset, .unset, .unset, .unset, .unset, .unset]) rfl k_) ?_
  refine own_stW (T' := T25) (g' := (mkF m 103 #[iv p0, iv p1, iv p2, iv p3, iv p4, iv (3 : Int32), iv c0, iv c1, iv c2, iv c3, rv va1, rv r25, .unset, .unset, .unset, .unset, .unset, .unset, .unset] [(.int c0)])) (fun _ k_ => XS.iload X25.here hx rfl (hb hby at_101) rfl  k_) ?_
  have f28 : Old Z n0 T25.heap := f24.keep K25 all0
  obtain ⟨_, T29, L29, X29, hQ29, st29⟩ := own_callS X25 hx (y := own_m23) hown25 (mvT hZ25 (wd hw 59 rfl)) (mvT hZ25 (wd hw 60 rfl)) (mvT hZ25 (wd hw 3 rfl)) (mvT hZ25 (wd hw 61 rfl)) (by decide) (backOf (W := 0) (rm_ws l Z a0 hw [] c0 T25.heap n0 f28) hZ25 (wd hw 61 rfl) (wd hw 3 rfl) (by decide) (by decide)) (g := (mkF m 103 #[iv p0, iv p1, iv p2, iv p3, iv p4, iv (3 : Int32), iv c0, iv c1, iv c2, iv c3, rv va1, rv r25, .unset, .unset, .unset, .unset, .unset, .unset, .unset] [(.int c0)])) rfl (by rw [hml]; rfl) (argsL := [(.int c0)]) (rest := []) (lenOf pd__C_Z rfl) rfl (by show 2 * 0 + _ ≤ _; exact Nat.le_of_eq rfl) (hb hby at_103) rfl rfl (by decide) (by decide) (c' := 8) (s' := 24) rfl rfl
  obtain ⟨rfl, Nq29, eq29⟩ := hQ29
  have N29 := Fr.app N25 Nq29
  refine own_stW (T' := T29) (g' := (mkF m 106 #[iv p0, iv p1, iv p2, iv p3, iv p4, iv (3 : Int32), iv c0, iv c1, iv c2, iv c3, rv va1, rv r25, .unset, .unset, .unset, .unset, .unset, .unset, .unset] [(.int (own_wi c0))])) st29 ?_
  clear st29
  refine own_stW (T' := T29) (g' := (mkF m 108 #[iv p0, iv p1, iv p2, iv p3, iv p4, iv (3 : Int32), iv c0, iv c1, iv c2, iv c3, rv va1, rv r25, iv (own_wi c0), .unset, .unset, .unset, .unset, .unset, .unset] [])) (fun _ k_ => XS.istore X29.here hx rfl (hb hby at_106) rfl (l' := #[iv p0, iv p1, iv p2, iv p3, iv p4, iv (3 : Int32), iv c0, iv c1, iv c2, iv c3, rv va1, rv r25, iv (own_wi c0), .unset, .unset, .unset, .unset, .unset, .unset]) rfl k_) ?_
  refine own_stW (T' := T29) (g' := (mkF m 110 #[iv p0, iv p1, iv p2, iv p3, iv p4, iv (3 : Int32), iv c0, iv c1, iv c2, iv c3, rv va1, rv r25, iv (own_wi c0), .unset, .unset, .unset, .unset, .unset, .unset] [(.int c1)])) (fun _ k_ => XS.iload X29.here hx rfl (hb hby at_108) rfl  k_) ?_
  obtain ⟨_, T30, L30, X30, hQ30, st30⟩ := own_callS X29 hx (y := own_m23) hown25 (mvT hZ25 (wd hw 59 rfl)) (mvT hZ25 (wd hw 60 rfl)) (mvT hZ25 (wd hw 3 rfl)) (mvT hZ25 (wd hw 61 rfl)) (by decide) (backOf (W := 0) (rm_ws l Z a0 hw [] c1 T25.heap n0 f28) hZ25 (wd hw 61 rfl) (wd hw 3 rfl) (by decide) (by decide)) (g := (mkF m 110 #[iv p0, iv p1, iv p2, iv p3, iv p4, iv (3 : Int32), iv c0, iv c1, iv c2, iv c3, rv va1, rv r25, iv (own_wi c0), .unset, .unset, .unset, .unset, .unset, .unset] [(.int c1)])) rfl (by rw [hml]; rfl) (argsL := [(.int c1)]) (rest := []) (lenOf pd__C_Z rfl) rfl (by show 2 * 0 + _ ≤ _; exact Nat.le_of_eq rfl) (hb hby at_110) rfl eq29 (by decide) (by decide) (c' := 8) (s' := 24) rfl rfl
  obtain ⟨rfl, Nq30, eq30⟩ := hQ30
  have N30 := Fr.app N29 Nq30
  refine own_stW (T' := T30) (g' := (mkF m 113 #[iv p0, iv p1, iv p2, iv p3, iv p4, iv (3 : Int32), iv c0, iv c1, iv c2, iv c3, rv va1, rv r25, iv (own_wi c0), .unset, .unset, .unset, .unset, .unset, .unset] [(.int (own_wi c1))])) st30 ?_
  clear st30
  refine own_stW (T' := T30) (g' := (mkF m 115 #[iv p0, iv p1, iv p2, iv p3, iv p4, iv (3 : Int32), iv c0, iv c1, iv c2, iv c3, rv va1, rv r25, iv (own_wi c0), iv (own_wi c1), .unset, .unset, .unset, .unset, .unset] [])) (fun _ k_ => XS.istore X30.here hx rfl (hb hby at_113) rfl (l' := #[iv p0, iv p1, iv p2, iv p3, iv p4, iv (3 : Int32), iv c0, iv c1, iv c2, iv c3, rv va1, rv r25, iv (own_wi c0), iv (own_wi c1), .unset, .unset, .unset, .unset, .unset]) rfl k_) ?_
  refine own_stW (T' := T30) (g' := (mkF m 117 #[iv p0, iv p1, iv p2, iv p3, iv p4, iv (3 : Int32), iv c0, iv c1, iv c2, iv c3, rv va1, rv r25, iv (own_wi c0), iv (own_wi c1), .unset, .unset, .unset, .unset, .unset] [(.int c2)])) (fun _ k_ => XS.iload X30.here hx rfl (hb hby at_115) rfl  k_) ?_
  obtain ⟨_, T31, L31, X31, hQ31, st31⟩ := own_callS X30 hx (y := own_m23) hown25 (mvT hZ25 (wd hw 59 rfl)) (mvT hZ25 (wd hw 60 rfl)) (mvT hZ25 (wd hw 3 rfl)) (mvT hZ25 (wd hw 61 rfl)) (by decide) (backOf (W := 0) (rm_ws l Z a0 hw [] c2 T25.heap n0 f28) hZ25 (wd hw 61 rfl) (wd hw 3 rfl) (by decide) (by decide)) (g := (mkF m 117 #[iv p0, iv p1, iv p2, iv p3, iv p4, iv (3 : Int32), iv c0, iv c1, iv c2, iv c3, rv va1, rv r25, iv (own_wi c0), iv (own_wi c1), .unset, .unset, .unset, .unset, .unset] [(.int c2)])) rfl (by rw [hml]; rfl) (argsL := [(.int c2)]) (rest := []) (lenOf pd__C_Z rfl) rfl (by show 2 * 0 + _ ≤ _; exact Nat.le_of_eq rfl) (hb hby at_117) rfl eq30 (by decide) (by decide) (c' := 8) (s' := 24) rfl rfl
  obtain ⟨rfl, Nq31, eq31⟩ := hQ31
  have N31 := Fr.app N30 Nq31
  refine own_stW (T' := T31) (g' := (mkF m 120 #[iv p0, iv p1, iv p2, iv p3, iv p4, iv (3 : Int32), iv c0, iv c1, iv c2, iv c3, rv va1, rv r25, iv (own_wi c0), iv (own_wi c1), .unset, .unset, .unset, .unset, .unset] [(.int (own_wi c2))])) st31 ?_
  clear st31
  refine own_stW (T' := T31) (g' := (mkF m 122 #[iv p0, iv p1, iv p2, iv p3, iv p4, iv (3 : Int32), iv c0, iv c1, iv c2, iv c3, rv va1, rv r25, iv (own_wi c0), iv (own_wi c1), iv (own_wi c2), .unset, .unset, .unset, .unset] [])) (fun _ k_ => XS.istore X31.here hx rfl (hb hby at_120) rfl (l' := #[iv p0, iv p1, iv p2, iv p3, iv p4, iv (3 : Int32), iv c0, iv c1, iv c2, iv c3, rv va1, rv r25, iv (own_wi c0), iv (own_wi c1), iv (own_wi c2), .unset, .unset, .unset, .unset]) rfl k_) ?_
  refine own_stW (T' := T31) (g' := (mkF m 124 #[iv p0, iv p1, iv p2, iv p3, iv p4, iv (3 : Int32), iv c0, iv c1, iv c2, iv c3, rv va1, rv r25, iv (own_wi c0), iv (own_wi c1), iv (own_wi c2), .unset, .unset, .unset, .unset] [(.int c3)])) (fun _ k_ => XS.iload X31.here hx rfl (hb hby at_122) rfl  k_) ?_
  obtain ⟨_, T32, L32, X32, hQ32, st32⟩ := own_callS X31 hx (y := own_m23) hown25 (mvT hZ25 (wd hw 59 rfl)) (mvT hZ25 (wd hw 60 rfl)) (mvT hZ25 (wd hw 3 rfl)) (mvT hZ25 (wd hw 61 rfl)) (by decide) (backOf (W := 0) (rm_ws l Z a0 hw [] c3 T25.heap n0 f28) hZ25 (wd hw 61 rfl) (wd hw 3 rfl) (by decide) (by decide)) (g := (mkF m 124 #[iv p0, iv p1, iv p2, iv p3, iv p4, iv (3 : Int32), iv c0, iv c1, iv c2, iv c3, rv va1, rv r25, iv (own_wi c0), iv (own_wi c1), iv (own_wi c2), .unset, .unset, .unset, .unset] [(.int c3)])) rfl (by rw [hml]; rfl) (argsL := [(.int c3)]) (rest := []) (lenOf pd__C_Z rfl) rfl (by show 2 * 0 + _ ≤ _; exact Nat.le_of_eq rfl) (hb hby at_124) rfl eq31 (by decide) (by decide) (c' := 8) (s' := 24) rfl rfl
  obtain ⟨rfl, Nq32, eq32⟩ := hQ32
  have N32 := Fr.app N31 Nq32
  refine own_stW (T' := T32) (g' := (mkF m 127 #[iv p0, iv p1, iv p2, iv p3, iv p4, iv (3 : Int32), iv c0, iv c1, iv c2, iv c3, rv va1, rv r25, iv (own_wi c0), iv (own_wi c1), iv (own_wi c2), .unset, .unset, .unset, .unset] [(.int (own_wi c3))])) st32 ?_
  clear st32
  refine own_stW (T' := T32) (g' := (mkF m 129 #[iv p0, iv p1, iv p2, iv p3, iv p4, iv (3 : Int32), iv c0, iv c1, iv c2, iv c3, rv va1, rv r25, iv (own_wi c0), iv (own_wi c1), iv (own_wi c2), iv (own_wi c3), .unset, .unset, .unset] [])) (fun _ k_ => XS.istore X32.here hx rfl (hb hby at_127) rfl (l' := #[iv p0, iv p1, iv p2, iv p3, iv p4, iv (3 : Int32), iv c0, iv c1, iv c2, iv c3, rv va1, rv r25, iv (own_wi c0), iv (own_wi c1), iv (own_wi c2), iv (own_wi c3), .unset, .unset, .unset]) rfl k_) ?_
  refine own_stW (T' := T32) (g' := (mkF m 131 #[iv p0, iv p1, iv p2, iv p3, iv p4, iv (3 : Int32), iv c0, iv c1, iv c2, iv c3, rv va1, rv r25, iv (own_wi c0), iv (own_wi c1), iv (own_wi c2), iv (own_wi c3), .unset, .unset, .unset] [(.int (3 : Int32))])) (fun _ k_ => XS.iload X32.here hx rfl (hb hby at_129) rfl  k_) ?_
  refine own_stW (T' := T32) (g' := (mkF m 134 #[iv p0, iv p1, iv p2, iv p3, iv p4, iv (3 : Int32), iv c0, iv c1, iv c2, iv c3, rv va1, rv r25, iv (own_wi c0), iv (own_wi c1), iv (own_wi c2), iv (own_wi c3), .unset, .unset, .unset] [])) (fun _ k_ => XS.ifNo X32.here hx rfl (hb hby at_131) rfl ((if0 _ _).trans (tlt (by decide : (0 : Int32) < (3 : Int32))).2.2.2) k_) ?_
  refine own_stW (T' := T32) (g' := (mkF m 136 #[iv p0, iv p1, iv p2, iv p3, iv p4, iv (3 : Int32), iv c0, iv c1, iv c2, iv c3, rv va1, rv r25, iv (own_wi c0), iv (own_wi c1), iv (own_wi c2), iv (own_wi c3), .unset, .unset, .unset] [(.int (own_wi c0))])) (fun _ k_ => XS.iload X32.here hx rfl (hb hby at_134) rfl  k_) ?_
  by_cases hc33 : (own_wi c0) = (0 : Int32)
  · refine own_stW (T' := T32) (g' := (mkF m 139 #[iv p0, iv p1, iv p2, iv p3, iv p4, iv (3 : Int32), iv c0, iv c1, iv c2, iv c3, rv va1, rv r25, iv (own_wi c0), iv (own_wi c1), iv (own_wi c2), iv (own_wi c3), .unset, .unset, .unset] [])) (fun _ k_ => XS.ifNo X32.here hx rfl (hb hby at_136) rfl ((if0 _ _).trans (teq hc33).2) k_) ?_
    refine own_stW (T' := T32) (g' := (mkF m 140 #[iv p0, iv p1, iv p2, iv p3, iv p4, iv (3 : Int32), iv c0, iv c1, iv c2, iv c3, rv va1, rv r25, iv (own_wi c0), iv (own_wi c1), iv (own_wi c2), iv (own_wi c3), .unset, .unset, .unset] [(.int (0 : Int32))])) (fun _ k_ => XS.iconst X32.here hx rfl (hb hby at_139) k_) ?_
    refine own_stW (T' := T32) (g' := (mkF m 142 #[iv p0, iv p1, iv p2, iv p3, iv p4, iv (3 : Int32), iv c0, iv c1, iv c2, iv c3, rv va1, rv r25, iv (own_wi c0), iv (own_wi c1), iv (own_wi c2), iv (own_wi c3), iv (0 : Int32), .unset, .unset] [])) (fun _ k_ => XS.istore X32.here hx rfl (hb hby at_140) rfl (l' := #[iv p0, iv p1, iv p2, iv p3, iv p4, iv (3 : Int32), iv c0, iv c1, iv c2, iv c3, rv va1, rv r25, iv (own_wi c0), iv (own_wi c1), iv (own_wi c2), iv (own_wi c3), iv (0 : Int32), .unset, .unset]) rfl k_) ?_
    refine own_stW (T' := T32) (g' := (mkF m 200 #[iv p0, iv p1, iv p2, iv p3, iv p4, iv (3 : Int32), iv c0, iv c1, iv c2, iv c3, rv va1, rv r25, iv (own_wi c0), iv (own_wi c1), iv (own_wi c2), iv (own_wi c3), iv (0 : Int32), .unset, .unset] [])) (fun _ k_ => XS.goto X32.here hx rfl (pc0 := 142) (pc' := 200) rfl (hb hby at_142) (by decide) (by decide) k_) ?_
    have ne34 : va1 ≠ b16 := Nat.ne_of_lt (Nat.lt_of_lt_of_le (Nat.lt_of_lt_of_le (Nat.lt_of_lt_of_le (Nat.lt_of_lt_of_le fq1_0.lt (Nat.le_of_eq (Wr.size W4).symm)) (Nat.le_of_eq (Wr.size W7).symm)) (Nat.le_of_eq (Wr.size W10).symm)) (Nat.le_of_eq g16.symm))
    have f35 : Arv Z T21.heap va1 kc1 .char (3 : Int32) [(.int c0), (.int c1), (.int c2)] (.int (0 : Int32)) := f19.keep K21 (ninS ne34 nin0)
    have f36 : Arv Z T25.heap va1 kc1 .char (3 : Int32) [(.int c0), (.int c1), (.int c2)] (.int (0 : Int32)) := f35.keep K25 nin0
    exact seg_f3 h0 T25.heap n0 p0 p1 p2 p3 p4 c0 c1 c2 c3 va1 kc1 r25 u25 ku25 0 cz fm X32 hx hZs hZ25 hS25 (Nat.le_refl _) CR26 hw hby hml howns hown25 hnm hret hlk eq32 N32 f28 hr0 hr1 hr2 hr3 f36 fq25_0 fq25_2 fq25_1 fq25_3 (by simp [own_is, own_wiF hc33]) SC hcz SF hfm
  · refine own_stW (T' := T32) (g' := (mkF m 145 #[iv p0, iv p1, iv p2, iv p3, iv p4, iv (3 : Int32), iv c0, iv c1, iv c2, iv c3, rv va1, rv r25, iv (own_wi c0), iv (own_wi c1), iv (own_wi c2), iv (own_wi c3), .unset, .unset, .unset] [])) (fun _ k_ => XS.ifYes X32.here hx rfl (pc0 := 136) (pc' := 145) rfl (hb hby at_136) rfl ((if0 _ _).trans (feq hc33).2) (by decide) (by decide) k_) ?_
    refine own_stW (T' := T32) (g' := (mkF m 147 #[iv p0, iv p1, iv p2, iv p3, iv p4, iv (3 : Int32), iv c0, iv c1, iv c2, iv c3, rv va1, rv r25, iv (own_wi c0), iv (own_wi c1), iv (own_wi c2), iv (own_wi c3), .unset, .unset, .unset] [(.int (3 : Int32))])) (fun _ k_ => XS.iload X32.here hx rfl (hb hby at_145) rfl  k_) ?_
    refine own_stW (T' := T32) (g' := (mkF m 148 #[iv p0, iv p1, iv p2, iv p3, iv p4, iv (3 : Int32), iv c0, iv c1, iv c2, iv c3, rv va1, rv r25, iv (own_wi c0), iv (own_wi c1), iv (own_wi c2), iv (own_wi c3), .unset, .unset, .unset] [(.int (1 : Int32)), (.int (3 : Int32))])) (fun _ k_ => XS.iconst X32.here hx rfl (hb hby at_147) k_) ?_
    refine own_stW (T' := T32) (g' := (mkF m 151 #[iv p0, iv p1, iv p2, iv p3, iv p4, iv (3 : Int32), iv c0, iv c1, iv c2, iv c3, rv va1, rv r25, iv (own_wi c0), iv (own_wi c1), iv (own_wi c2), iv (own_wi c3), .unset, .unset, .unset] [])) (fun _ k_ => XS.icmpNo X32.here hx rfl (hb hby at_148) rfl (tlt (by decide : (1 : Int32) < (3 : Int32))).2.2.2 k_) ?_
    refine own_stW (T' := T32) (g' := (mkF m 153 #[iv p0, iv p1, iv p2, iv p3, iv p4, iv (3 : Int32), iv c0, iv c1, iv c2, iv c3, rv va1, rv r25, iv (own_wi c0), iv (own_wi c1), iv (own_wi c2), iv (own_wi c3), .unset, .unset, .unset] [(.int (own_wi c1))])) (fun _ k_ => XS.iload X32.here hx rfl (hb hby at_151) rfl  k_) ?_
    by_cases hc37 : (own_wi c1) = (0 : Int32)
    · refine own_stW (T' := T32) (g' := (mkF m 156 #[iv p0, iv p1, iv p2, iv p3, iv p4, iv (3 : Int32), iv c0, iv c1, iv c2, iv c3, rv va1, rv r25, iv (own_wi c0), iv (own_wi c1), iv (own_wi c2), iv (own_wi c3), .unset, .unset, .unset] [])) (fun _ k_ => XS.ifNo X32.here hx rfl (hb hby at_153) rfl ((if0 _ _).trans (teq hc37).2) k_) ?_
      refine own_stW (T' := T32) (g' := (mkF m 157 #[iv p0, iv p1, iv p2, iv p3, iv p4, iv (3 : Int32), iv c0, iv c1, iv c2, iv c3, rv va1, rv r25, iv (own_wi c0), iv (own_wi c1), iv (own_wi c2), iv (own_wi c3), .unset, .unset, .unset] [(.int (1 : Int32))])) (fun _ k_ => XS.iconst X32.here hx rfl (hb hby at_156) k_) ?_
      refine own_stW (T' := T32) (g' := (mkF m 159 #[iv p0, iv p1, iv p2, iv p3, iv p4, iv (3 : Int32), iv c0, iv c1, iv c2, iv c3, rv va1, rv r25, iv (own_wi c0), iv (own_wi c1), iv (own_wi c2), iv (own_wi c3), iv (1 : Int32), .unset, .unset] [])) (fun _ k_ => XS.istore X32.here hx rfl (hb hby at_157) rfl (l' := #[iv p0, iv p1, iv p2, iv p3, iv p4, iv (3 : Int32), iv c0, iv c1, iv c2, iv c3, rv va1, rv r25, iv (own_wi c0), iv (own_wi c1), iv (own_wi c2), iv (own_wi c3), iv (1 : Int32), .unset, .unset]) rfl k_) ?_
      refine own_stW (T' := T32) (g' := (mkF m 200 #[iv p0, iv p1, iv p2, iv p3, iv p4, iv (3 : Int32), iv c0, iv c1, iv c2, iv c3, rv va1, rv r25, iv (own_wi c0), iv (own_wi c1), iv (own_wi c2), iv (own_wi c3), iv (1 : Int32), .unset, .unset] [])) (fun _ k_ => XS.goto X32.here hx rfl (pc0 := 159) (pc' := 200) rfl (hb hby at_159) (by decide) (by decide) k_) ?_
      have ne38 : va1 ≠ b16 := Nat.ne_of_lt (Nat.lt_of_lt_of_le (Nat.lt_of_lt_of_le (Nat.lt_of_lt_of_le (Nat.lt_of_lt_of_le fq1_0.lt (Nat.le_of_eq (Wr.size W4).symm)) (Nat.le_of_eq (Wr.size W7).symm)) (Nat.le_of_eq (Wr.size W10).symm)) (Nat.le_of_eq g16.symm))
      have f39 : Arv Z T21.heap va1 kc1 .char (3 : Int32) [(.int c0), (.int c1), (.int c2)] (.int (0 : Int32)) := f19.keep K21 (ninS ne38 nin0)
      have f40 : Arv Z T25.heap va1 kc1 .char (3 : Int32) [(.int c0), (.int c1), (.int c2)] (.int (0 : Int32)) := f39.keep K25 nin0
      exact seg_f3 h0 T25.heap n0 p0 p1 p2 p3 p4 c0 c1 c2 c3 va1 kc1 r25 u25 ku25 1 cz fm X32 hx hZs hZ25 hS25 (Nat.le_refl _) CR26 hw hby hml howns hown25 hnm hret hlk eq32 N32 f28 hr0 hr1 hr2 hr3 f40 fq25_0 fq25_2 fq25_1 fq25_3 (by simp [own_is, own_wiT hc33, own_wiF hc37]) SC hcz SF hfm
    · refine own_stW (T' := T32) (g' := (mkF m 162 #[iv p0, iv p1, iv p2, iv p3, iv p4, iv (3 : Int32), iv c0, iv c1, iv c2, iv c3, rv va1, rv r25, iv (own_wi c0), iv (own_wi c1), iv (own_wi c2), iv (own_wi c3), .unset, .unset, .unset] [])) (fun _ k_ => XS.ifYes X32.here hx rfl (pc0 := 153) (pc' := 162) rfl (hb hby at_153) rfl ((if0 _ _).trans (feq hc37).2) (by decide) (by decide) k_) ?_
      refine own_stW (T' := T32) (g' := (mkF m 164 #[iv p0, iv p1, iv p2, iv p3, iv p4, iv (3 : Int32), iv c0, iv c1, iv c2, iv c3, rv va1, rv r25, iv (own_wi c0), iv (own_wi c1), iv (own_wi c2), iv (own_wi c3), .unset, .unset, .unset] [(.int (3 : Int32))])) (fun _ k_ => XS.iload X32.here hx rfl (hb hby at_162) rfl  k_) ?_
      refine own_stW (T' := T32) (g' := (mkF m 165 #[iv p0, iv p1, iv p2, iv p3, iv p4, iv (3 : Int32), iv c0, iv c1, iv c2, iv c3, rv va1, rv r25, iv (own_wi c0), iv (own_wi c1), iv (own_wi c2), iv (own_wi c3), .unset, .unset, .unset] [(.int (2 : Int32)), (.int (3 : Int32))])) (fun _ k_ => XS.iconst X32.here hx rfl (hb hby at_164) k_) ?_
      refine own_stW (T' := T32) (g' := (mkF m 168 #[iv p0, iv p1, iv p2, iv p3, iv p4, iv (3 : Int32), iv c0, iv c1, iv c2, iv c3, rv va1, rv r25, iv (own_wi c0), iv (own_wi c1), iv (own_wi c2), iv (own_wi c3), .unset, .unset, .unset] [])) (fun _ k_ => XS.icmpNo X32.here hx rfl (hb hby at_165) rfl (tlt (by decide : (2 : Int32) < (3 : Int32))).2.2.2 k_) ?_
      refine own_stW (T' := T32) (g' := (mkF m 170 #[iv p0, iv p1, iv p2, iv p3, iv p4, iv (3 : Int32), iv c0, iv c1, iv c2, iv c3, rv va1, rv r25, iv (own_wi c0), iv (own_wi c1), iv (own_wi c2), iv (own_wi c3), .unset, .unset, .unset] [(.int (own_wi c2))])) (fun _ k_ => XS.iload X32.here hx rfl (hb hby at_168) rfl  k_) ?_
      by_cases hc41 : (own_wi c2) = (0 : Int32)
      · refine own_stW (T' := T32) (g' := (mkF m 173 #[iv p0, iv p1, iv p2, iv p3, iv p4, iv (3 : Int32), iv c0, iv c1, iv c2, iv c3, rv va1, rv r25, iv (own_wi c0), iv (own_wi c1), iv (own_wi c2), iv (own_wi c3), .unset, .unset, .unset] [])) (fun _ k_ => XS.ifNo X32.here hx rfl (hb hby at_170) rfl ((if0 _ _).trans (teq hc41).2) k_) ?_
        refine own_stW (T' := T32) (g' := (mkF m 174 #[iv p0, iv p1, iv p2, iv p3, iv p4, iv (3 : Int32), iv c0, iv c1, iv c2, iv c3, rv va1, rv r25, iv (own_wi c0), iv (own_wi c1), iv (own_wi c2), iv (own_wi c3), .unset, .unset, .unset] [(.int (2 : Int32))])) (fun _ k_ => XS.iconst X32.here hx rfl (hb hby at_173) k_) ?_
        refine own_stW (T' := T32) (g' := (mkF m 176 #[iv p0, iv p1, iv p2, iv p3, iv p4, iv (3 : Int32), iv c0, iv c1, iv c2, iv c3, rv va1, rv r25, iv (own_wi c0), iv (own_wi c1), iv (own_wi c2), iv (own_wi c3), iv (2 : Int32), .unset, .unset] [])) (fun _ k_ => XS.istore X32.here hx rfl (hb hby at_174) rfl (l' := #[iv p0, iv p1, iv p2, iv p3, iv p4, iv (3 : Int32), iv c0, iv c1, iv c2, iv c3, rv va1, rv r25, iv (own_wi c0), iv (own_wi c1), iv (own_wi c2), iv (own_wi c3), iv (2 : Int32), .unset, .unset]) rfl k_) ?_
        refine own_stW (T' := T32) (g' := (mkF m 200 #[iv p0, iv p1, iv p2, iv p3, iv p4, iv (3 : Int32), iv c0, iv c1, iv c2, iv c3, rv va1, rv r25, iv (own_wi c0), iv (own_wi c1), iv (own_wi c2), iv (own_wi c3), iv (2 : Int32), .unset, .unset] [])) (fun _ k_ => XS.goto X32.here hx rfl (pc0 := 176) (pc' := 200) rfl (hb hby at_176) (by decide) (by decide) k_) ?_
        have ne42 : va1 ≠ b16 := Nat.ne_of_lt (Nat.lt_of_lt_of_le (Nat.lt_of_lt_of_le (Nat.lt_of_lt_of_le (Nat.lt_of_lt_of_le fq1_0.lt (Nat.le_of_eq (Wr.size W4).symm)) (Nat.le_of_eq (Wr.size W7).symm)) (Nat.le_of_eq (Wr.size W10).symm)) (Nat.le_of_eq g16.symm))
        have f43 : Arv Z T21.heap va1 kc1 .char (3 : Int32) [(.int c0), (.int c1), (.int c2)] (.int (0 : Int32)) := f19.keep K21 (ninS ne42 nin0)
        have f44 : Arv Z T25.heap va1 kc1 .char (3 : Int32) [(.int c0), (.int c1), (.int c2)] (.int (0 : Int32)) := f43.keep K25 nin0
        exact seg_f3 h0 T25.heap n0 p0 p1 p2 p3 p4 c0 c1 c2 c3 va1 kc1 r25 u25 ku25 2 cz fm X32 hx hZs hZ25 hS25 (Nat.le_refl _) CR26 hw hby hml howns hown25 hnm hret hlk eq32 N32 f28 hr0 hr1 hr2 hr3 f44 fq25_0 fq25_2 fq25_1 fq25_3 (by simp [own_is, own_wiT hc33, own_wiT hc37, own_wiF hc41]) SC hcz SF hfm
      · refine own_stW (T' := T32) (g' := (mkF m 179 #[iv p0, iv p1, iv p2, iv p3, iv p4, iv (3 : Int32), iv c0, iv c1, iv c2, iv c3, rv va1, rv r25, iv (own_wi c0), iv (own_wi c1), iv (own_wi c2), iv (own_wi c3), .unset, .unset, .unset] [])) (fun _ k_ => XS.ifYes X32.here hx rfl (pc0 := 170) (pc' := 179) rfl (hb hby at_170) rfl ((if0 _ _).trans (feq hc41).2) (by decide) (by decide) k_) ?_
        refine own_stW (T' := T32) (g' := (mkF m 181 #[iv p0, iv p1, iv p2, iv p3, iv p4, iv (3 : Int32), iv c0, iv c1, iv c2, iv c3, rv va1, rv r25, iv (own_wi c0), iv (own_wi c1), iv (own_wi c2), iv (own_wi c3), .unset, .unset, .unset] [(.int (3 : Int32))])) (fun _ k_ => XS.iload X32.here hx rfl (hb hby at_179) rfl  k_) ?_
        refine own_stW (T' := T32) (g' := (mkF m 182 #[iv p0, iv p1, iv p2, iv p3, iv p4, iv (3 : Int32), iv c0, iv c1, iv c2, iv c3, rv va1, rv r25, iv (own_wi c0), iv (own_wi c1), iv (own_wi c2), iv (own_wi c3), .unset, .unset, .unset] [(.int (3 : Int32)), (.int (3 : Int32))])) (fun _ k_ => XS.iconst X32.here hx rfl (hb hby at_181) k_) ?_
        refine own_stW (T' := T32) (g' := (mkF m 196 #[iv p0, iv p1, iv p2, iv p3, iv p4, iv (3 : Int32), iv c0, iv c1, iv c2, iv c3, rv va1, rv r25, iv (own_wi c0), iv (own_wi c1), iv (own_wi c2), iv (own_wi c3), .unset, .unset, .unset] [])) (fun _ k_ => XS.icmpYes X32.here hx rfl (pc0 := 182) (pc' := 196) rfl (hb hby at_182) rfl (flt (by decide : ¬ ((3 : Int32) < (3 : Int32)))).2.2.2 (by decide) (by decide) k_) ?_
        refine own_stW (T' := T32) (g' := (mkF m 198 #[iv p0, iv p1, iv p2, iv p3, iv p4, iv (3 : Int32), iv c0, iv c1, iv c2, iv c3, rv va1, rv r25, iv (own_wi c0), iv (own_wi c1), iv (own_wi c2), iv (own_wi c3), .unset, .unset, .unset] [(.int (3 : Int32))])) (fun _ k_ => XS.iload X32.here hx rfl (hb hby at_196) rfl  k_) ?_
        refine own_stW (T' := T32) (g' := (mkF m 200 #[iv p0, iv p1, iv p2, iv p3, iv p4, iv (3 : Int32), iv c0, iv c1, iv c2, iv c3, rv va1, rv r25, iv (own_wi c0), iv (own_wi c1), iv (own_wi c2), iv (own_wi c3), iv (3 : Int32), .unset, .unset] [])) (fun _ k_ => XS.istore X32.here hx rfl (hb hby at_198) rfl (l' := #[iv p0, iv p1, iv p2, iv p3, iv p4, iv (3 : Int32), iv c0, iv c1, iv c2, iv c3, rv va1, rv r25, iv (own_wi c0), iv (own_wi c1), iv (own_wi c2), iv (own_wi c3), iv (3 : Int32), .unset, .unset]) rfl k_) ?_
        have ne45 : va1 ≠ b16 := Nat.ne_of_lt (Nat.lt_of_lt_of_le (Nat.lt_of_lt_of_le (Nat.lt_of_lt_of_le (Nat.lt_of_lt_of_le fq1_0.lt (Nat.le_of_eq (Wr.size W4).symm)) (Nat.le_of_eq (Wr.size W7).symm)) (Nat.le_of_eq (Wr.size W10).symm)) (Nat.le_of_eq g16.symm))
        have f46 : Arv Z T21.heap va1 kc1 .char (3 : Int32) [(.int c0), (.int c1), (.int c2)] (.int (0 : Int32)) := f19.keep K21 (ninS ne45 nin0)
        have f47 : Arv Z T25.heap va1 kc1 .char (3 : Int32) [(.int c0), (.int c1), (.int c2)] (.int (0 : Int32)) := f46.keep K25 nin0
        exact seg_f3 h0 T25.heap n0 p0 p1 p2 p3 p4 c0 c1 c2 c3 va1 kc1 r25 u25 ku25 3 cz fm X32 hx hZs hZ25 hS25 (Nat.le_refl _) CR26 hw hby hml howns hown25 hnm hret hlk eq32 N32 f28 hr0 hr1 hr2 hr3 f47 fq25_0 fq25_2 fq25_1 fq25_3 (by simp [own_is, own_wiT hc33, own_wiT hc37, own_wiT hc41]) SC hcz SF hfm
set_option maxRecDepth 65536 in
set_option maxHeartbeats 40000000 in
theorem seg_g4 {p : Program} {l : Launch} {e : Env} {s : State} {m : MethodId} {args : Array Value} {below : List Frame} {meth : Method} {c : Code} {T0 : State} {locs : List Loc} {Z : State} {a0 : Array Value} {vm0 : Vm} {k0 : Nat} (h0 : Heap) (hB : Heap) (n0 : Nat) (p0 : Int32) (p1 : Int32) (p2 : Int32) (p3 : Int32) (p4 : Int32) (c0 : Int32) (c1 : Int32) (c2 : Int32) (c3 : Int32) (va : Addr) (kc : ClassId) (r : Addr) (u : Addr) (ku : ClassId) (ss : Nat) (ee : Int32) (cz : Int32) (fm : Value)
    (X0 : Stand p l e room_1 (s.setVm vm0) m args below meth c T0 locs 8 24) (hx : p.tables.exec = Jvm.exec) (hZs : Z.Warmed39 s.vm) (hZ : Z.Warmed39 (s.setVm vm0).vm) (hS0 : s.Since vm0 k0) (hk0 : k0 ≤ hB.size) (CR0 : CHr Z consts_1 s.vm h0 vm0 hB) (hw : ∀ d ∈ tables_1, d.before a0 Z = true) (hby : c.code = code) (hml : c.maxLocals = 19) (howns : s.vm.findClass "com/example/sheafgate/sheafgate/http/RequestFieldsStripPinLaw" = some m.cls) (hown : (s.setVm vm0).vm.findClass "com/example/sheafgate/sheafgate/http/RequestFieldsStripPinLaw" = some m.cls) (hnm : meth.name = "law") (hret : meth.sig.returnType = some .boolean) (hlk : meth.locks = false) (e0 : T0.heap = hB) (N0 : Fr n0 locs) (O0 : Old Z n0 hB) (hr0 : ¬ c0 < 0 ∧ ¬ (255 : Int32) < c0) (hr1 : ¬ c1 < 0 ∧ ¬ (255 : Int32) < c1) (hr2 : ¬ c2 < 0 ∧ ¬ (255 : Int32) < c2) (hr3 : ¬ c3 < 0 ∧ ¬ (255 : Int32) < c3) (VA : Arv Z hB va kc .char (4 : Int32) [(.int c0), (.int c1), (.int c2), (.int c3)] (.int (0 : Int32))) (E_r : Exa Z hB r "java/lang/String") (V_r : Fld Z hB r "java/lang/String" "value" "[B" (.ref u)) (C_r : Fld Z hB r "java/lang/String" "coder" "B" (.int (0 : Int32))) (A_r : Arv Z hB u ku .byte (Int32.ofNat (own_sub ([c0, c1, c2, c3] : List Int32) (own_is ([c0, c1, c2, c3] : List Int32)) (own_ie ([c0, c1, c2, c3] : List Int32))).length) (((own_sub ([c0, c1, c2, c3] : List Int32) (own_is ([c0, c1, c2, c3] : List Int32)) (own_ie ([c0, c1, c2, c3] : List Int32))).map StrChars.lo8).map Value.int) (.int (0 : Int32))) (hs : (own_is ([c0, c1, c2, c3] : List Int32)) = ss) (he : (own_is ([c0, c1, c2, c3] : List Int32)) < 4 → ee = Int32.ofNat (own_ie ([c0, c1, c2, c3] : List Int32))) (SC : Sta Z Z.heap "java/lang/String" "COMPACT_STRINGS" "Z" (.int cz)) (hcz : ¬ cz = (0 : Int32)) (SF : Sta Z Z.heap "jdk/internal/util/Preconditions" "SIOOBE_FORMATTER" "Ljava/util/function/BiFunction;" fm) (hfm : fm.isRef = true) :
    own_W p e below s room_1.cells room_1.slots Z consts_1 h0 (own_L n0) T0 (mkF m 270 #[iv p0, iv p1, iv p2, iv p3, iv p4, iv (4 : Int32), iv c0, iv c1, iv c2, iv c3, rv va, rv r, iv (own_wi c0), iv (own_wi c1), iv (own_wi c2), iv (own_wi c3), iv (Int32.ofNat ss), iv ee, .unset] []) := by
  have hEL := own_EW hw
  subst hs
  refine own_stW (T' := T0) (g' := (mkF m 272 #[iv p0, iv p1, iv p2, iv p3, iv p4, iv (4 : Int32), iv c0, iv c1, iv c2, iv c3, rv va, rv r, iv (own_wi c0), iv (own_wi c1), iv (own_wi c2), iv (own_wi c3), iv (Int32.ofNat (own_is ([c0, c1, c2, c3] : List Int32))), iv ee, .unset] [(.int (Int32.ofNat (own_is ([c0, c1, c2, c3] : List Int32))))])) (fun _ k_ => XS.iload X0.here hx rfl (hb hby at_270) rfl  k_) ?_
  refine own_stW (T' := T0) (g' := (mkF m 274 #[iv p0, iv p1, iv p2, iv p3, iv p4, iv (4 : Int32), iv c0, iv c1, iv c2, iv c3, rv va, rv r, iv (own_wi c0), iv (own_wi c1), iv (own_wi c2), iv (own_wi c3), iv (Int32.ofNat (own_is ([c0, c1, c2, c3] : List Int32))), iv ee, .unset] [(.int (4 : Int32)), (.int (Int32.ofNat (own_is ([c0, c1, c2, c3] : List Int32))))])) (fun _ k_ => XS.iload X0.here hx rfl (hb hby at_272) rfl  k_) ?_
  by_cases hc1 : (Int32.ofNat (own_is ([c0, c1, c2, c3] : List Int32))) < (4 : Int32)
  · refine own_stW (T' := T0) (g' := (mkF m 277 #[iv p0, iv p1, iv p2, iv p3, iv p4, iv (4 : Int32), iv c0, iv c1, iv c2, iv c3, rv va, rv r, iv (own_wi c0), iv (own_wi c1), iv (own_wi c2), iv (own_wi c3), iv (Int32.ofNat (own_is ([c0, c1, c2, c3] : List Int32))), iv ee, .unset] [])) (fun _ k_ => XS.icmpNo X0.here hx rfl (hb hby at_274) rfl (tlt hc1).2.1 k_) ?_
    have hl4 : (([c0, c1, c2, c3] : List Int32)).length ≤ 4000 := Nat.le_of_ble_eq_true rfl
    have hee := he ((own_olt (Nat.le_trans (own_isL ([c0, c1, c2, c3] : List Int32)) hl4) (Nat.le_of_ble_eq_true rfl)).mp hc1)
    subst hee
    refine own_stW (T' := T0) (g' := (mkF m 279 #[iv p0, iv p1, iv p2, iv p3, iv p4, iv (4 : Int32), iv c0, iv c1, iv c2, iv c3, rv va, rv r, iv (own_wi c0), iv (own_wi c1), iv (own_wi c2), iv (own_wi c3), iv (Int32.ofNat (own_is ([c0, c1, c2, c3] : List Int32))), iv (Int32.ofNat (own_ie ([c0, c1, c2, c3] : List Int32))), .unset] [(.int (Int32.ofNat (own_ie ([c0, c1, c2, c3] : List Int32))))])) (fun _ k_ => XS.iload X0.here hx rfl (hb hby at_277) rfl  k_) ?_
    refine own_stW (T' := T0) (g' := (mkF m 281 #[iv p0, iv p1, iv p2, iv p3, iv p4, iv (4 : Int32), iv c0, iv c1, iv c2, iv c3, rv va, rv r, iv (own_wi c0), iv (own_wi c1), iv (own_wi c2), iv (own_wi c3), iv (Int32.ofNat (own_is ([c0, c1, c2, c3] : List Int32))), iv (Int32.ofNat (own_ie ([c0, c1, c2, c3] : List Int32))), .unset] [(.int (Int32.ofNat (own_is ([c0, c1, c2, c3] : List Int32)))), (.int (Int32.ofNat (own_ie ([c0, c1, c2, c3] : List Int32))))])) (fun _ k_ => XS.iload X0.here hx rfl (hb hby at_279) rfl  k_) ?_
    refine own_stW (T' := T0) (g' := (mkF m 282 #[iv p0, iv p1, iv p2, iv p3, iv p4, iv (4 : Int32), iv c0, iv c1, iv c2, iv c3, rv va, rv r, iv (own_wi c0), iv (own_wi c1), iv (own_wi c2), iv (own_wi c3), iv (Int32.ofNat (own_is ([c0, c1, c2, c3] : List Int32))), iv (Int32.ofNat (own_ie ([c0, c1, c2, c3] : List Int32))), .unset] [(.int ((Int32.ofNat (own_ie ([c0, c1, c2, c3] : List Int32))) - (Int32.ofNat (own_is ([c0, c1, c2, c3] : List Int32)))))])) (fun _ k_ => XS.isub X0.here hx rfl (hb hby at_281) rfl k_) ?_
    rw [own_osub (own_isie ([c0, c1, c2, c3] : List Int32)) (Nat.le_trans (own_ieL ([c0, c1, c2, c3] : List Int32)) hl4)]
    refine own_stW (T' := T0) (g' := (mkF m 286 #[iv p0, iv p1, iv p2, iv p3, iv p4, iv (4 : Int32), iv c0, iv c1, iv c2, iv c3, rv va, rv r, iv (own_wi c0), iv (own_wi c1), iv (own_wi c2), iv (own_wi c3), iv (Int32.ofNat (own_is ([c0, c1, c2, c3] : List Int32))), iv (Int32.ofNat (own_ie ([c0, c1, c2, c3] : List Int32))), .unset] [(.int (Int32.ofNat ((own_ie ([c0, c1, c2, c3] : List Int32)) - (own_is ([c0, c1, c2, c3] : List Int32)))))])) (fun _ k_ => XS.goto X0.here hx rfl (pc0 := 282) (pc' := 286) rfl (hb hby at_282) (by decide) (by decide) k_) ?_
    refine own_stW (T' := T0) (g' := (mkF m 288 #[iv p0, iv p1, iv p2, iv p3, iv p4, iv (4 : Int32), iv c0, iv c1, iv c2, iv c3, rv va, rv r, iv (own_wi c0), iv (own_wi c1), iv (own_wi c2), iv (own_wi c3), iv (Int32.ofNat (own_is ([c0, c1, c2, c3] : List Int32))), iv (Int32.ofNat (own_ie ([c0, c1, c2, c3] : List Int32))), iv (Int32.ofNat ((own_ie ([c0, c1, c2, c3] : List Int32)) - (own_is ([c0, c1, c2, c3] : List Int32))))] [])) (fun _ k_ => XS.istore X0.here hx rfl (hb hby at_286) rfl (l' := #[iv p0, iv p1, iv p2, iv p3, iv p4, iv (4 : Int32), iv c0, iv c1, iv c2, iv c3, rv va, rv r, iv (own_wi c0), iv (own_wi c1), iv (own_wi c2), iv (own_wi c3), iv (Int32.ofNat (own_is ([c0, c1, c2, c3] : List Int32))), iv (Int32.ofNat (own_ie ([c0, c1, c2, c3] : List Int32))), iv (Int32.ofNat ((own_ie ([c0, c1, c2, c3] : List Int32)) - (own_is ([c0, c1, c2, c3] : List Int32))))]) rfl k_) ?_
    exact seg_h h0 hB n0 _ _ _ _ _ _ _ _ _ _ _ _ _ _ _ va kc r u ku ([c0, c1, c2, c3] : List Int32) _ cz fm X0 hx hZs hZ hS0 hk0 CR0 hw hby hml howns hown hnm hret hlk e0 N0 O0 (Nat.le_of_ble_eq_true rfl) (own_cRS hr0 (own_cRS hr1 (own_cRS hr2 (own_cRS hr3 own_cR0)))) VA E_r V_r C_r A_r rfl SC hcz SF hfm
  · refine own_stW (T' := T0) (g' := (mkF m 285 #[iv p0, iv p1, iv p2, iv p3, iv p4, iv (4 : Int32), iv c0, iv c1, iv c2, iv c3, rv va, rv r, iv (own_wi c0), iv (own_wi c1), iv (own_wi c2), iv (own_wi c3), iv (Int32.ofNat (own_is ([c0, c1, c2, c3] : List Int32))), iv ee, .unset] [])) (fun _ k_ => XS.icmpYes X0.here hx rfl (pc0 := 274) (pc' := 285) rfl (hb hby at_274) rfl (flt hc1).2.1 (by decide) (by decide) k_) ?_
    refine own_stW (T' := T0) (g' := (mkF m 286 #[iv p0, iv p1, iv p2, iv p3, iv p4, iv (4 : Int32), iv c0, iv c1, iv c2, iv c3, rv va, rv r, iv (own_wi c0), iv (own_wi c1), iv (own_wi c2), iv (own_wi c3), iv (Int32.ofNat (own_is ([c0, c1, c2, c3] : List Int32))), iv ee, .unset] [(.int (0 : Int32))])) (fun _ k_ => XS.iconst X0.here hx rfl (hb hby at_285) k_) ?_
    refine own_stW (T' := T0) (g' := (mkF m 288 #[iv p0, iv p1, iv p2, iv p3, iv p4, iv (4 : Int32), iv c0, iv c1, iv c2, iv c3, rv va, rv r, iv (own_wi c0), iv (own_wi c1), iv (own_wi c2), iv (own_wi c3), iv (Int32.ofNat (own_is ([c0, c1, c2, c3] : List Int32))), iv ee, iv (0 : Int32)] [])) (fun _ k_ => XS.istore X0.here hx rfl (hb hby at_286) rfl (l' := #[iv p0, iv p1, iv p2, iv p3, iv p4, iv (4 : Int32), iv c0, iv c1, iv c2, iv c3, rv va, rv r, iv (own_wi c0), iv (own_wi c1), iv (own_wi c2), iv (own_wi c3), iv (Int32.ofNat (own_is ([c0, c1, c2, c3] : List Int32))), iv ee, iv (0 : Int32)]) rfl k_) ?_
    exact seg_h h0 hB n0 _ _ _ _ _ _ _ _ _ _ _ _ _ _ _ va kc r u ku ([c0, c1, c2, c3] : List Int32) _ cz fm X0 hx hZs hZ hS0 hk0 CR0 hw hby hml howns hown hnm hret hlk e0 N0 O0 (Nat.le_of_ble_eq_true rfl) (own_cRS hr0 (own_cRS hr1 (own_cRS hr2 (own_cRS hr3 own_cR0)))) VA E_r V_r C_r A_r (by have a := own_all ([c0, c1, c2, c3] : List Int32) (fun q => absurd ((own_olt (by have b := own_isL ([c0, c1, c2, c3] : List Int32); exact Nat.le_trans b (Nat.le_of_ble_eq_true rfl)) (Nat.le_of_ble_eq_true rfl)).mpr (Nat.lt_of_lt_of_le q (own_ieL ([c0, c1, c2, c3] : List Int32)))) hc1); rw [a.2, Nat.sub_self]; rfl) SC hcz SF hfm
set_option maxRecDepth 65536 in
set_option maxHeartbeats 40000000 in
theorem seg_f4 {p : Program} {l : Launch} {e : Env} {s : State} {m : MethodId} {args : Array Value} {below : List Frame} {meth : Method} {c : Code} {T0 : State} {locs : List Loc} {Z : State} {a0 : Array Value} {vm0 : Vm} {k0 : Nat} (h0 : Heap) (hB : Heap) (n0 : Nat) (p0 : Int32) (p1 : Int32) (p2 : Int32) (p3 : Int32) (p4 : Int32) (c0 : Int32) (c1 : Int32) (c2 : Int32) (c3 : Int32) (va : Addr) (kc : ClassId) (r : Addr) (u : Addr) (ku : ClassId) (ss : Nat) (cz : Int32) (fm : Value)
    (X0 : Stand p l e room_1 (s.setVm vm0) m args below meth c T0 locs 8 24) (hx : p.tables.exec = Jvm.exec) (hZs : Z.Warmed39 s.vm) (hZ : Z.Warmed39 (s.setVm vm0).vm) (hS0 : s.Since vm0 k0) (hk0 : k0 ≤ hB.size) (CR0 : CHr Z consts_1 s.vm h0 vm0 hB) (hw : ∀ d ∈ tables_1, d.before a0 Z = true) (hby : c.code = code) (hml : c.maxLocals = 19) (howns : s.vm.findClass "com/example/sheafgate/sheafgate/http/RequestFieldsStripPinLaw" = some m.cls) (hown : (s.setVm vm0).vm.findClass "com/example/sheafgate/sheafgate/http/RequestFieldsStripPinLaw" = some m.cls) (hnm : meth.name = "law") (hret : meth.sig.returnType = some .boolean) (hlk : meth.locks = false) (e0 : T0.heap = hB) (N0 : Fr n0 locs) (O0 : Old Z n0 hB) (hr0 : ¬ c0 < 0 ∧ ¬ (255 : Int32) < c0) (hr1 : ¬ c1 < 0 ∧ ¬ (255 : Int32) < c1) (hr2 : ¬ c2 < 0 ∧ ¬ (255 : Int32) < c2) (hr3 : ¬ c3 < 0 ∧ ¬ (255 : Int32) < c3) (VA : Arv Z hB va kc .char (4 : Int32) [(.int c0), (.int c1), (.int c2), (.int c3)] (.int (0 : Int32))) (E_r : Exa Z hB r "java/lang/String") (V_r : Fld Z hB r "java/lang/String" "value" "[B" (.ref u)) (C_r : Fld Z hB r "java/lang/String" "coder" "B" (.int (0 : Int32))) (A_r : Arv Z hB u ku .byte (Int32.ofNat (own_sub ([c0, c1, c2, c3] : List Int32) (own_is ([c0, c1, c2, c3] : List Int32)) (own_ie ([c0, c1, c2, c3] : List Int32))).length) (((own_sub ([c0, c1, c2, c3] : List Int32) (own_is ([c0, c1, c2, c3] : List Int32)) (own_ie ([c0, c1, c2, c3] : List Int32))).map StrChars.lo8).map Value.int) (.int (0 : Int32))) (hs : (own_is ([c0, c1, c2, c3] : List Int32)) = ss) (SC : Sta Z Z.heap "java/lang/String" "COMPACT_STRINGS" "Z" (.int cz)) (hcz : ¬ cz = (0 : Int32)) (SF : Sta Z Z.heap "jdk/internal/util/Preconditions" "SIOOBE_FORMATTER" "Ljava/util/function/BiFunction;" fm) (hfm : fm.isRef = true) :
    own_W p e below s room_1.cells room_1.slots Z consts_1 h0 (own_L n0) T0 (mkF m 200 #[iv p0, iv p1, iv p2, iv p3, iv p4, iv (4 : Int32), iv c0, iv c1, iv c2, iv c3, rv va, rv r, iv (own_wi c0), iv (own_wi c1), iv (own_wi c2), iv (own_wi c3), iv (Int32.ofNat ss), .unset, .unset] []) := by
  have hEL := own_EW hw
  refine own_stW (T' := T0) (g' := (mkF m 202 #[iv p0, iv p1, iv p2, iv p3, iv p4, iv (4 : Int32), iv c0, iv c1, iv c2, iv c3, rv va, rv r, iv (own_wi c0), iv (own_wi c1), iv (own_wi c2), iv (own_wi c3), iv (Int32.ofNat ss), .unset, .unset] [(.int (4 : Int32))])) (fun _ k_ => XS.iload X0.here hx rfl (hb hby at_200) rfl  k_) ?_
  refine own_stW (T' := T0) (g' := (mkF m 203 #[iv p0, iv p1, iv p2, iv p3, iv p4, iv (4 : Int32), iv c0, iv c1, iv c2, iv c3, rv va, rv r, iv (own_wi c0), iv (own_wi c1), iv (own_wi c2), iv (own_wi c3), iv (Int32.ofNat ss), .unset, .unset] [(.int (3 : Int32)), (.int (4 : Int32))])) (fun _ k_ => XS.iconst X0.here hx rfl (hb hby at_202) k_) ?_
  refine own_stW (T' := T0) (g' := (mkF m 206 #[iv p0, iv p1, iv p2, iv p3, iv p4, iv (4 : Int32), iv c0, iv c1, iv c2, iv c3, rv va, rv r, iv (own_wi c0), iv (own_wi c1), iv (own_wi c2), iv (own_wi c3), iv (Int32.ofNat ss), .unset, .unset] [])) (fun _ k_ => XS.icmpNo X0.here hx rfl (hb hby at_203) rfl (tlt (by decide : (3 : Int32) < (4 : Int32))).2.2.2 k_) ?_
  refine own_stW (T' := T0) (g' := (mkF m 208 #[iv p0, iv p1, iv p2, iv p3, iv p4, iv (4 : Int32), iv c0, iv c1, iv c2, iv c3, rv va, rv r, iv (own_wi c0), iv (own_wi c1), iv (own_wi c2), iv (own_wi c3), iv (Int32.ofNat ss), .unset, .unset] [(.int (own_wi c3))])) (fun _ k_ => XS.iload X0.here hx rfl (hb hby at_206) rfl  k_) ?_
  by_cases hc1 : (own_wi c3) = (0 : Int32)
  · refine own_stW (T' := T0) (g' := (mkF m 211 #[iv p0, iv p1, iv p2, iv p3, iv p4, iv (4 : Int32), iv c0, iv c1, iv c2, iv c3, rv va, rv r, iv (own_wi c0), iv (own_wi c1), iv (own_wi c2), iv (own_wi c3), iv (Int32.ofNat ss), .unset, .unset] [])) (fun _ k_ => XS.ifNo X0.here hx rfl (hb hby at_208) rfl ((if0 _ _).trans (teq hc1).2) k_) ?_
    refine own_stW (T' := T0) (g' := (mkF m 212 #[iv p0, iv p1, iv p2, iv p3, iv p4, iv (4 : Int32), iv c0, iv c1, iv c2, iv c3, rv va, rv r, iv (own_wi c0), iv (own_wi c1), iv (own_wi c2), iv (own_wi c3), iv (Int32.ofNat ss), .unset, .unset] [(.int (4 : Int32))])) (fun _ k_ => XS.iconst X0.here hx rfl (hb hby at_211) k_) ?_
    refine own_stW (T' := T0) (g' := (mkF m 214 #[iv p0, iv p1, iv p2, iv p3, iv p4, iv (4 : Int32), iv c0, iv c1, iv c2, iv c3, rv va, rv r, iv (own_wi c0), iv (own_wi c1), iv (own_wi c2), iv (own_wi c3), iv (Int32.ofNat ss), iv (4 : Int32), .unset] [])) (fun _ k_ => XS.istore X0.here hx rfl (hb hby at_212) rfl (l' := #[iv p0, iv p1, iv p2, iv p3, iv p4, iv (4 : Int32), iv c0, iv c1, iv c2, iv c3, rv va, rv r, iv (own_wi c0), iv (own_wi c1), iv (own_wi c2), iv (own_wi c3), iv (Int32.ofNat ss), iv (4 : Int32), .unset]) rfl k_) ?_
    refine own_stW (T' := T0) (g' := (mkF m 270 #[iv p0, iv p1, iv p2, iv p3, iv p4, iv (4 : Int32), iv c0, iv c1, iv c2, iv c3, rv va, rv r, iv (own_wi c0), iv (own_wi c1), iv (own_wi c2), iv (own_wi c3), iv (Int32.ofNat ss), iv (4 : Int32), .unset] [])) (fun _ k_ => XS.goto X0.here hx rfl (pc0 := 214) (pc' := 270) rfl (hb hby at_214) (by decide) (by decide) k_) ?_
    exact seg_g4 h0 hB n0 p0 p1 p2 p3 p4 c0 c1 c2 c3 va kc r u ku ss _ cz fm X0 hx hZs hZ hS0 hk0 CR0 hw hby hml howns hown hnm hret hlk e0 N0 O0 hr0 hr1 hr2 hr3 VA E_r V_r C_r A_r hs (fun _ => by rw [own_ieE ([c0, c1, c2, c3] : List Int32) 3 (Nat.le_of_ble_eq_true rfl) (own_wiF hc1) (fun j a b => by have b' : j < 4 := b; exfalso; omega)]; rfl) SC hcz SF hfm
  · refine own_stW (T' := T0) (g' := (mkF m 217 #[iv p0, iv p1, iv p2, iv p3, iv p4, iv (4 : Int32), iv c0, iv c1, iv c2, iv c3, rv va, rv r, iv (own_wi c0), iv (own_wi c1), iv (own_wi c2), iv (own_wi c3), iv (Int32.ofNat ss), .unset, .unset] [])) (fun _ k_ => XS.ifYes X0.here hx rfl (pc0 := 208) (pc' := 217) rfl (hb hby at_208) rfl ((if0 _ _).trans (feq hc1).2) (by decide) (by decide) k_) ?_
    refine own_stW (T' := T0) (g' := (mkF m 219 #[iv p0, iv p1, iv p2, iv p3, iv p4, iv (4 : Int32), iv c0, iv c1, iv c2, iv c3, rv va, rv r, iv (own_wi c0), iv (own_wi c1), iv (own_wi c2), iv (own_wi c3), iv (Int32.ofNat ss), .unset, .unset] [(.int (4 : Int32))])) (fun _ k_ => XS.iload X0.here hx rfl (hb hby at_217) rfl  k_) ?_
    refine own_stW (T' := T0) (g' := (mkF m 220 #[iv p0, iv p1, iv p2, iv p3, iv p4, iv (4 : Int32), iv c0, iv c1, iv c2, iv c3, rv va, rv r, iv (own_wi c0), iv (own_wi c1), iv (own_wi c2), iv (own_wi c3), iv (Int32.ofNat ss), .unset, .unset] [(.int (2 : Int32)), (.int (4 : Int32))])) (fun _ k_ => XS.iconst X0.here hx rfl (hb hby at_219) k_) ?_
    refine own_stW (T' := T0) (g' := (mkF m 223 #[iv p0, iv p1, iv p2, iv p3, iv p4, iv (4 : Int32), iv c0, iv c1, iv c2, iv c3, rv va, rv r, iv (own_wi c0), iv (own_wi c1), iv (own_wi c2), iv (own_wi c3), iv (Int32.ofNat ss), .unset, .unset] [])) (fun _ k_ => XS.icmpNo X0.here hx rfl (hb hby at_220) rfl (tlt (by decide : (2 : Int32) < (4 : Int32))).2.2.2 k_) ?_
    refine own_stW (T' := T0) (g' := (mkF m 225 #[iv p0, iv p1, iv p2, iv p3, iv p4, iv (4 : Int32), iv c0, iv c1, iv c2, iv c3, rv va, rv r, iv (own_wi c0), iv (own_wi c1), iv (own_wi c2), iv (own_wi c3), iv (Int32.ofNat ss), .unset, .unset] [(.int (own_wi c2))])) (fun _ k_ => XS.iload X0.here hx rfl (hb hby at_223) rfl  k_) ?_
    by_cases hc2 : (own_wi c2) = (0 : Int32)
    · refine own_stW (T' := T0) (g' := (mkF m 228 #[iv p0, iv p1, iv p2, iv p3, iv p4, iv (4 : Int32), iv c0, iv c1, iv c2, iv c3, rv va, rv r, iv (own_wi c0), iv (own_wi c1), iv (own_wi c2), iv (own_wi c3), iv (Int32.ofNat ss), .unset, .unset] [])) (fun _ k_ => XS.ifNo X0.here hx rfl (hb hby at_225) rfl ((if0 _ _).trans (teq hc2).2) k_) ?_
      refine own_stW (T' := T0) (g' := (mkF m 229 #[iv p0, iv p1, iv p2, iv p3, iv p4, iv (4 : Int32), iv c0, iv c1, iv c2, iv c3, rv va, rv r, iv (own_wi c0), iv (own_wi c1), iv (own_wi c2), iv (own_wi c3), iv (Int32.ofNat ss), .unset, .unset] [(.int (3 : Int32))])) (fun _ k_ => XS.iconst X0.here hx rfl (hb hby at_228) k_) ?_
      refine own_stW (T' := T0) (g' := (mkF m 231 #[iv p0, iv p1, iv p2, iv p3, iv p4, iv (4 : Int32), iv c0, iv c1, iv c2, iv c3, rv va, rv r, iv (own_wi c0), iv (own_wi c1), iv (own_wi c2), iv (own_wi c3), iv (Int32.ofNat ss), iv (3 : Int32), .unset] [])) (fun _ k_ => XS.istore X0.here hx rfl (hb hby at_229) rfl (l' := #[iv p0, iv p1, iv p2, iv p3, iv p4, iv (4 : Int32), iv c0, iv c1, iv c2, iv c3, rv va, rv r, iv (own_wi c0), iv (own_wi c1), iv (own_wi c2), iv (own_wi c3), iv (Int32.ofNat ss), iv (3 : Int32), .unset]) rfl k_) ?_
      refine own_stW (T' := T0) (g' := (mkF m 270 #[iv p0, iv p1, iv p2, iv p3, iv p4, iv (4 : Int32), iv c0, iv c1, iv c2, iv c3, rv va, rv r, iv (own_wi c0), iv (own_wi c1), iv (own_wi c2), iv (own_wi c3), iv (Int32.ofNat ss), iv (3 : Int32), .unset] [])) (fun _ k_ => XS.goto X0.here hx rfl (pc0 := 231) (pc' := 270) rfl (hb hby at_231) (by decide) (by decide) k_) ?_
      exact seg_g4 h0 hB n0 p0 p1 p2 p3 p4 c0 c1 c2 c3 va kc r u ku ss _ cz fm X0 hx hZs hZ hS0 hk0 CR0 hw hby hml howns hown hnm hret hlk e0 N0 O0 hr0 hr1 hr2 hr3 VA E_r V_r C_r A_r hs (fun _ => by rw [own_ieE ([c0, c1, c2, c3] : List Int32) 2 (Nat.le_of_ble_eq_true rfl) (own_wiF hc2) (fun j a b => by have b' : j < 4 := b; obtain rfl : j = 3 := (by omega); exact own_wiT hc1)]; rfl) SC hcz SF hfm
    · refine own_stW (T' := T0) (g' := (mkF m 234 #[iv p0, iv p1, iv p2, iv p3, iv p4, iv (4 : Int32), iv c0, iv c1, iv c2, iv c3, rv va, rv r, iv (own_wi c0), iv (own_wi c1), iv (own_wi c2), iv (own_wi c3), iv (Int32.ofNat ss), .unset, .unset] [])) (fun _ k_ => XS.ifYes X0.here hx rfl (pc0 := 225) (pc' := 234) rfl (hb hby at_225) rfl ((if0 _ _).trans (feq hc2).2) (by decide) (by decide) k_) ?_
      refine own_stW (T' := T0) (g' := (mkF m 236 #[iv p0, iv p1, iv p2, iv p3, iv p4, iv (4 : Int32), iv c0, iv c1, iv c2, iv c3, rv va, rv r, iv (own_wi c0), iv (own_wi c1), iv (own_wi c2), iv (own_wi c3), iv (Int32.ofNat ss), .unset, .unset] [(.int (4 : Int32))])) (fun _ k_ => XS.iload X0.here hx rfl (hb hby at_234) rfl  k_) ?_
      refine own_stW (T' := T0) (g' := (mkF m 237 #[iv p0, iv p1, iv p2, iv p3, iv p4, iv (4 : Int32), iv c0, iv c1, iv c2, iv c3, rv va, rv r, iv (own_wi c0), iv (own_wi c1), iv (own_wi c2), iv (own_wi c3), iv (Int32.ofNat ss), .unset, .unset] [(.int (1 : Int32)), (.int (4 : Int32))])) (fun _ k_ => XS.iconst X0.here hx rfl (hb hby at_236) k_) ?_
      refine own_stW (T' := T0) (g' := (mkF m 240 #[iv p0, iv p1, iv p2, iv p3, iv p4, iv (4 : Int32), iv c0, iv c1, iv c2, iv c3, rv va, rv r, iv (own_wi c0), iv (own_wi c1), iv (own_wi c2), iv (own_wi c3), iv (Int32.ofNat ss), .unset, .unset] [])) (fun _ k_ => XS.icmpNo X0.here hx rfl (hb hby at_237) rfl (tlt (by decide : (1 : Int32) < (4 : Int32))).2.2.2 k_) ?_
      refine own_stW (T' := T0) (g' := (mkF m 242 #[iv p0, iv p1, iv p2, iv p3, iv p4, iv (4 : Int32), iv c0, iv c1, iv c2, iv c3, rv va, rv r, iv (own_wi c0), iv (own_wi c1), iv (own_wi c2), iv (own_wi c3), iv (Int32.ofNat ss), .unset, .unset] [(.int (own_wi c1))])) (fun _ k_ => XS.iload X0.here hx rfl (hb hby at_240) rfl  k_) ?_
      by_cases hc3 : (own_wi c1) = (0 : Int32)
      · refine own_stW (T' := T0) (g' := (mkF m 245 #[iv p0, iv p1, iv p2, iv p3, iv p4, iv (4 : Int32), iv c0, iv c1, iv c2, iv c3, rv va, rv r, iv (own_wi c0), iv (own_wi c1), iv (own_wi c2), iv (own_wi c3), iv (Int32.ofNat ss), .unset, .unset] [])) (fun _ k_ => XS.ifNo X0.here hx rfl (hb hby at_242) rfl ((if0 _ _).trans (teq hc3).2) k_) ?_
        refine own_stW (T' := T0) (g' := (mkF m 246 #[iv p0, iv p1, iv p2, iv p3, iv p4, iv (4 : Int32), iv c0, iv c1, iv c2, iv c3, rv va, rv r, iv (own_wi c0), iv (own_wi c1), iv (own_wi c2), iv (own_wi c3), iv (Int32.ofNat ss), .unset, .unset] [(.int (2 : Int32))])) (fun _ k_ => XS.iconst X0.here hx rfl (hb hby at_245) k_) ?_
        refine own_stW (T' := T0) (g' := (mkF m 248 #[iv p0, iv p1, iv p2, iv p3, iv p4, iv (4 : Int32), iv c0, iv c1, iv c2, iv c3, rv va, rv r, iv (own_wi c0), iv (own_wi c1), iv (own_wi c2), iv (own_wi c3), iv (Int32.ofNat ss), iv (2 : Int32), .unset] [])) (fun _ k_ => XS.istore X0.here hx rfl (hb hby at_246) rfl (l' := #[iv p0, iv p1, iv p2, iv p3, iv p4, iv (4 : Int32), iv c0, iv c1, iv c2, iv c3, rv va, rv r, iv (own_wi c0), iv (own_wi c1), iv (own_wi c2), iv (own_wi c3), iv (Int32.ofNat ss), iv (2 : Int32), .unset]) rfl k_) ?_
        refine own_stW (T' := T0) (g' := (mkF m 270 #[iv p0, iv p1, iv p2, iv p3, iv p4, iv (4 : Int32), iv c0, iv c1, iv c2, iv c3, rv va, rv r, iv (own_wi c0), iv (own_wi c1), iv (own_wi c2), iv (own_wi c3), iv (Int32.ofNat ss), iv (2 : Int32), .unset] [])) (fun _ k_ => XS.goto X0.here hx rfl (pc0 := 248) (pc' := 270) rfl (hb hby at_248) (by decide) (by decide) k_) ?_
        exact seg_g4 h0 hB n0 p0 p1 p2 p3 p4 c0 c1 c2 c3 va kc r u ku ss _ cz fm X0 hx hZs hZ hS0 hk0 CR0 hw hby hml howns hown hnm hret hlk e0 N0 O0 hr0 hr1 hr2 hr3 VA E_r V_r C_r A_r hs (fun _ => by rw [own_ieE ([c0, c1, c2, c3] : List Int32) 1 (Nat.le_of_ble_eq_true rfl) (own_wiF hc3) (fun j a b => by have b' : j < 4 := b; rcases (show j = 2 ∨ j = 3 by omega) with rfl | rfl <;> first | exact own_wiT hc2 | exact own_wiT hc1)]; rfl) SC hcz SF hfm
      · refine own_stW (T' := T0) (g' := (mkF m 251 #[iv p0, iv p1, iv p2, iv p3, iv p4, iv (4 : Int32), iv c0, iv c1, iv c2, iv c3, rv va, rv r, iv (own_wi c0), iv (own_wi c1), iv (own_wi c2), iv (own_wi c3), iv (Int32.ofNat ss), .unset, .unset] [])) (fun _ k_ => XS.ifYes X0.here hx rfl (pc0 := 242) (pc' := 251) rfl (hb hby at_242) rfl ((if0 _ _).trans (feq hc3).2) (by decide) (by decide) k_) ?_
        refine own_stW (T' := T0) (g' := (mkF m 253 #[iv p0, iv p1, iv p2, iv p3, iv p4, iv (4 : Int32), iv c0, iv c1, iv c2, iv c3, rv va, rv r, iv (own_wi c0), iv (own_wi c1), iv (own_wi c2), iv (own_wi c3), iv (Int32.ofNat ss), .unset, .unset] [(.int (4 : Int32))])) (fun _ k_ => XS.iload X0.here hx rfl (hb hby at_251) rfl  k_) ?_
        refine own_stW (T' := T0) (g' := (mkF m 256 #[iv p0, iv p1, iv p2, iv p3, iv p4, iv (4 : Int32), iv c0, iv c1, iv c2, iv c3, rv va, rv r, iv (own_wi c0), iv (own_wi c1), iv (own_wi c2), iv (own_wi c3), iv (Int32.ofNat ss), .unset, .unset] [])) (fun _ k_ => XS.ifNo X0.here hx rfl (hb hby at_253) rfl ((if0 _ _).trans (tlt (by decide : (0 : Int32) < (4 : Int32))).2.2.2) k_) ?_
        refine own_stW (T' := T0) (g' := (mkF m 258 #[iv p0, iv p1, iv p2, iv p3, iv p4, iv (4 : Int32), iv c0, iv c1, iv c2, iv c3, rv va, rv r, iv (own_wi c0), iv (own_wi c1), iv (own_wi c2), iv (own_wi c3), iv (Int32.ofNat ss), .unset, .unset] [(.int (own_wi c0))])) (fun _ k_ => XS.iload X0.here hx rfl (hb hby at_256) rfl  k_) ?_
        by_cases hc4 : (own_wi c0) = (0 : Int32)
        · refine own_stW (T' := T0) (g' := (mkF m 261 #[iv p0, iv p1, iv p2, iv p3, iv p4, iv (4 : Int32), iv c0, iv c1, iv c2, iv c3, rv va, rv r, iv (own_wi c0), iv (own_wi c1), iv (own_wi c2), iv (own_wi c3), iv (Int32.ofNat ss), .unset, .unset] [])) (fun _ k_ => XS.ifNo X0.here hx rfl (hb hby at_258) rfl ((if0 _ _).trans (teq hc4).2) k_) ?_
          refine own_stW (T' := T0) (g' := (mkF m 262 #[iv p0, iv p1, iv p2, iv p3, iv p4, iv (4 : Int32), iv c0, iv c1, iv c2, iv c3, rv va, rv r, iv (own_wi c0), iv (own_wi c1), iv (own_wi c2), iv (own_wi c3), iv (Int32.ofNat ss), .unset, .unset] [(.int (1 : Int32))])) (fun _ k_ => XS.iconst X0.here hx rfl (hb hby at_261) k_) ?_
          refine own_stW (T' := T0) (g' := (mkF m 264 #[iv p0, iv p1, iv p2, iv p3, iv p4, iv (4 : Int32), iv c0, iv c1, iv c2, iv c3, rv va, rv r, iv (own_wi c0), iv (own_wi c1), iv (own_wi c2), iv (own_wi c3), iv (Int32.ofNat ss), iv (1 : Int32), .unset] [])) (fun _ k_ => XS.istore X0.here hx rfl (hb hby at_262) rfl (l' := #[iv p0, iv p1, iv p2, iv p3, iv p4, iv (4 : Int32), iv c0, iv c1, iv c2, iv c3, rv va, rv r, iv (own_wi c0), iv (own_wi c1), iv (own_wi c2), iv (own_wi c3), iv (Int32.ofNat ss), iv (1 : Int32), .unset]) rfl k_) ?_
          refine own_stW (T' := T0) (g' := (mkF m 270 #[iv p0, iv p1, iv p2, iv p3, iv p4, iv (4 : Int32), iv c0, iv c1, iv c2, iv c3, rv va, rv r, iv (own_wi c0), iv (own_wi c1), iv (own_wi c2), iv (own_wi c3), iv (Int32.ofNat ss), iv (1 : Int32), .unset] [])) (fun _ k_ => XS.goto X0.here hx rfl (pc0 := 264) (pc' := 270) rfl (hb hby at_264) (by decide) (by decide) k_) ?_
          exact seg_g4 h0 hB n0 p0 p1 p2 p3 p4 c0 c1 c2 c3 va kc r u ku ss _ cz fm X0 hx hZs hZ hS0 hk0 CR0 hw hby hml howns hown hnm hret hlk e0 N0 O0 hr0 hr1 hr2 hr3 VA E_r V_r C_r A_r hs (fun _ => by rw [own_ieE ([c0, c1, c2, c3] : List Int32) 0 (Nat.le_of_ble_eq_true rfl) (own_wiF hc4) (fun j a b => by have b' : j < 4 := b; rcases (show j = 1 ∨ j = 2 ∨ j = 3 by omega) with rfl | rfl | rfl <;> first | exact own_wiT hc3 | exact own_wiT hc2 | exact own_wiT hc1)]; rfl) SC hcz SF hfm
        · refine own_stW (T' := T0) (g' := (mkF m 267 #[iv p0, iv p1, iv p2, iv p3, iv p4, iv (4 : Int32), iv c0, iv c1, iv c2, iv c3, rv va, rv r, iv (own_wi c0), iv (own_wi c1), iv (own_wi c2), iv (own_wi c3), iv (Int32.ofNat ss), .unset, .unset] [])) (fun _ k_ => XS.ifYes X0.here hx rfl (pc0 := 258) (pc' := 267) rfl (hb hby at_258) rfl ((if0 _ _).trans (feq hc4).2) (by decide) (by decide) k_) ?_
          refine own_stW (T' := T0) (g' := (mkF m 268 #[iv p0, iv p1, iv p2, iv p3, iv p4, iv (4 : Int32), iv c0, iv c1, iv c2, iv c3, rv va, rv r, iv (own_wi c0), iv (own_wi c1), iv (own_wi c2), iv (own_wi c3), iv (Int32.ofNat ss), .unset, .unset] [(.int (0 : Int32))])) (fun _ k_ => XS.iconst X0.here hx rfl (hb hby at_267) k_) ?_
          refine own_stW (T' := T0) (g' := (mkF m 270 #[iv p0, iv p1, iv p2, iv p3, iv p4, iv (4 : Int32), iv c0, iv c1, iv c2, iv c3, rv va, rv r, iv (own_wi c0), iv (own_wi c1), iv (own_wi c2), iv (own_wi c3), iv (Int32.ofNat ss), iv (0 : Int32), .unset] [])) (fun _ k_ => XS.istore X0.here hx rfl (hb hby at_268) rfl (l' := #[iv p0, iv p1, iv p2, iv p3, iv p4, iv (4 : Int32), iv c0, iv c1, iv c2, iv c3, rv va, rv r, iv (own_wi c0), iv (own_wi c1), iv (own_wi c2), iv (own_wi c3), iv (Int32.ofNat ss), iv (0 : Int32), .unset]) rfl k_) ?_
          exact seg_g4 h0 hB n0 p0 p1 p2 p3 p4 c0 c1 c2 c3 va kc r u ku ss _ cz fm X0 hx hZs hZ hS0 hk0 CR0 hw hby hml howns hown hnm hret hlk e0 N0 O0 hr0 hr1 hr2 hr3 VA E_r V_r C_r A_r hs (fun q => by have z : (own_is ([c0, c1, c2, c3] : List Int32)) = 4 := (by simp [own_is, own_wiT hc4, own_wiT hc3, own_wiT hc2, own_wiT hc1]); omega) SC hcz SF hfm
set_option maxRecDepth 65536 in
set_option maxHeartbeats 40000000 in
theorem seg_a4 {p : Program} {l : Launch} {e : Env} {s : State} {m : MethodId} {args : Array Value} {below : List Frame} {meth : Method} {c : Code} {T0 : State} {locs : List Loc} {Z : State} {a0 : Array Value} {vm0 : Vm} {k0 : Nat} (h0 : Heap) (hB : Heap) (n0 : Nat) (p0 : Int32) (p1 : Int32) (p2 : Int32) (p3 : Int32) (p4 : Int32) (c0 : Int32) (c1 : Int32) (c2 : Int32) (c3 : Int32) (cz : Int32) (fm : Value)
    (X0 : Stand p l e room_1 (s.setVm vm0) m args below meth c T0 locs 0 0) (hx : p.tables.exec = Jvm.exec) (hZs : Z.Warmed39 s.vm) (hZ : Z.Warmed39 (s.setVm vm0).vm) (hS0 : s.Since vm0 k0) (hk0 : k0 ≤ hB.size) (CR0 : CHr Z consts_1 s.vm h0 vm0 hB) (hw : ∀ d ∈ tables_1, d.before a0 Z = true) (hby : c.code = code) (hml : c.maxLocals = 19) (howns : s.vm.findClass "com/example/sheafgate/sheafgate/http/RequestFieldsStripPinLaw" = some m.cls) (hown : (s.setVm vm0).vm.findClass "com/example/sheafgate/sheafgate/http/RequestFieldsStripPinLaw" = some m.cls) (hnm : meth.name = "law") (hret : meth.sig.returnType = some .boolean) (hlk : meth.locks = false) (e0 : T0.heap = hB) (N0 : Fr n0 locs) (O0 : Old Z n0 hB) (hr0 : ¬ c0 < 0 ∧ ¬ (255 : Int32) < c0) (hr1 : ¬ c1 < 0 ∧ ¬ (255 : Int32) < c1) (hr2 : ¬ c2 < 0 ∧ ¬ (255 : Int32) < c2) (hr3 : ¬ c3 < 0 ∧ ¬ (255 : Int32) < c3) (SC : Sta Z Z.heap "java/lang/String" "COMPACT_STRINGS" "Z" (.int cz)) (hcz : ¬ cz = (0 : Int32)) (SF : Sta Z Z.heap "jdk/internal/util/Preconditions" "SIOOBE_FORMATTER" "Ljava/util/function/BiFunction;" fm) (hfm : fm.isRef = true) :
    own_W p e below s room_1.cells room_1.slots Z consts_1 h0 (own_L n0) T0 (mkF m 33 #[iv p0, iv p1, iv p2, iv p3, iv p4, iv (4 : Int32), iv c0, iv c1, iv c2, iv c3, .unset, .unset, .unset, .unset, .unset, .unset, .unset, .unset, .unset] []) := by
  have hEL := own_EW hw
  refine own_stW (T' := T0) (g' := (mkF m 35 #[iv p0, iv p1, iv p2, iv p3, iv p4, iv (4 : Int32), iv c0, iv c1, iv c2, iv c3, .unset, .unset, .unset, .unset, .unset, .unset, .unset, .unset, .unset] [(.int (4 : Int32))])) (fun _ k_ => XS.iload X0.here hx rfl (hb hby at_33) rfl  k_) ?_
  obtain ⟨_, T1, L1, X1, hQ1, st1⟩ := own_callS X0 hx (y := own_m24) hown (mvT hZ (wd hw 5 rfl)) (mvT hZ (wd hw 6 rfl)) (mvT hZ (wd hw 3 rfl)) (mvT hZ (wd hw 7 rfl)) (by decide) (backOf (W := 0) (rm_make4 l Z a0 hw []  hB n0 O0) hZ (wd hw 7 rfl) (wd hw 3 rfl) (by decide) (by decide)) (g := (mkF m 35 #[iv p0, iv p1, iv p2, iv p3, iv p4, iv (4 : Int32), iv c0, iv c1, iv c2, iv c3, .unset, .unset, .unset, .unset, .unset, .unset, .unset, .unset, .unset] [(.int (4 : Int32))])) rfl (by rw [hml]; rfl) (argsL := [(.int (4 : Int32))]) (rest := []) (lenOf pd__I__C rfl) rfl (by show 2 * 0 + _ ≤ _; exact Nat.le_of_eq rfl) (hb hby at_35) rfl e0 (by decide) (by decide) (c' := 1) (s' := 4) rfl rfl
  obtain ⟨va1, kc1, rfl, Nq1, K1, fq1_0, xq1_fresh_va⟩ := hQ1
  have N1 := Fr.app N0 Nq1
  have CR2 : CHr Z consts_1 s.vm h0 vm0 T1.heap := CR0.trans (CHr.keep K1 sf0 CR0.1)
  refine own_stW (T' := T1) (g' := (mkF m 38 #[iv p0, iv p1, iv p2, iv p3, iv p4, iv (4 : Int32), iv c0, iv c1, iv c2, iv c3, .unset, .unset, .unset, .unset, .unset, .unset, .unset, .unset, .unset] [(.ref va1)])) st1 ?_
  clear st1
  refine own_stW (T' := T1) (g' := (mkF m 40 #[iv p0, iv p1, iv p2, iv p3, iv p4, iv (4 : Int32), iv c0, iv c1, iv c2, iv c3, rv va1, .unset, .unset, .unset, .unset, .unset, .unset, .unset, .unset] [])) (fun _ k_ => XS.astore X1.here hx rfl (hb hby at_38) rfl rfl (l' := #[iv p0, iv p1, iv p2, iv p3, iv p4, iv (4 : Int32), iv c0, iv c1, iv c2, iv c3, rv va1, .unset, .unset, .unset, .unset, .unset, .unset, .unset, .unset]) rfl k_) ?_
  refine own_stW (T' := T1) (g' := (mkF m 42 #[iv p0, iv p1, iv p2, iv p3, iv p4, iv (4 : Int32), iv c0, iv c1, iv c2, iv c3, rv va1, .unset, .unset, .unset, .unset, .unset, .unset, .unset, .unset] [(.int (4 : Int32))])) (fun _ k_ => XS.iload X1.here hx rfl (hb hby at_40) rfl  k_) ?_
  refine own_stW (T' := T1) (g' := (mkF m 45 #[iv p0, iv p1, iv p2, iv p3, iv p4, iv (4 : Int32), iv c0, iv c1, iv c2, iv c3, rv va1, .unset, .unset, .unset, .unset, .unset, .unset, .unset, .unset] [])) (fun _ k_ => XS.ifNo X1.here hx rfl (hb hby at_42) rfl ((if0 _ _).trans (tlt (by decide : (0 : Int32) < (4 : Int32))).2.2.2) k_) ?_
  refine own_stW (T' := T1) (g' := (mkF m 47 #[iv p0, iv p1, iv p2, iv p3, iv p4, iv (4 : Int32), iv c0, iv c1, iv c2, iv c3, rv va1, .unset, .unset, .unset, .unset, .unset, .unset, .unset, .unset] [(.ref va1)])) (fun _ k_ => XS.aload X1.here hx rfl (hb hby at_45) rfl rfl  k_) ?_
  refine own_stW (T' := T1) (g' := (mkF m 48 #[iv p0, iv p1, iv p2, iv p3, iv p4, iv (4 : Int32), iv c0, iv c1, iv c2, iv c3, rv va1, .unset, .unset, .unset, .unset, .unset, .unset, .unset, .unset] [(.int (0 : Int32)), (.ref va1)])) (fun _ k_ => XS.iconst X1.here hx rfl (hb hby at_47) k_) ?_
  refine own_stW (T' := T1) (g' := (mkF m 50 #[iv p0, iv p1, iv p2, iv p3, iv p4, iv (4 : Int32), iv c0, iv c1, iv c2, iv c3, rv va1, .unset, .unset, .unset, .unset, .unset, .unset, .unset, .unset] [(.int c0), (.int (0 : Int32)), (.ref va1)])) (fun _ k_ => XS.iload X1.here hx rfl (hb hby at_48) rfl  k_) ?_
  obtain ⟨cl3, Ar3, q3, S3, N3, H3, G3⟩ := id fq1_0
  have hin3 : ¬ ((0 : Int32) < 0 ∨ cl3.slots.size ≤ ((0 : Int32)).toNatClampNeg) := inb_of S3 ⟨by decide, by decide⟩
  obtain ⟨T4, h4, X4, e4, W4, st4⟩ := stC X1 hx hZ rfl Ar3 (j := (0 : Int32)) hin3 (g := (mkF m 50 #[iv p0, iv p1, iv p2, iv p3, iv p4, iv (4 : Int32), iv c0, iv c1, iv c2, iv c3, rv va1, .unset, .unset, .unset, .unset, .unset, .unset, .unset, .unset] [(.int c0), (.int (0 : Int32)), (.ref va1)])) rfl rfl (hb hby at_50)
  have CR5 : CHr Z consts_1 s.vm h0 vm0 h4 := CR2.trans (CHr.wr W4 (Safe.arv hZ.alike fq1_0 (by decide)) CR2.1)
  have V4 : Arv Z h4 va1 kc1 .char (4 : Int32) [(.int (nar .char c0)), (.int (0 : Int32)), (.int (0 : Int32)), (.int (0 : Int32))] (.int (0 : Int32)) := Arv.set Ar3 q3 S3 N3 H3 G3 (fits_nar_char _) W4 0 rfl (Nat.le_of_ble_eq_true rfl)
  have Vn4 : Arv Z h4 va1 kc1 .char (4 : Int32) [(.int c0), (.int (0 : Int32)), (.int (0 : Int32)), (.int (0 : Int32))] (.int (0 : Int32)) := by simpa only [own_nch hr0] using V4
  have Nx4 := Fr.snoc X4 N1 (Nat.le_trans (own_z O0) xq1_fresh_va)
  refine own_stW (T' := T4) (g' := (mkF m 51 #[iv p0, iv p1, iv p2, iv p3, iv p4, iv (4 : Int32), iv c0, iv c1, iv c2, iv c3, rv va1, .unset, .unset, .unset, .unset, .unset, .unset, .unset, .unset] [])) st4 ?_
  clear hin3 G3 H3 N3 S3 q3 Ar3 cl3 st4
  refine own_stW (T' := T4) (g' := (mkF m 53 #[iv p0, iv p1, iv p2, iv p3, iv p4, iv (4 : Int32), iv c0, iv c1, iv c2, iv c3, rv va1, .unset, .unset, .unset, .unset, .unset, .unset, .unset, .unset] [(.int (4 : Int32))])) (fun _ k_ => XS.iload X4.here hx rfl (hb hby at_51) rfl  k_) ?_
  refine own_stW (T' := T4) (g' := (mkF m 54 #[iv p0, iv p1, iv p2, iv p3, iv p4, iv (4 : Int32), iv c0, iv c1, iv c2, iv c3, rv va1, .unset, .unset, .unset, .unset, .unset, .unset, .unset, .unset] [(.int (1 : Int32)), (.int (4 : Int32))])) (fun _ k_ => XS.iconst X4.here hx rfl (hb hby at_53) k_) ?_
  refine own_stW (T' := T4) (g' := (mkF m 57 #[iv p0, iv p1, iv p2, iv p3, iv p4, iv (4 : Int32), iv c0, iv c1, iv c2, iv c3, rv va1, .unset, .unset, .unset, .unset, .unset, .unset, .unset, .unset] [])) (fun _ k_ => XS.icmpNo X4.here hx rfl (hb hby at_54) rfl (tlt (by decide : (1 : Int32) < (4 : Int32))).2.2.2 k_) ?_
  refine own_stW (T' := T4) (g' := (mkF m 59 #[iv p0, iv p1, iv p2, iv p3, iv p4, iv (4 : Int32), iv c0, iv c1, iv c2, iv c3, rv va1, .unset, .unset, .unset, .unset, .unset, .unset, .unset, .unset] [(.ref va1)])) (fun _ k_ => XS.aload X4.here hx rfl (hb hby at_57) rfl rfl  k_) ?_
  refine own_stW (T' := T4) (g' := (mkF m 60 #[iv p0, iv p1, iv p2, iv p3, iv p4, iv (4 : Int32), iv c0, iv c1, iv c2, iv c3, rv va1, .unset, .unset, .unset, .unset, .unset, .unset, .unset, .unset] [(.int (1 : Int32)), (.ref va1)])) (fun _ k_ => XS.iconst X4.here hx rfl (hb hby at_59) k_) ?_
  refine own_stW (T' := T4) (g' := (mkF m 62 #[iv p0, iv p1, iv p2, iv p3, iv p4, iv (4 : Int32), iv c0, iv c1, iv c2, iv c3, rv va1, .unset, .unset, .unset, .unset, .unset, .unset, .unset, .unset] [(.int c1), (.int (1 : Int32)), (.ref va1)])) (fun _ k_ => XS.iload X4.here hx rfl (hb hby at_60) rfl  k_) ?_
  obtain ⟨cl6, Ar6, q6, S6, N6, H6, G6⟩ := id Vn4
  have hin6 : ¬ ((1 : Int32) < 0 ∨ cl6.slots.size ≤ ((1 : Int32)).toNatClampNeg) := inb_of S6 ⟨by decide, by decide⟩
  obtain ⟨T7, h7, X7, e7, W7, st7⟩ := stC X4 hx hZ e4 Ar6 (j := (1 : Int32)) hin6 (g := (mkF m 62 #[iv p0, iv p1, iv p2, iv p3, iv p4, iv (4 : Int32), iv c0, iv c1, iv c2, iv c3, rv va1, .unset, .unset, .unset, .unset, .unset, .unset, .unset, .unset] [(.int c1), (.int (1 : Int32)), (.ref va1)])) rfl rfl (hb hby at_62)
  have CR8 : CHr Z consts_1 s.vm h0 vm0 h7 := CR5.trans (CHr.wr W7 (Safe.arv hZ.alike Vn4 (by decide)) CR5.1)
  have V7 : Arv Z h7 va1 kc1 .char (4 : Int32) [(.int c0), (.int (nar .char c1)), (.int (0 : Int32)), (.int (0 : Int32))] (.int (0 : Int32)) := Arv.set Ar6 q6 S6 N6 H6 G6 (fits_nar_char _) W7 1 rfl (Nat.le_of_ble_eq_true rfl)
  have Vn7 : Arv Z h7 va1 kc1 .char (4 : Int32) [(.int c0), (.int c1), (.int (0 : Int32)), (.int (0 : Int32))] (.int (0 : Int32)) := by simpa only [own_nch hr1] using V7
  have Nx7 := Fr.snoc X7 Nx4 (Nat.le_trans (own_z O0) xq1_fresh_va)
  refine own_stW (T' := T7) (g' := (mkF m 63 #[iv p0, iv p1, iv p2, iv p3, iv p4, iv (4 : Int32), iv c0, iv c1, iv c2, iv c3, rv va1, .unset, .unset, .unset, .unset, .unset, .unset, .unset, .unset] [])) st7 ?_
  clear hin6 G6 H6 N6 S6 q6 Ar6 cl6 st7
  refine own_stW (T' := T7) (g' := (mkF m 65 #[iv p0, iv p1, iv p2, iv p3, iv p4, iv (4 : Int32), iv c0, iv c1, iv c2, iv c3, rv va1, .unset, .unset, .unset, .unset, .unset, .unset, .unset, .unset] [(.int (4 : Int32))])) (fun _ k_ => XS.iload X7.here hx rfl (hb hby at_63) rfl  k_) ?_
  refine own_stW (T' := T7) (g' := (mkF m 66 #[iv p0, iv p1, iv p2, iv p3, iv p4, iv (4 : Int32), iv c0, iv c1, iv c2, iv c3, rv va1, .unset, .unset, .unset, .unset, .unset, .unset, .unset, .unset] [(.int (2 : Int32)), (.int (4 : Int32))])) (fun _ k_ => XS.iconst X7.here hx rfl (hb hby at_65) k_) ?_
  refine own_stW (T' := T7) (g' := (mkF m 69 #[iv p0, iv p1, iv p2, iv p3, iv p4, iv (4 : Int32), iv c0, iv c1, iv c2, iv c3, rv va1, .unset, .unset, .unset, .unset, .unset, .unset, .unset, .unset] [])) (fun _ k_ => XS.icmpNo X7.here hx rfl (hb hby at_66) rfl (tlt (by decide : (2 : Int32) < (4 : Int32))).2.2.2 k_) ?_
  refine own_stW (T' := T7) (g' := (mkF m 71 #[iv p0, iv p1, iv p2, iv p3, iv p4, iv (4 : Int32), iv c0, iv c1, iv c2, iv c3, rv va1, .unset, .unset, .unset, .unset, .unset, .unset, .unset, .unset] [(.ref va1)])) (fun _ k_ => XS.aload X7.here hx rfl (hb hby at_69) rfl rfl  k_) ?_
  refine own_stW (T' := T7) (g' := (mkF m 72 #[iv p0, iv p1, iv p2, iv p3, iv p4, iv (4 : Int32), iv c0, iv c1, iv c2, iv c3, rv va1, .unset, .unset, .unset, .unset, .unset, .unset, .unset, .unset] [(.int (2 : Int32)), (.ref va1)])) (fun _ k_ => XS.iconst X7.here hx rfl (hb hby at_71) k_) ?_
  refine own_stW (T' := T7) (g' := (mkF m 74 #[iv p0, iv p1, iv p2, iv p3, iv p4, iv (4 : Int32), iv c0, iv c1, iv c2, iv c3, rv va1, .unset, .unset, .unset, .unset, .unset, .unset, .unset, .unset] [(.int c2), (.int (2 : Int32)), (.ref va1)])) (fun _ k_ => XS.iload X7.here hx rfl (hb hby at_72) rfl  k_) ?_
  obtain ⟨cl9, Ar9, q9, S9, N9, H9, G9⟩ := id Vn7
  have hin9 : ¬ ((2 : Int32) < 0 ∨ cl9.slots.size ≤ ((2 : Int32)).toNatClampNeg) := inb_of S9 ⟨by decide, by decide⟩
  obtain ⟨T10, h10, X10, e10, W10, st10⟩ := stC X7 hx hZ e7 Ar9 (j := (2 : Int32)) hin9 (g := (mkF m 74 #[iv p0, iv p1, iv p2, iv p3, iv p4, iv (4 : Int32), iv c0, iv c1, iv c2, iv c3, rv va1, .unset, .unset, .unset, .unset, .unset, .unset, .unset, .unset] [(.int c2), (.int (2 : Int32)), (.ref va1)])) rfl rfl (hb hby at_74)
  have CR11 : CHr Z consts_1 s.vm h0 vm0 h10 := CR8.trans (CHr.wr W10 (Safe.arv hZ.alike Vn7 (by decide)) CR8.1)
  have V10 : Arv Z h10 va1 kc1 .char (4 : Int32) [(.int c0), (.int c1), (.int (nar .char c2)), (.int (0 : Int32))] (.int (0 : Int32)) := Arv.set Ar9 q9 S9 N9 H9 G9 (fits_nar_char _) W10 2 rfl (Nat.le_of_ble_eq_true rfl)
  have Vn10 : Arv Z h10 va1 kc1 .char (4 : Int32) [(.int c0), (.int c1), (.int c2), (.int (0 : Int32))] (.int (0 : Int32)) := by simpa only [own_nch hr2] using V10
  have Nx10 := Fr.snoc X10 Nx7 (Nat.le_trans (own_z O0) xq1_fresh_va)
  refine own_stW (T' := T10) (g' := (mkF m 75 #[iv p0, iv p1, iv p2, iv p3, iv p4, iv (4 : Int32), iv c0, iv c1, iv c2, iv c3, rv va1, .unset, .unset, .unset, .unset, .unset, .unset, .unset, .unset] [])) st10 ?_
  clear hin9 G9 H9 N9 S9 q9 Ar9 cl9 st10
  refine own_stW (T' := T10) (g' := (mkF m 77 #[iv p0, iv p1, iv p2, iv p3, iv p4, iv (4 : Int32), iv c0, iv c1, iv c2, iv c3, rv va1, .unset, .unset, .unset, .unset, .unset, .unset, .unset, .unset] [(.int (4 : Int32))])) (fun _ k_ => XS.iload X10.here hx rfl (hb hby at_75) rfl  k_) ?_
  refine own_stW (T' := T10) (g' := (mkF m 78 #[iv p0, iv p1, iv p2, iv p3, iv p4, iv (4 : Int32), iv c0, iv c1, iv c2, iv c3, rv va1, .unset, .unset, .unset, .unset, .unset, .unset, .unset, .unset] [(.int (3 : Int32)), (.int (4 : Int32))])) (fun _ k_ => XS.iconst X10.here hx rfl (hb hby at_77) k_) ?_
  refine own_stW (T' := T10) (g' := (mkF m 81 #[iv p0, iv p1, iv p2, iv p3, iv p4, iv (4 : Int32), iv c0, iv c1, iv c2, iv c3, rv va1, .unset, .unset, .unset, .unset, .unset, .unset, .unset, .unset] [])) (fun _ k_ => XS.icmpNo X10.here hx rfl (hb hby at_78) rfl (tlt (by decide : (3 : Int32) < (4 : Int32))).2.2.2 k_) ?_
  refine own_stW (T' := T10) (g' := (mkF m 83 #[iv p0, iv p1, iv p2, iv p3, iv p4, iv (4 : Int32), iv c0, iv c1, iv c2, iv c3, rv va1, .unset, .unset, .unset, .unset, .unset, .unset, .unset, .unset] [(.ref va1)])) (fun _ k_ => XS.aload X10.here hx rfl (hb hby at_81) rfl rfl  k_) ?_
  refine own_stW (T' := T10) (g' := (mkF m 84 #[iv p0, iv p1, iv p2, iv p3, iv p4, iv (4 : Int32), iv c0, iv c1, iv c2, iv c3, rv va1, .unset, .unset, .unset, .unset, .unset, .unset, .unset, .unset] [(.int (3 : Int32)), (.ref va1)])) (fun _ k_ => XS.iconst X10.here hx rfl (hb hby at_83) k_) ?_
  refine own_stW (T' := T10) (g' := (mkF m 86 #[iv p0, iv p1, iv p2, iv p3, iv p4, iv (4 : Int32), iv c0, iv c1, iv c2, iv c3, rv va1, .unset, .unset, .unset, .unset, .unset, .unset, .unset, .unset] [(.int c3), (.int (3 : Int32)), (.ref va1)])) (fun _ k_ => XS.iload X10.here hx rfl (hb hby at_84) rfl  k_) ?_
  obtain ⟨cl12, Ar12, q12, S12, N12, H12, G12⟩ := id Vn10
  have hin12 : ¬ ((3 : Int32) < 0 ∨ cl12.slots.size ≤ ((3 : Int32)).toNatClampNeg) := inb_of S12 ⟨by decide, by decide⟩
  obtain ⟨T13, h13, X13, e13, W13, st13⟩ := stC X10 hx hZ e10 Ar12 (j := (3 : Int32)) hin12 (g := (mkF m 86 #[iv p0, iv p1, iv p2, iv p3, iv p4, iv (4 : Int32), iv c0, iv c1, iv c2, iv c3, rv va1, .unset, .unset, .unset, .unset, .unset, .unset, .unset, .unset] [(.int c3), (.int (3 : Int32)), (.ref va1)])) rfl rfl (hb hby at_86)
  have CR14 : CHr Z consts_1 s.vm h0 vm0 h13 := CR11.trans (CHr.wr W13 (Safe.arv hZ.alike Vn10 (by decide)) CR11.1)
  have V13 : Arv Z h13 va1 kc1 .char (4 : Int32) [(.int c0), (.int c1), (.int c2), (.int (nar .char c3))] (.int (0 : Int32)) := Arv.set Ar12 q12 S12 N12 H12 G12 (fits_nar_char _) W13 3 rfl (Nat.le_of_ble_eq_true rfl)
  have Vn13 : Arv Z h13 va1 kc1 .char (4 : Int32) [(.int c0), (.int c1), (.int c2), (.int c3)] (.int (0 : Int32)) := by simpa only [own_nch hr3] using V13
  have Nx13 := Fr.snoc X13 Nx10 (Nat.le_trans (own_z O0) xq1_fresh_va)
  refine own_stW (T' := T13) (g' := (mkF m 87 #[iv p0, iv p1, iv p2, iv p3, iv p4, iv (4 : Int32), iv c0, iv c1, iv c2, iv c3, rv va1, .unset, .unset, .unset, .unset, .unset, .unset, .unset, .unset] [])) st13 ?_
  clear hin12 G12 H12 N12 S12 q12 Ar12 cl12 st13
  have f15 : Old Z n0 T1.heap := O0.keep K1 all0
  have f16 : Old Z n0 h4 := f15.wr W4 (Nat.le_trans (own_z O0) xq1_fresh_va)
  have f17 : Old Z n0 h7 := f16.wr W7 (Nat.le_trans (own_z O0) xq1_fresh_va)
  have f18 : Old Z n0 h10 := f17.wr W10 (Nat.le_trans (own_z O0) xq1_fresh_va)
  have f19 : Old Z n0 h13 := f18.wr W13 (Nat.le_trans (own_z O0) xq1_fresh_va)
  obtain ⟨T20, h20, X20, e20, E20, A20, D20, -, st20⟩ := newO X13 hx hZ hown (wd hw 9 rfl) (wd hw 10 rfl) (wd hw 11 rfl) e13 (g := (mkF m 87 #[iv p0, iv p1, iv p2, iv p3, iv p4, iv (4 : Int32), iv c0, iv c1, iv c2, iv c3, rv va1, .unset, .unset, .unset, .unset, .unset, .unset, .unset, .unset] [])) rfl (hb hby at_87) (by decide) (by decide)
  obtain ⟨b20, g20⟩ : ∃ z, z = h13.size := ⟨_, rfl⟩
  rw [← g20] at A20 D20 st20
  have fr20 : n0 ≤ b20 := Nat.le_trans (own_z f19) (Nat.le_of_eq g20.symm)
  have CR21 : CHr Z consts_1 s.vm h0 vm0 h20 := CR14.trans (CHr.ext E20 CR14.1)
  have sf22 : Safe Z consts_1 vm0 h20 b20 := Safe.ext E20 CR14.1 (Safe.new (Nat.le_of_eq g20.symm))
  have F20_value : Fld Z h20 b20 "java/lang/String" "value" "[B" .null := D20 (Or.inr (wd hw 24 rfl)) (ty := (.array .byte)) (by decide)
  have F20_coder : Fld Z h20 b20 "java/lang/String" "coder" "B" (.int (0 : Int32)) := D20 (Or.inr (wd hw 25 rfl)) (ty := .byte) (by decide)
  refine own_stW (T' := T20) (g' := (mkF m 90 #[iv p0, iv p1, iv p2, iv p3, iv p4, iv (4 : Int32), iv c0, iv c1, iv c2, iv c3, rv va1, .unset, .unset, .unset, .unset, .unset, .unset, .unset, .unset] [(.ref b20)])) st20 ?_
  clear st20
  refine own_stW (T' := T20) (g' := (mkF m 91 #[iv p0, iv p1, iv p2, iv p3, iv p4, iv (4 : Int32), iv c0, iv c1, iv c2, iv c3, rv va1, .unset, .unset, .unset, .unset, .unset, .unset, .unset, .unset] [(.ref b20), (.ref b20)])) (fun _ k_ => XS.dup X20.here hx rfl (hb hby at_90) rfl rfl k_) ?_
  refine own_stW (T' := T20) (g' := (mkF m 93 #[iv p0, iv p1, iv p2, iv p3, iv p4, iv (4 : Int32), iv c0, iv c1, iv c2, iv c3, rv va1, .unset, .unset, .unset, .unset, .unset, .unset, .unset, .unset] [(.ref va1), (.ref b20), (.ref b20)])) (fun _ k_ => XS.aload X20.here hx rfl (hb hby at_91) rfl rfl  k_) ?_
  have f23 : Arv Z h20 va1 kc1 .char (4 : Int32) [(.int c0), (.int c1), (.int c2), (.int c3)] (.int (0 : Int32)) := Vn13.ext E20
  have f24 : Old Z n0 h20 := f19.ext E20
  obtain ⟨_, T25, L25, X25, hQ25, st25⟩ := own_callI X20 hx (y := own_m18) rfl hown (mvT hZ (wd hw 12 rfl)) (mvT hZ (wd hw 13 rfl)) (mvT hZ (wd hw 14 rfl)) (by decide) (backOf (W := 1) (rm_ini1_4 l Z a0 hw [] b20 va1 kc1 cz c0 c1 c2 c3 h20 n0 f24 A20 F20_value F20_coder fr20 f23 SC hcz hr0.2 hr1.2 hr2.2 hr3.2) hZ (wd hw 14 rfl) (wd hw 11 rfl) (by decide) (by decide)) (g := (mkF m 93 #[iv p0, iv p1, iv p2, iv p3, iv p4, iv (4 : Int32), iv c0, iv c1, iv c2, iv c3, rv va1, .unset, .unset, .unset, .unset, .unset, .unset, .unset, .unset] [(.ref va1), (.ref b20), (.ref b20)])) rfl (by rw [hml]; rfl) (a := b20) (argsL := [(.ref va1)]) (rest := [(.ref b20)]) (lenOf pd___C_V rfl) rfl (by show 2 * 0 + _ ≤ _; exact Nat.le_of_eq rfl) (hb hby at_93) rfl e20 (by decide) (by decide) (c' := 6) (s' := 16) rfl rfl
  obtain ⟨t25, kb25, rfl, Nq25, K25, fq25_0, fq25_1, fq25_2, fq25_3, xq25_fresh_t⟩ := hQ25
  have N25 := Fr.app Nx13 Nq25
  have CR26 : CHr Z consts_1 s.vm h0 vm0 T25.heap := CR21.trans (CHr.keep K25 (sfS sf22 sf0) CR21.1)
  have sf27 : Safe Z consts_1 vm0 T25.heap b20 := Safe.keep K25 (sfS sf22 sf0) CR21.1 sf22
  refine own_stW (T' := T25) (g' := (mkF m 96 #[iv p0, iv p1, iv p2, iv p3, iv p4, iv (4 : Int32), iv c0, iv c1, iv c2, iv c3, rv va1, .unset, .unset, .unset, .unset, .unset, .unset, .unset, .unset] [(.ref b20)])) st25 ?_
  clear st25
  have f28 : Old Z n0 T25.heap := f24.keep K25 (allS fr20 all0)
  obtain ⟨_, T29, L29, X29, hS29, hQ29, ch29, st29⟩ := own_callSW X25 hx (y := own_m16) hown (mvT hZ (wd hw 30 rfl)) (mvT hZ (wd hw 31 rfl)) (mvT hZ (wd hw 32 rfl)) (mvT hZ (wd hw 33 rfl)) (by decide) (own_backW (W := 0) (rm_strip l Z a0 hw [] b20 t25 kb25 ([c0, c1, c2, c3] : List Int32) cz fm T25.heap n0 f28 fq25_0 fq25_2 fq25_1 fq25_3 (own_cRS hr0 (own_cRS hr1 (own_cRS hr2 (own_cRS hr3 own_cR0)))) (Nat.le_of_ble_eq_true rfl) SC hcz SF hfm) hZ (wd hw 33 rfl) (wd hw 32 rfl) (by decide) (by decide) hEL CR26.1 sf0 all0) (g := (mkF m 96 #[iv p0, iv p1, iv p2, iv p3, iv p4, iv (4 : Int32), iv c0, iv c1, iv c2, iv c3, rv va1, .unset, .unset, .unset, .unset, .unset, .unset, .unset, .unset] [(.ref b20)])) rfl (by rw [hml]; rfl) (argsL := [(.ref b20)]) (rest := []) (lenOf pd__Ljava_lang_String__Ljava_lang_String_ rfl) rfl (by show 2 * 0 + _ ≤ _; exact Nat.le_of_eq rfl) (hb hby at_96) rfl rfl (by decide) (by decide) (c' := 8) (s' := 24) rfl rfl hS0 (Nat.le_trans (Nat.le_trans (Nat.le_trans (Nat.le_trans (Nat.le_trans (Nat.le_trans (Nat.le_trans hk0 K1.1) (Nat.le_of_eq (Wr.size W4).symm)) (Nat.le_of_eq (Wr.size W7).symm)) (Nat.le_of_eq (Wr.size W10).symm)) (Nat.le_of_eq (Wr.size W13).symm)) E20.1) K25.1)
  obtain ⟨r29, u29, ku29, rfl, Nq29, K29, fq29_0, fq29_1, fq29_2, fq29_3⟩ := hQ29
  have N29 := Fr.app N25 Nq29
  have CR30 : CHr Z consts_1 s.vm h0 T29.vm T29.heap := CR26.trans ch29
  have sf31 : Safe Z consts_1 T29.vm T29.heap b20 := ch29.safe (Nat.lt_of_lt_of_le A20.lt K25.1) sf27
  have hZ29 : Z.Warmed39 (s.setVm T29.vm).vm := own_hZ hZs hS29
  have hown29 : (s.setVm T29.vm).vm.findClass "com/example/sheafgate/sheafgate/http/RequestFieldsStripPinLaw" = some m.cls := own_hown howns hS29
  refine own_stW (T' := T29) (g' := (mkF m 99 #[iv p0, iv p1, iv p2, iv p3, iv p4, iv (4 : Int32), iv c0, iv c1, iv c2, iv c3, rv va1, .unset, .unset, .unset, .unset, .unset, .unset, .unset, .unset] [(.ref r29)])) st29 ?_
  clear st29
  refine own_stW (T' := T29) (g' := (mkF m 101 #[iv p0, iv p1, iv p2, iv p3, iv p4, iv (4 : Int32), iv c0, iv c1, iv c2, iv c3, rv va1, rv r29, .unset, .unset, .unset, .unset, .unset, .unset, .unset] [])) (fun _ k_ => XS.astore X29.here hx rfl (hb hby at_99) rfl rfl (l' := #[iv p0, iv p1, iv p2, iv p3, iv p4, iv (4 : Int32), iv c0, iv c1, iv c2, iv c3, rv va1, rv r29, .unset, .unset, .unset, .unset, .unset, .unset, .unset]) rfl k_) ?_
  refine own_stW (T' := T29) (g' := (mkF m 103 #[iv p0, iv p1, iv p2, iv p3, iv p4, iv (4 : Int32), iv c0, iv c1, iv c2, iv c3, rv va1, rv r29, .unset, .unset, .unset, .unset, .unset, .unset, .unset] [(.int c0)])) (fun _ k_ => XS.iload X29.here hx rfl (hb hby at_101) rfl  k_) ?_
  have f32 : Old Z n0 T29.heap := f28.keep K29 all0
  obtain ⟨_, T33, L33, X33, hQ33, st33⟩ := own_callS X29 hx (y := own_m23) hown29 (mvT hZ29 (wd hw 59 rfl)) (mvT hZ29 (wd hw 60 rfl)) (mvT hZ29 (wd hw 3 rfl)) (mvT hZ29 (wd hw 61 rfl)) (by decide) (backOf (W := 0) (rm_ws l Z a0 hw [] c0 T29.heap n0 f32) hZ29 (wd hw 61 rfl) (wd hw 3 rfl) (by decide) (by decide)) (g := (mkF m 103 #[iv p0, iv p1, iv p2, iv p3, iv p4, iv (4 : Int32), iv c0, iv c1, iv c2, iv c3, rv va1, rv r29, .unset, .unset, .unset, .unset, .unset, .unset, .unset] [(.int c0)])) rfl (by rw [hml]; rfl) (argsL := [(.int c0)]) (rest := []) (lenOf pd__C_Z rfl) rfl (by show 2 * 0 + _ ≤ _; exact Nat.le_of_eq rfl) (hb hby at_103) rfl rfl (by decide) (by decide) (c' := 8) (s' := 24) rfl rfl
  obtain ⟨rfl, Nq33, eq33⟩ := hQ33
  have N33 := Fr.app N29 Nq33
  refine own_stW (T' := T33) (g' := (mkF m 106 #[iv p0, iv p1, iv p2, iv p3, iv p4, iv (4 : Int32), iv c0, iv c1, iv c2, iv c3, rv va1, rv r29, .unset, .unset, .unset, .unset, .unset, .unset, .unset] [(.int (own_wi c0))])) st33 ?_
  clear st33
  refine own_stW (T' := T33) (g' := (mkF m 108 #[iv p0, iv p1, iv p2, iv p3, iv p4, iv (4 : Int32), iv c0, iv c1, iv c2, iv c3, rv va1, rv r29, iv (own_wi c0), .unset, .unset, .unset, .unset, .unset, .unset] [])) (fun _ k_ => XS.istore X33.here hx rfl (hb hby at_106) rfl (l' := #[iv p0, iv p1, iv p2, iv p3, iv p4, iv (4 : Int32), iv c0, iv c1, iv c2, iv c3, rv va1, rv r29, iv (own_wi c0), .unset, .unset, .unset, .unset, .unset, .unset]) rfl k_) ?_
  refine own_stW (T' := T33) (g' := (mkF m 110 #[iv p0, iv p1, iv p2, iv p3, iv p4, iv (4 : Int32), iv c0, iv c1, iv c2, iv c3, rv va1, rv r29, iv (own_wi c0), .unset, .unset, .unset, .unset, .unset, .unset] [(.int c1)])) (fun _ k_ => XS.iload X33.here hx rfl (hb hby at_108) rfl  k_) ?_
  obtain ⟨_, T34, L34, X34, hQ34, st34⟩ := own_callS X33 hx (y := own_m23) hown29 (mvT hZ29 (wd hw 59 rfl)) (mvT hZ29 (wd hw 60 rfl)) (mvT hZ29 (wd hw 3 rfl)) (mvT hZ29 (wd hw 61 rfl)) (by decide) (backOf (W := 0) (rm_ws l Z a0 hw [] c1 T29.heap n0 f32) hZ29 (wd hw 61 rfl) (wd hw 3 rfl) (by decide) (by decide)) (g := (mkF m 110 #[iv p0, iv p1, iv p2, iv p3, iv p4, iv (4 : Int32), iv c0, iv c1, iv c2, iv c3, rv va1, rv r29, iv (own_wi c0), .unset, .unset, .unset, .unset, .unset, .unset] [(.int c1)])) rfl (by rw [hml]; rfl) (argsL := [(.int c1)]) (rest := []) (lenOf pd__C_Z rfl) rfl (by show 2 * 0 + _ ≤ _; exact Nat.le_of_eq rfl) (hb hby at_110) rfl eq33 (by decide) (by decide) (c' := 8) (s' := 24) rfl rfl
  obtain ⟨rfl, Nq34, eq34⟩ := hQ34
  have N34 := Fr.app N33 Nq34
  refine own_stW (T' := T34) (g' := (mkF m 113 #[iv p0, iv p1, iv p2, iv p3, iv p4, iv (4 : Int32), iv c0, iv c1, iv c2, iv c3, rv va1, rv r29, iv (own_wi c0), .unset, .unset, .unset, .unset, .unset, .unset] [(.int (own_wi c1))])) st34 ?_
  clear st34
  refine own_stW (T' := T34) (g' := (mkF m 115 #[iv p0, iv p1, iv p2, iv p3, iv p4, iv (4 : Int32), iv c0, iv c1, iv c2, iv c3, rv va1, rv r29, iv (own_wi c0), iv (own_wi c1), .unset, .unset, .unset, .unset, .unset] [])) (fun _ k_ => XS.istore X34.here hx rfl (hb hby at_113) rfl (l' := #[iv p0, iv p1, iv p2, iv p3, iv p4, iv (4 : Int32), iv c0, iv c1, iv c2, iv c3, rv va1, rv r29, iv (own_wi c0), iv (own_wi c1), .unset, .unset, .unset, .unset, .unset]) rfl k_) ?_
  refine own_stW (T' := T34) (g' := (mkF m 117 #[iv p0, iv p1, iv p2, iv p3, iv p4, iv (4 : Int32), iv c0, iv c1, iv c2, iv c3, rv va1, rv r29, iv (own_wi c0), iv (own_wi c1), .unset, .unset, .unset, .unset, .unset] [(.int c2)])) (fun _ k_ => XS.iload X34.here hx rfl (hb hby at_115) rfl  k_) ?_
  obtain ⟨_, T35, L35, X35, hQ35, st35⟩ := own_callS X34 hx (y := own_m23) hown29 (mvT hZ29 (wd hw 59 rfl)) (mvT hZ29 (wd hw 60 rfl)) (mvT hZ29 (wd hw 3 rfl)) (mvT hZ29 (wd hw 61 rfl)) (by decide) (backOf (W := 0) (rm_ws l Z a0 hw [] c2 T29.heap n0 f32) hZ29 (wd hw 61 rfl) (wd hw 3 rfl) (by decide) (by decide)) (g := (mkF m 117 #[iv p0, iv p1, iv p2, iv p3, iv p4, iv (4 : Int32), iv c0, iv c1, iv c2, iv c3, rv va1, rv r29, iv (own_wi c0), iv (own_wi c1), .unset, .unset, .unset, .unset, .unset] [(.int c2)])) rfl (by rw [hml]; rfl) (argsL := [(.int c2)]) (rest := []) (lenOf pd__C_Z rfl) rfl (by show 2 * 0 + _ ≤ _; exact Nat.le_of_eq rfl) (hb hby at_117) rfl eq34 (by decide) (by decide) (c' := 8) (s' := 24) rfl rfl
  obtain ⟨rfl, Nq35, eq35⟩ := hQ35
  have N35 := Fr.app N34 Nq35
  refine own_stW (T' := T35) (g' := (mkF m 120 #[iv p0, iv p1, iv p2, iv p3, iv p4, iv (4 : Int32), iv c0, iv c1, iv c2, iv c3, rv va1, rv r29, iv (own_wi c0), iv (own_wi c1), .unset, .unset, .unset, .unset, .unset] [(.int (own_wi c2))])) st35 ?_
  clear st35
  refine own_stW (T' := T35) (g' := (mkF m 122 #[iv p0, iv p1, iv p2, iv p3, iv p4, iv (4 : Int32), iv c0, iv c1, iv c2, iv c3, rv va1, rv r29, iv (own_wi c0), iv (own_wi c1), iv (own_wi c2), .unset, .unset, .unset, .unset] [])) (fun _ k_ => XS.istore X35.here hx rfl (hb hby at_120) rfl (l' := #[iv p0, iv p1, iv p2, iv p3, iv p4, iv (4 : Int32), iv c0, iv c1, iv c2, iv c3, rv va1, rv r29, iv (own_wi c0), iv (own_wi c1), iv (own_wi c2), .unset, .unset, .unset, .unset]) rfl k_) ?_
  refine own_stW (T' := T35) (g' := (mkF m 124 #[iv p0, iv p1, iv p2, iv p3, iv p4, iv (4 : Int32), iv c0, iv c1, iv c2, iv c3, rv va1, rv r29, iv (own_wi c0), iv (own_wi c1), iv (own_wi c2), .unset, .unset, .unset, .unset] [(.int c3)])) (fun _ k_ => XS.iload X35.here hx rfl (hb hby at_122) rfl  k_) ?_
  obtain ⟨_, T36, L36, X36, hQ36, st36⟩ := own_callS X35 hx (y := own_m23) hown29 (mvT hZ29 (wd hw 59 rfl)) (mvT hZ29 (wd hw 60 rfl)) (mvT hZ29 (wd hw 3 rfl)) (mvT hZ29 (wd hw 61 rfl)) (by decide) (backOf (W := 0) (rm_ws l Z a0 hw [] c3 T29.heap n0 f32) hZ29 (wd hw 61 rfl) (wd hw 3 rfl) (by decide) (by decide)) (g := (mkF m 124 #[iv p0, iv p1, iv p2, iv p3, iv p4, iv (4 : Int32), iv c0, iv c1, iv c2, iv c3, rv va1, rv r29, iv (own_wi c0), iv (own_wi c1), iv (own_wi c2), .unset, .unset, .unset, .unset] [(.int c3)])) rfl (by rw [hml]; rfl) (argsL := [(.int c3)]) (rest := []) (lenOf pd__C_Z rfl) rfl (by show 2 * 0 + _ ≤ _; exact Nat.le_of_eq rfl) (hb hby at_124) rfl eq35 (by decide) (by decide) (c' := 8) (s' := 24) rfl rfl
  obtain ⟨rfl, Nq36, eq36⟩ := hQ36
  have N36 := Fr.app N35 Nq36
  refine own_stW (T' := T36) (g' := (mkF m 127 #[iv p0, iv p1, iv p2, iv p3, iv p4, iv (4 : Int32), iv c0, iv c1, iv c2, iv c3, rv va1, rv r29, iv (own_wi c0), iv (own_wi c1), iv (own_wi c2), .unset, .unset, .unset, .unset] [(.int (own_wi c3))])) st36 ?_
  clear st36
  refine own_stW (T' := T36) (g' := (mkF m 129 #[iv p0, iv p1, iv p2, iv p3, iv p4, iv (4 : Int32), iv c0, iv c1, iv c2, iv c3, rv va1, rv r29, iv (own_wi c0), iv (own_wi c1), iv (own_wi c2), iv (own_wi c3), .unset, .unset, .unset] [])) (fun _ k_ => XS.istore X36.here hx rfl (hb hby at_127) rfl (l' := #[iv p0, iv p1, iv p2, iv p3, iv p4, iv (4 : Int32), iv c0, iv c1, iv c2, iv c3, rv va1, rv r29, iv (own_wi c0), iv (own_wi c1), iv (own_wi c2), iv (own_wi c3), .unset, .unset, .unset]) rfl k_) ?_
  refine own_stW (T' := T36) (g' := (mkF m 131 #[iv p0, iv p1, iv p2, iv p3, iv p4, iv (4 : Int32), iv c0, iv c1, iv c2, iv c3, rv va1, rv r29, iv (own_wi c0), iv (own_wi c1), iv (own_wi c2), iv (own_wi c3), .unset, .unset, .unset] [(.int (4 : Int32))])) (fun _ k_ => XS.iload X36.here hx rfl (hb hby at_129) rfl  k_) ?_
  refine own_stW (T' := T36) (g' := (mkF m 134 #[iv p0, iv p1, iv p2, iv p3, iv p4, iv (4 : Int32), iv c0, iv c1, iv c2, iv c3, rv va1, rv r29, iv (own_wi c0), iv (own_wi c1), iv (own_wi c2), iv (own_wi c3), .unset, .unset, .unset] [])) (fun _ k_ => XS.ifNo X36.here hx rfl (hb hby at_131) rfl ((if0 _ _).trans (tlt (by decide : (0 : Int32) < (4 : Int32))).2.2.2) k_) ?_
  refine own_stW (T' := T36) (g' := (mkF m 136 #[iv p0, iv p1, iv p2, iv p3, iv p4, iv (4 : Int32), iv c0, iv c1, iv c2, iv c3, rv va1, rv r29, iv (own_wi c0), iv (own_wi c1), iv (own_wi c2), iv (own_wi c3), .unset, .unset, .unset] [(.int (own_wi c0))])) (fun _ k_ => XS.iload X36.here hx rfl (hb hby at_134) rfl  k_) ?_
  by_cases hc37 : (own_wi c0) = (0 : Int32)
  · refine own_stW (T' := T36) (g' := (mkF m 139 #[iv p0, iv p1, iv p2, iv p3, iv p4, iv (4 : Int32), iv c0, iv c1, iv c2, iv c3, rv va1, rv r29, iv (own_wi c0), iv (own_wi c1), iv (own_wi c2), iv (own_wi c3), .unset, .unset, .unset] [])) (fun _ k_ => XS.ifNo X36.here hx rfl (hb hby at_136) rfl ((if0 _ _).trans (teq hc37).2) k_) ?_
    refine own_stW (T' := T36) (g' := (mkF m 140 #[iv p0, iv p1, iv p2, iv p3, iv p4, iv (4 : Int32), iv c0, iv c1, iv c2, iv c3, rv va1, rv r29, iv (own_wi c0), iv (own_wi c1), iv (own_wi c2), iv (own_wi c3), .unset, .unset, .unset] [(.int (0 : Int32))])) (fun _ k_ => XS.iconst X36.here hx rfl (hb hby at_139) k_) ?_
    refine own_stW (T' := T36) (g' := (mkF m 142 #[iv p0, iv p1, iv p2, iv p3, iv p4, iv (4 : Int32), iv c0, iv c1, iv c2, iv c3, rv va1, rv r29, iv (own_wi c0), iv (own_wi c1), iv (own_wi c2), iv (own_wi c3), iv (0 : Int32), .unset, .unset] [])) (fun _ k_ => XS.istore X36.here hx rfl (hb hby at_140) rfl (l' := #[iv p0, iv p1, iv p2, iv p3, iv p4, iv (4 : Int32), iv c0, iv c1, iv c2, iv c3, rv va1, rv r29, iv (own_wi c0), iv (own_wi c1), iv (own_wi c2), iv (own_wi c3), iv (0 : Int32), .unset, .unset]) rfl k_) ?_
    refine own_stW (T' := T36) (g' := (mkF m 200 #[iv p0, iv p1, iv p2, iv p3, iv p4, iv (4 : Int32), iv c0, iv c1, iv c2, iv c3, rv va1, rv r29, iv (own_wi c0), iv (own_wi c1), iv (own_wi c2), iv (own_wi c3), iv (0 : Int32), .unset, .unset] [])) (fun _ k_ => XS.goto X36.here hx rfl (pc0 := 142) (pc' := 200) rfl (hb hby at_142) (by decide) (by decide) k_) ?_
    have ne38 : va1 ≠ b20 := Nat.ne_of_lt (Nat.lt_of_lt_of_le (Nat.lt_of_lt_of_le (Nat.lt_of_lt_of_le (Nat.lt_of_lt_of_le (Nat.lt_of_lt_of_le fq1_0.lt (Nat.le_of_eq (Wr.size W4).symm)) (Nat.le_of_eq (Wr.size W7).symm)) (Nat.le_of_eq (Wr.size W10).symm)) (Nat.le_of_eq (Wr.size W13).symm)) (Nat.le_of_eq g20.symm))
    have f39 : Arv Z T25.heap va1 kc1 .char (4 : Int32) [(.int c0), (.int c1), (.int c2), (.int c3)] (.int (0 : Int32)) := f23.keep K25 (ninS ne38 nin0)
    have f40 : Arv Z T29.heap va1 kc1 .char (4 : Int32) [(.int c0), (.int c1), (.int c2), (.int c3)] (.int (0 : Int32)) := f39.keep K29 nin0
    exact seg_f4 h0 T29.heap n0 p0 p1 p2 p3 p4 c0 c1 c2 c3 va1 kc1 r29 u29 ku29 0 cz fm X36 hx hZs hZ29 hS29 (Nat.le_refl _) CR30 hw hby hml howns hown29 hnm hret hlk eq36 N36 f32 hr0 hr1 hr2 hr3 f40 fq29_0 fq29_2 fq29_1 fq29_3 (by simp [own_is, own_wiF hc37]) SC hcz SF hfm
  · refine own_stW (T' := T36) (g' := (mkF m 145 #[iv p0, iv p1, iv p2, iv p3, iv p4, iv (4 : Int32), iv c0, iv c1, iv c2, iv c3, rv va1, rv r29, iv (own_wi c0), iv (own_wi c1), iv (own_wi c2), iv (own_wi c3), .unset, .unset, .unset] [])) (fun _ k_ => XS.ifYes X36.here hx rfl (pc0 := 136) (pc' := 145) rfl (hb hby at_136) rfl ((if0 _ _).trans (feq hc37).2) (by decide) (by decide) k_) ?_
    refine own_stW (T' := T36) (g' := (mkF m 147 #[iv p0, iv p1, iv p2, iv p3, iv p4, iv (4 : Int32), iv c0, iv c1, iv c2, iv c3, rv va1, rv r29, iv (own_wi c0), iv (own_wi c1), iv (own_wi c2), iv (own_wi c3), .unset, .unset, .unset] [(.int (4 : Int32))])) (fun _ k_ => XS.iload X36.here hx rfl (hb hby at_145) rfl  k_) ?_
    refine own_stW (T' := T36) (g' := (mkF m 148 #[iv p0, iv p1, iv p2, iv p3, iv p4, iv (4 : Int32), iv c0, iv c1, iv c2, iv c3, rv va1, rv r29, iv (own_wi c0), iv (own_wi c1), iv (own_wi c2), iv (own_wi c3), .unset, .unset, .unset] [(.int (1 : Int32)), (.int (4 : Int32))])) (fun _ k_ => XS.iconst X36.here hx rfl (hb hby at_147) k_) ?_
    refine own_stW (T' := T36) (g' := (mkF m 151 #[iv p0, iv p1, iv p2, iv p3, iv p4, iv (4 : Int32), iv c0, iv c1, iv c2, iv c3, rv va1, rv r29, iv (own_wi c0), iv (own_wi c1), iv (own_wi c2), iv (own_wi c3), .unset, .unset, .unset] [])) (fun _ k_ => XS.icmpNo X36.here hx rfl (hb hby at_148) rfl (tlt (by decide : (1 : Int32) < (4 : Int32))).2.2.2 k_) ?_
    refine own_stW (T' := T36) (g' := (mkF m 153 #[iv p0, iv p1, iv p2, iv p3, iv p4, iv (4 : Int32), iv c0, iv c1, iv c2, iv c3, rv va1, rv r29, iv (own_wi c0), iv (own_wi c1), iv (own_wi c2), iv (own_wi c3), .unset, .unset, .unset] [(.int (own_wi c1))])) (fun _ k_ => XS.iload X36.here hx rfl (hb hby at_151) rfl  k_) ?_
    by_cases hc41 : (own_wi c1) = (0 : Int32)
    · refine own_stW (T' := T36) (g' := (mkF m 156 #[iv p0, iv p1, iv p2, iv p3, iv p4, iv (4 : Int32), iv c0, iv c1, iv c2, iv c3, rv va1, rv r29, iv (own_wi c0), iv (own_wi c1), iv (own_wi c2), iv (own_wi c3), .unset, .unset, .unset] [])) (fun _ k_ => XS.ifNo X36.here hx rfl (hb hby at_153) rfl ((if0 _ _).trans (teq hc41).2) k_) ?_
      refine own_stW (T' := T36) (g' := (mkF m 157 #[iv p0, iv p1, iv p2, iv p3, iv p4, iv (4 : Int32), iv c0, iv c1, iv c2, iv c3, rv va1, rv r29, iv (own_wi c0), iv (own_wi c1), iv (own_wi c2), iv (own_wi c3), .unset, .unset, .unset] [(.int (1 : Int32))])) (fun _ k_ => XS.iconst X36.here hx rfl (hb hby at_156) k_) ?_
      refine own_stW (T' := T36) (g' := (mkF m 159 #[iv p0, iv p1, iv p2, iv p3, iv p4, iv (4 : Int32), iv c0, iv c1, iv c2, iv c3, rv va1, rv r29, iv (own_wi c0), iv (own_wi c1), iv (own_wi c2), iv (own_wi c3), iv (1 : Int32), .unset, .unset] [])) (fun _ k_ => XS.istore X36.here hx rfl (hb hby at_157) rfl (l' := #[iv p0, iv p1, iv p2, iv p3, iv p4, iv (4 : Int32), iv c0, iv c1, iv c2, iv c3, rv va1, rv r29, iv (own_wi c0), iv (own_wi c1), iv (own_wi c2), iv (own_wi c3), iv (1 : Int32), .unset, .unset]) rfl k_) ?_
      refine own_stW (T' := T36) (g' := (mkF m 200 #[iv p0, iv p1, iv p2, iv p3, iv p4, iv (4 : Int32), iv c0, iv c1, iv c2, iv c3, rv va1, rv r29, iv (own_wi c0), iv (own_wi c1), iv (own_wi c2), iv (own_wi c3), iv (1 : Int32), .unset, .unset] [])) (fun _ k_ => XS.goto X36.here hx rfl (pc0 := 159) (pc' := 200) rfl (hb hby at_159) (by decide) (by decide) k_) ?_
      have ne42 : va1 ≠ b20 := Nat.ne_of_lt (Nat.lt_of_lt_of_le (Nat.lt_of_lt_of_le (Nat.lt_of_lt_of_le (Nat.lt_of_lt_of_le (Nat.lt_of_lt_of_le fq1_0.lt (Nat.le_of_eq (Wr.size W4).symm)) (Nat.le_of_eq (Wr.size W7).symm)) (Nat.le_of_eq (Wr.size W10).symm)) (Nat.le_of_eq (Wr.size W13).symm)) (Nat.le_of_eq g20.symm))
      have f43 : Arv Z T25.heap va1 kc1 .char (4 : Int32) [(.int c0), (.int c1), (.int c2), (.int c3)] (.int (0 : Int32)) := f23.keep K25 (ninS ne42 nin0)
      have f44 : Arv Z T29.heap va1 kc1 .char (4 : Int32) [(.int c0), (.int c1), (.int c2), (.int c3)] (.int (0 : Int32)) := f43.keep K29 nin0
      exact seg_f4 h0 T29.heap n0 p0 p1 p2 p3 p4 c0 c1 c2 c3 va1 kc1 r29 u29 ku29 1 cz fm X36 hx hZs hZ29 hS29 (Nat.le_refl _) CR30 hw hby hml howns hown29 hnm hret hlk eq36 N36 f32 hr0 hr1 hr2 hr3 f44 fq29_0 fq29_2 fq29_1 fq29_3 (by simp [own_is, own_wiT hc37, own_wiF hc41]) SC hcz SF hfm
    · refine own_stW (T' := T36) (g' := (mkF m 162 #[iv p0, iv p1, iv p2, iv p3, iv p4, iv (4 : Int32), iv c0, iv c1, iv c2, iv c3, rv va1, rv r29, iv (own_wi c0), iv (own_wi c1), iv (own_wi c2), iv (own_wi c3), .unset, .unset, .unset] [])) (fun _ k_ => XS.ifYes X36.here hx rfl (pc0 := 153) (pc' := 162) rfl (hb hby at_153) rfl ((if0 _ _).trans (feq hc41).2) (by decide) (by decide) k_) ?_
      refine own_stW (T' := T36) (g' := (mkF m 164 #[iv p0, iv p1, iv p2, iv p3, iv p4, iv (4 : Int32), iv c0, iv c1, iv c2, iv c3, rv va1, rv r29, iv (own_wi c0), iv (own_wi c1), iv (own_wi c2), iv (own_wi c3), .unset, .unset, .unset] [(.int (4 : Int32))])) (fun _ k_ => XS.iload X36.here hx rfl (hb hby at_162) rfl  k_) ?_
      refine own_stW (T' := T36) (g' := (mkF m 165 #[iv p0, iv p1, iv p2, iv p3, iv p4, iv (4 : Int32), iv c0, iv c1, iv c2, iv c3, rv va1, rv r29, iv (own_wi c0), iv (own_wi c1), iv (own_wi c2), iv (own_wi c3), .unset, .unset, .unset] [(.int (2 : Int32)), (.int (4 : Int32))])) (fun _ k_ => XS.iconst X36.here hx rfl (hb hby at_164) k_) ?_
      refine own_stW (T' := T36) (g' := (mkF m 168 #[iv p0, iv p1, iv p2, iv p3, iv p4, iv (4 : Int32), iv c0, iv c1, iv c2, iv c3, rv va1, rv r29, iv (own_wi c0), iv (own_wi c1), iv (own_wi c2), iv (own_wi c3), .unset, .unset, .unset] [])) (fun _ k_ => XS.icmpNo X36.here hx rfl (hb hby at_165) rfl (tlt (by decide : (2 : Int32) < (4 : Int32))).2.2.2 k_) ?_
      refine own_stW (T' := T36) (g' := (mkF m 170 #[iv p0, iv p1, iv p2, iv p3, iv p4, iv (4 : Int32), iv c0, iv c1, iv c2, iv c3, rv va1, rv r29, iv (own_wi c0), iv (own_wi c1), iv (own_wi c2), iv (own_wi c3), .unset, .unset, .unset] [(.int (own_wi c2))])) (fun _ k_ => XS.iload X36.here hx rfl (hb hby at_168) rfl  k_) ?_
      by_cases hc45 : (own_wi c2) = (0 : Int32)
      · refine own_stW (T' := T36) (g' := (mkF m 173 #[iv p0, iv p1, iv p2, iv p3, iv p4, iv (4 : Int32), iv c0, iv c1, iv c2, iv c3, rv va1, rv r29, iv (own_wi c0), iv (own_wi c1), iv (own_wi c2), iv (own_wi c3), .unset, .unset, .unset] [])) (fun _ k_ => XS.ifNo X36.here hx rfl (hb hby at_170) rfl ((if0 _ _).trans (teq hc45).2) k_) ?_
        refine own_stW (T' := T36) (g' := (mkF m 174 #[iv p0, iv p1, iv p2, iv p3, iv p4, iv (4 : Int32), iv c0, iv c1, iv c2, iv c3, rv va1, rv r29, iv (own_wi c0), iv (own_wi c1), iv (own_wi c2), iv (own_wi c3), .unset, .unset, .unset] [(.int (2 : Int32))])) (fun _ k_ => XS.iconst X36.here hx rfl (hb hby at_173) k_) ?_
        refine own_stW (T' := T36) (g' := (mkF m 176 #[iv p0, iv p1, iv p2, iv p3, iv p4, iv (4 : Int32), iv c0, iv c1, iv c2, iv c3, rv va1, rv r29, iv (own_wi c0), iv (own_wi c1), iv (own_wi c2), iv (own_wi c3), iv (2 : Int32), .unset, .unset] [])) (fun _ k_ => XS.istore X36.here hx rfl (hb hby at_174) rfl (l' := #[iv p0, iv p1, iv p2, iv p3, iv p4, iv (4 : Int32), iv c0, iv c1, iv c2, iv c3, rv va1, rv r29, iv (own_wi c0), iv (own_wi c1), iv (own_wi c2), iv (own_wi c3), iv (2 : Int32), .unset, .unset]) rfl k_) ?_
        refine own_stW (T' := T36) (g' := (mkF m 200 #[iv p0, iv p1, iv p2, iv p3, iv p4, iv (4 : Int32), iv c0, iv c1, iv c2, iv c3, rv va1, rv r29, iv (own_wi c0), iv (own_wi c1), iv (own_wi c2), iv (own_wi c3), iv (2 : Int32), .unset, .unset] [])) (fun _ k_ => XS.goto X36.here hx rfl (pc0 := 176) (pc' := 200) rfl (hb hby at_176) (by decide) (by decide) k_) ?_
        have ne46 : va1 ≠ b20 := Nat.ne_of_lt (Nat.lt_of_lt_of_le (Nat.lt_of_lt_of_le (Nat.lt_of_lt_of_le (Nat.lt_of_lt_of_le (Nat.lt_of_lt_of_le fq1_0.lt (Nat.le_of_eq (Wr.size W4).symm)) (Nat.le_of_eq (Wr.size W7).symm)) (Nat.le_of_eq (Wr.size W10).symm)) (Nat.le_of_eq (Wr.size W13).symm)) (Nat.le_of_eq g20.symm))
        have f47 : Arv Z T25.heap va1 kc1 .char (4 : Int32) [(.int c0), (.int c1), (.int c2), (.int c3)] (.int (0 : Int32)) := f23.keep K25 (ninS ne46 nin0)
        have f48 : Arv Z T29.heap va1 kc1 .char (4 : Int32) [(.int c0), (.int c1), (.int c2), (.int c3)] (.int (0 : Int32)) := f47.keep K29 nin0
        exact seg_f4 h0 T29.heap n0 p0 p1 p2 p3 p4 c0 c1 c2 c3 va1 kc1 r29 u29 ku29 2 cz fm X36 hx hZs hZ29 hS29 (Nat.le_refl _) CR30 hw hby hml howns hown29 hnm hret hlk eq36 N36 f32 hr0 hr1 hr2 hr3 f48 fq29_0 fq29_2 fq29_1 fq29_3 (by simp [own_is, own_wiT hc37, own_wiT hc41, own_wiF hc45]) SC hcz SF hfm
      · refine own_stW (T' := T36) (g' := (mkF m 179 #[iv p0, iv p1, iv p2, iv p3, iv p4, iv (4 : Int32), iv c0, iv c1, iv c2, iv c3, rv va1, rv r29, iv (own_wi c0), iv (own_wi c1), iv (own_wi c2), iv (own_wi c3), .unset, .unset, .unset] [])) (fun _ k_ => XS.ifYes X36.here hx rfl (pc0 := 170) (pc' := 179) rfl (hb hby at_170) rfl ((if0 _ _).trans (feq hc45).2) (by decide) (by decide) k_) ?_
        refine own_stW (T' := T36) (g' := (mkF m 181 #[iv p0, iv p1, iv p2, iv p3, iv p4, iv (4 : Int32), iv c0, iv c1, iv c2, iv c3, rv va1, rv r29, iv (own_wi c0), iv (own_wi c1), iv (own_wi c2), iv (own_wi c3), .unset, .unset, .unset] [(.int (4 : Int32))])) (fun _ k_ => XS.iload X36.here hx rfl (hb hby at_179) rfl  k_) ?_
        refine own_stW (T' := T36) (g' := (mkF m 182 #[iv p0, iv p1, iv p2, iv p3, iv p4, iv (4 : Int32), iv c0, iv c1, iv c2, iv c3, rv va1, rv r29, iv (own_wi c0), iv (own_wi c1), iv (own_wi c2), iv (own_wi c3), .unset, .unset, .unset] [(.int (3 : Int32)), (.int (4 : Int32))])) (fun _ k_ => XS.iconst X36.here hx rfl (hb hby at_181) k_) ?_
        refine own_stW (T' := T36) (g' := (mkF m 185 #[iv p0, iv p1, iv p2, iv p3, iv p4, iv (4 : Int32), iv c0, iv c1, iv c2, iv c3, rv va1, rv r29, iv (own_wi c0), iv (own_wi c1), iv (own_wi c2), iv (own_wi c3), .unset, .unset, .unset] [])) (fun _ k_ => XS.icmpNo X36.here hx rfl (hb hby at_182) rfl (tlt (by decide : (3 : Int32) < (4 : Int32))).2.2.2 k_) ?_
        refine own_stW (T' := T36) (g' := (mkF m 187 #[iv p0, iv p1, iv p2, iv p3, iv p4, iv (4 : Int32), iv c0, iv c1, iv c2, iv c3, rv va1, rv r29, iv (own_wi c0), iv (own_wi c1), iv (own_wi c2), iv (own_wi c3), .unset, .unset, .unset] [(.int (own_wi c3))])) (fun _ k_ => XS.iload X36.here hx rfl (hb hby at_185) rfl  k_) ?_
        by_cases hc49 : (own_wi c3) = (0 : Int32)
        · refine own_stW (T' := T36) (g' := (mkF m 190 #[iv p0, iv p1, iv p2, iv p3, iv p4, iv (4 : Int32), iv c0, iv c1, iv c2, iv c3, rv va1, rv r29, iv (own_wi c0), iv (own_wi c1), iv (own_wi c2), iv (own_wi c3), .unset, .unset, .unset] [])) (fun _ k_ => XS.ifNo X36.here hx rfl (hb hby at_187) rfl ((if0 _ _).trans (teq hc49).2) k_) ?_
          refine own_stW (T' := T36) (g' := (mkF m 191 #[iv p0, iv p1, iv p2, iv p3, iv p4, iv (4 : Int32), iv c0, iv c1, iv c2, iv c3, rv va1, rv r29, iv (own_wi c0), iv (own_wi c1), iv (own_wi c2), iv (own_wi c3), .unset, .unset, .unset] [(.int (3 : Int32))])) (fun _ k_ => XS.iconst X36.here hx rfl (hb hby at_190) k_) ?_
          refine own_stW (T' := T36) (g' := (mkF m 193 #[iv p0, iv p1, iv p2, iv p3, iv p4, iv (4 : Int32), iv c0, iv c1, iv c2, iv c3, rv va1, rv r29, iv (own_wi c0), iv (own_wi c1), iv (own_wi c2), iv (own_wi c3), iv (3 : Int32), .unset, .unset] [])) (fun _ k_ => XS.istore X36.here hx rfl (hb hby at_191) rfl (l' := #[iv p0, iv p1, iv p2, iv p3, iv p4, iv (4 : Int32), iv c0, iv c1, iv c2, iv c3, rv va1, rv r29, iv (own_wi c0), iv (own_wi c1), iv (own_wi c2), iv (own_wi c3), iv (3 : Int32), .unset, .unset]) rfl k_) ?_
          refine own_stW (T' := T36) (g' := (mkF m 200 #[iv p0, iv p1, iv p2, iv p3, iv p4, iv (4 : Int32), iv c0, iv c1, iv c2, iv c3, rv va1, rv r29, iv (own_wi c0), iv (own_wi c1), iv (own_wi c2), iv (own_wi c3), iv (3 : Int32), .unset, .unset] [])) (fun _ k_ => XS.goto X36.here hx rfl (pc0 := 193) (pc' := 200) rfl (hb hby at_193) (by decide) (by decide) k_) ?_
          have ne50 : va1 ≠ b20 := Nat.ne_of_lt (Nat.lt_of_lt_of_le (Nat.lt_of_lt_of_le (Nat.lt_of_lt_of_le (Nat.lt_of_lt_of_le (Nat.lt_of_lt_of_le fq1_0.lt (Nat.le_of_eq (Wr.size W4).symm)) (Nat.le_of_eq (Wr.size W7).symm)) (Nat.le_of_eq (Wr.size W10).symm)) (Nat.le_of_eq (Wr.size W13).symm)) (Nat.le_of_eq g20.symm))
          have f51 : Arv Z T25.heap va1 kc1 .char (4 : Int32) [(.int c0), (.int c1), (.int c2), (.int c3)] (.int (0 : Int32)) := f23.keep K25 (ninS ne50 nin0)
          have f52 : Arv Z T29.heap va1 kc1 .char (4 : Int32) [(.int c0), (.int c1), (.int c2), (.int c3)] (.int (0 : Int32)) := f51.keep K29 nin0
          exact seg_f4 h0 T29.heap n0 p0 p1 p2 p3 p4 c0 c1 c2 c3 va1 kc1 r29 u29 ku29 3 cz fm X36 hx hZs hZ29 hS29 (Nat.le_refl _) CR30 hw hby hml howns hown29 hnm hret hlk eq36 N36 f32 hr0 hr1 hr2 hr3 f52 fq29_0 fq29_2 fq29_1 fq29_3 (by simp [own_is, own_wiT hc37, own_wiT hc41, own_wiT hc45, own_wiF hc49]) SC hcz SF hfm
        · refine own_stW (T' := T36) (g' := (mkF m 196 #[iv p0, iv p1, iv p2, iv p3, iv p4, iv (4 : Int32), iv c0, iv c1, iv c2, iv c3, rv va1, rv r29, iv (own_wi c0), iv (own_wi c1), iv (own_wi c2), iv (own_wi c3), .unset, .unset, .unset] [])) (fun _ k_ => XS.ifYes X36.here hx rfl (pc0 := 187) (pc' := 196) rfl (hb hby at_187) rfl ((if0 _ _).trans (feq hc49).2) (by decide) (by decide) k_) ?_
          refine own_stW (T' := T36) (g' := (mkF m 198 #[iv p0, iv p1, iv p2, iv p3, iv p4, iv (4 : Int32), iv c0, iv c1, iv c2, iv c3, rv va1, rv r29, iv (own_wi c0), iv (own_wi c1), iv (own_wi c2), iv (own_wi c3), .unset, .unset, .unset] [(.int (4 : Int32))])) (fun _ k_ => XS.iload X36.here hx rfl (hb hby at_196) rfl  k_) ?_
          refine own_stW (T' := T36) (g' := (mkF m 200 #[iv p0, iv p1, iv p2, iv p3, iv p4, iv (4 : Int32), iv c0, iv c1, iv c2, iv c3, rv va1, rv r29, iv (own_wi c0), iv (own_wi c1), iv (own_wi c2), iv (own_wi c3), iv (4 : Int32), .unset, .unset] [])) (fun _ k_ => XS.istore X36.here hx rfl (hb hby at_198) rfl (l' := #[iv p0, iv p1, iv p2, iv p3, iv p4, iv (4 : Int32), iv c0, iv c1, iv c2, iv c3, rv va1, rv r29, iv (own_wi c0), iv (own_wi c1), iv (own_wi c2), iv (own_wi c3), iv (4 : Int32), .unset, .unset]) rfl k_) ?_
          have ne53 : va1 ≠ b20 := Nat.ne_of_lt (Nat.lt_of_lt_of_le (Nat.lt_of_lt_of_le (Nat.lt_of_lt_of_le (Nat.lt_of_lt_of_le (Nat.lt_of_lt_of_le fq1_0.lt (Nat.le_of_eq (Wr.size W4).symm)) (Nat.le_of_eq (Wr.size W7).symm)) (Nat.le_of_eq (Wr.size W10).symm)) (Nat.le_of_eq (Wr.size W13).symm)) (Nat.le_of_eq g20.symm))
          have f54 : Arv Z T25.heap va1 kc1 .char (4 : Int32) [(.int c0), (.int c1), (.int c2), (.int c3)] (.int (0 : Int32)) := f23.keep K25 (ninS ne53 nin0)
          have f55 : Arv Z T29.heap va1 kc1 .char (4 : Int32) [(.int c0), (.int c1), (.int c2), (.int c3)] (.int (0 : Int32)) := f54.keep K29 nin0
          exact seg_f4 h0 T29.heap n0 p0 p1 p2 p3 p4 c0 c1 c2 c3 va1 kc1 r29 u29 ku29 4 cz fm X36 hx hZs hZ29 hS29 (Nat.le_refl _) CR30 hw hby hml howns hown29 hnm hret hlk eq36 N36 f32 hr0 hr1 hr2 hr3 f55 fq29_0 fq29_2 fq29_1 fq29_3 (by simp [own_is, own_wiT hc37, own_wiT hc41, own_wiT hc45, own_wiT hc49]) SC hcz SF hfm
theorem ef_0 (m : MethodId) (x0 : Int32) (x1 : Int32) (x2 : Int32) (x3 : Int32) (x4 : Int32) : entryFrame m #[(.int x0), (.int x1), (.int x2), (.int x3), (.int x4)] maxLocals = mkF m 0 #[iv x0, iv x1, iv x2, iv x3, iv x4, .unset, .unset, .unset, .unset, .unset, .unset, .unset, .unset, .unset, .unset, .unset, .unset, .unset, .unset] [] := by first | (simp [entryFrame, mkF, argsToLocals, Value.category, maxLocals]; done) | rfl
set_option maxRecDepth 65536 in
set_option maxHeartbeats 40000000 in
theorem rm_0 (l : Launch) (Z : State) (a0 : Array Value) (hw : ∀ d ∈ tables_1, d.before a0 Z = true) (ws : List Jvm.Cond) (p0 : Int32) (p1 : Int32) (p2 : Int32) (p3 : Int32) (p4 : Int32) (cz : Int32) (fm : Value) (h0 : Heap) (n0 : Nat) (O0 : Old Z n0 h0) (SC : Sta Z Z.heap "java/lang/String" "COMPACT_STRINGS" "Z" (.int cz)) (hcz : ¬ cz = (0 : Int32)) (SF : Sta Z Z.heap "jdk/internal/util/Preconditions" "SIOOBE_FORMATTER" "Ljava/util/function/BiFunction;" fm) (hfm : fm.isRef = true) :
    MetFree l x (head1 (Jvm.Cond.code x code maxLocals ret :: ws) room_1) (fun ar_ U => ar_ = #[(.int p0), (.int p1), (.int p2), (.int p3), (.int p4)] ∧ Z.Warmed39 U.vm ∧ U.heap = h0 ∧ CHv Z consts_1 U.vm h0 ∧ ∀ x ∈ ([] : List Addr), Safe Z consts_1 U.vm h0 x) (fun _ _ _ _ _ => True) (fun _ U o U' => ∃ v L, o = .returned v ∧ own_L n0 v U'.heap L ∧ CHr Z consts_1 U.vm U.heap U'.vm U'.heap ∧ ReturnedEndW U o U' L room_1.cells room_1.slots) := by
  refine MetFree.of_bodySF (plainFor_of_name pn_6) hisR ?_
  intro p e s m args below meth c s₁ Bd hml0 hP hK
  obtain ⟨rfl, hZ, hh, CH0, SF0⟩ := hP
  have hx := Bd.exec
  have hby := Bd.bytes
  have hml : c.maxLocals = 19 := hml0
  have hown : s.vm.findClass "com/example/sheafgate/sheafgate/http/RequestFieldsStripPinLaw" = some m.cls := findClass_of_methodNamed Bd.named
  have hnm := (name_of_methodNamed Bd.named Bd.method).1
  have X0 : Stand p l e room_1 (s.setVm s.vm) m #[(.int p0), (.int p1), (.int p2), (.int p3), (.int p4)] below meth c s₁ [] 0 0 := Stand.of_body Bd
  have e0 : s₁.heap = h0 := by rw [← hh, Bd.state]; rfl
  have N0 := Fr.nil n0
  have hret := Bd.returns
  have hlk : meth.locks = false := Bd.notSynchronized
  have hEL := own_EW hw
  have hZs := hZ
  have howns := hown
  have hS0 : s.Since s.vm s.heap.size := (State.WarmedH.refl s).since _
  have hk0 : s.heap.size ≤ h0.size := Nat.le_of_eq (by rw [hh])
  have CR0 := CHr.refl CH0
  refine own_W0 hh ?_
  show own_W p e below s room_1.cells room_1.slots Z consts_1 h0 (own_L n0) s₁ (entryFrame m #[(.int p0), (.int p1), (.int p2), (.int p3), (.int p4)] maxLocals)
  rw [ef_0 m p0 p1 p2 p3 p4]
  refine own_stW (T' := s₁) (g' := (mkF m 1 #[iv p0, iv p1, iv p2, iv p3, iv p4, .unset, .unset, .unset, .unset, .unset, .unset, .unset, .unset, .unset, .unset, .unset, .unset, .unset, .unset] [(.int p0)])) (fun _ k_ => XS.iloadN X0.here hx rfl (hb hby at_0) rfl  k_) ?_
  refine own_stW (T' := s₁) (g' := (mkF m 3 #[iv p0, iv p1, iv p2, iv p3, iv p4, .unset, .unset, .unset, .unset, .unset, .unset, .unset, .unset, .unset, .unset, .unset, .unset, .unset, .unset] [(.int (2147483647 : Int32)), (.int p0)])) (X0.ldcInt hx hown (mvT hZ (wd hw 0 rfl)) (g := (mkF m 1 #[iv p0, iv p1, iv p2, iv p3, iv p4, .unset, .unset, .unset, .unset, .unset, .unset, .unset, .unset, .unset, .unset, .unset, .unset, .unset, .unset] [(.int p0)])) rfl (hb hby at_1)) ?_
  refine own_stW (T' := s₁) (g' := (mkF m 4 #[iv p0, iv p1, iv p2, iv p3, iv p4, .unset, .unset, .unset, .unset, .unset, .unset, .unset, .unset, .unset, .unset, .unset, .unset, .unset, .unset] [(.int (p0 &&& (2147483647 : Int32)))])) (fun _ k_ => XS.iand X0.here hx rfl (hb hby at_3) rfl k_) ?_
  refine own_stW (T' := s₁) (g' := (mkF m 5 #[iv p0, iv p1, iv p2, iv p3, iv p4, .unset, .unset, .unset, .unset, .unset, .unset, .unset, .unset, .unset, .unset, .unset, .unset, .unset, .unset] [(.int (5 : Int32)), (.int (p0 &&& (2147483647 : Int32)))])) (fun _ k_ => XS.iconst X0.here hx rfl (hb hby at_4) k_) ?_
  refine own_stW (T' := s₁) (g' := (mkF m 6 #[iv p0, iv p1, iv p2, iv p3, iv p4, .unset, .unset, .unset, .unset, .unset, .unset, .unset, .unset, .unset, .unset, .unset, .unset, .unset, .unset] [(.int ((p0 &&& (2147483647 : Int32)) % (5 : Int32)))])) (fun _ k_ => iremM X0 hx rfl (hb hby at_5) rfl (by decide) k_) ?_
  refine own_stW (T' := s₁) (g' := (mkF m 8 #[iv p0, iv p1, iv p2, iv p3, iv p4, iv ((p0 &&& (2147483647 : Int32)) % (5 : Int32)), .unset, .unset, .unset, .unset, .unset, .unset, .unset, .unset, .unset, .unset, .unset, .unset, .unset] [])) (fun _ k_ => XS.istore X0.here hx rfl (hb hby at_6) rfl (l' := #[iv p0, iv p1, iv p2, iv p3, iv p4, iv ((p0 &&& (2147483647 : Int32)) % (5 : Int32)), .unset, .unset, .unset, .unset, .unset, .unset, .unset, .unset, .unset, .unset, .unset, .unset, .unset]) rfl k_) ?_
  refine own_stW (T' := s₁) (g' := (mkF m 9 #[iv p0, iv p1, iv p2, iv p3, iv p4, iv ((p0 &&& (2147483647 : Int32)) % (5 : Int32)), .unset, .unset, .unset, .unset, .unset, .unset, .unset, .unset, .unset, .unset, .unset, .unset, .unset] [(.int p1)])) (fun _ k_ => XS.iloadN X0.here hx rfl (hb hby at_8) rfl  k_) ?_
  obtain ⟨_, T1, L1, X1, hQ1, st1⟩ := own_callS X0 hx (y := own_m22) hown (mvT hZ (wd hw 1 rfl)) (mvT hZ (wd hw 2 rfl)) (mvT hZ (wd hw 3 rfl)) (mvT hZ (wd hw 4 rfl)) (by decide) (backOf (W := 0) (rm_pick l Z a0 hw [] p1 h0 n0 O0) hZ (wd hw 4 rfl) (wd hw 3 rfl) (by decide) (by decide)) (g := (mkF m 9 #[iv p0, iv p1, iv p2, iv p3, iv p4, iv ((p0 &&& (2147483647 : Int32)) % (5 : Int32)), .unset, .unset, .unset, .unset, .unset, .unset, .unset, .unset, .unset, .unset, .unset, .unset, .unset] [(.int p1)])) rfl (by rw [hml]; rfl) (argsL := [(.int p1)]) (rest := []) (lenOf pd__I_C rfl) rfl (by show 2 * 0 + _ ≤ _; exact Nat.le_of_eq rfl) (hb hby at_9) rfl e0 (by decide) (by decide) (c' := 0) (s' := 0) rfl rfl
  obtain ⟨cc1, rfl, Nq1, eq1, xq1_hr⟩ := hQ1
  have N1 := Fr.app N0 Nq1
  refine own_stW (T' := T1) (g' := (mkF m 12 #[iv p0, iv p1, iv p2, iv p3, iv p4, iv ((p0 &&& (2147483647 : Int32)) % (5 : Int32)), .unset, .unset, .unset, .unset, .unset, .unset, .unset, .unset, .unset, .unset, .unset, .unset, .unset] [(.int cc1)])) st1 ?_
  clear st1
  refine own_stW (T' := T1) (g' := (mkF m 14 #[iv p0, iv p1, iv p2, iv p3, iv p4, iv ((p0 &&& (2147483647 : Int32)) % (5 : Int32)), iv cc1, .unset, .unset, .unset, .unset, .unset, .unset, .unset, .unset, .unset, .unset, .unset, .unset] [])) (fun _ k_ => XS.istore X1.here hx rfl (hb hby at_12) rfl (l' := #[iv p0, iv p1, iv p2, iv p3, iv p4, iv ((p0 &&& (2147483647 : Int32)) % (5 : Int32)), iv cc1, .unset, .unset, .unset, .unset, .unset, .unset, .unset, .unset, .unset, .unset, .unset, .unset]) rfl k_) ?_
  refine own_stW (T' := T1) (g' := (mkF m 15 #[iv p0, iv p1, iv p2, iv p3, iv p4, iv ((p0 &&& (2147483647 : Int32)) % (5 : Int32)), iv cc1, .unset, .unset, .unset, .unset, .unset, .unset, .unset, .unset, .unset, .unset, .unset, .unset] [(.int p2)])) (fun _ k_ => XS.iloadN X1.here hx rfl (hb hby at_14) rfl  k_) ?_
  obtain ⟨_, T2, L2, X2, hQ2, st2⟩ := own_callS X1 hx (y := own_m22) hown (mvT hZ (wd hw 1 rfl)) (mvT hZ (wd hw 2 rfl)) (mvT hZ (wd hw 3 rfl)) (mvT hZ (wd hw 4 rfl)) (by decide) (backOf (W := 0) (rm_pick l Z a0 hw [] p2 h0 n0 O0) hZ (wd hw 4 rfl) (wd hw 3 rfl) (by decide) (by decide)) (g := (mkF m 15 #[iv p0, iv p1, iv p2, iv p3, iv p4, iv ((p0 &&& (2147483647 : Int32)) % (5 : Int32)), iv cc1, .unset, .unset, .unset, .unset, .unset, .unset, .unset, .unset, .unset, .unset, .unset, .unset] [(.int p2)])) rfl (by rw [hml]; rfl) (argsL := [(.int p2)]) (rest := []) (lenOf pd__I_C rfl) rfl (by show 2 * 0 + _ ≤ _; exact Nat.le_of_eq rfl) (hb hby at_15) rfl eq1 (by decide) (by decide) (c' := 0) (s' := 0) rfl rfl
  obtain ⟨cc2, rfl, Nq2, eq2, xq2_hr⟩ := hQ2
  have N2 := Fr.app N1 Nq2
  refine own_stW (T' := T2) (g' := (mkF m 18 #[iv p0, iv p1, iv p2, iv p3, iv p4, iv ((p0 &&& (2147483647 : Int32)) % (5 : Int32)), iv cc1, .unset, .unset, .unset, .unset, .unset, .unset, .unset, .unset, .unset, .unset, .unset, .unset] [(.int cc2)])) st2 ?_
  clear st2
  refine own_stW (T' := T2) (g' := (mkF m 20 #[iv p0, iv p1, iv p2, iv p3, iv p4, iv ((p0 &&& (2147483647 : Int32)) % (5 : Int32)), iv cc1, iv cc2, .unset, .unset, .unset, .unset, .unset, .unset, .unset, .unset, .unset, .unset, .unset] [])) (fun _ k_ => XS.istore X2.here hx rfl (hb hby at_18) rfl (l' := #[iv p0, iv p1, iv p2, iv p3, iv p4, iv ((p0 &&& (2147483647 : Int32)) % (5 : Int32)), iv cc1, iv cc2, .unset, .unset, .unset, .unset, .unset, .unset, .unset, .unset, .unset, .unset, .unset]) rfl k_) ?_
  refine own_stW (T' := T2) (g' := (mkF m 21 #[iv p0, iv p1, iv p2, iv p3, iv p4, iv ((p0 &&& (2147483647 : Int32)) % (5 : Int32)), iv cc1, iv cc2, .unset, .unset, .unset, .unset, .unset, .unset, .unset, .unset, .unset, .unset, .unset] [(.int p3)])) (fun _ k_ => XS.iloadN X2.here hx rfl (hb hby at_20) rfl  k_) ?_
  obtain ⟨_, T3, L3, X3, hQ3, st3⟩ := own_callS X2 hx (y := own_m22) hown (mvT hZ (wd hw 1 rfl)) (mvT hZ (wd hw 2 rfl)) (mvT hZ (wd hw 3 rfl)) (mvT hZ (wd hw 4 rfl)) (by decide) (backOf (W := 0) (rm_pick l Z a0 hw [] p3 h0 n0 O0) hZ (wd hw 4 rfl) (wd hw 3 rfl) (by decide) (by decide)) (g := (mkF m 21 #[iv p0, iv p1, iv p2, iv p3, iv p4, iv ((p0 &&& (2147483647 : Int32)) % (5 : Int32)), iv cc1, iv cc2, .unset, .unset, .unset, .unset, .unset, .unset, .unset, .unset, .unset, .unset, .unset] [(.int p3)])) rfl (by rw [hml]; rfl) (argsL := [(.int p3)]) (rest := []) (lenOf pd__I_C rfl) rfl (by show 2 * 0 + _ ≤ _; exact Nat.le_of_eq rfl) (hb hby at_21) rfl eq2 (by decide) (by decide) (c' := 0) (s' := 0) rfl rfl
  obtain ⟨cc3, rfl, Nq3, eq3, xq3_hr⟩ := hQ3
  have N3 := Fr.app N2 Nq3
  refine own_stW (T' := T3) (g' := (mkF m 24 #[iv p0, iv p1, iv p2, iv p3, iv p4, iv ((p0 &&& (2147483647 : Int32)) % (5 : Int32)), iv cc1, iv cc2, .unset, .unset, .unset, .unset, .unset, .unset, .unset, .unset, .unset, .unset, .unset] [(.int cc3)])) st3 ?_
  clear st3
  refine own_stW (T' := T3) (g' := (mkF m 26 #[iv p0, iv p1, iv p2, iv p3, iv p4, iv ((p0 &&& (2147483647 : Int32)) % (5 : Int32)), iv cc1, iv cc2, iv cc3, .unset, .unset, .unset, .unset, .unset, .unset, .unset, .unset, .unset, .unset] [])) (fun _ k_ => XS.istore X3.here hx rfl (hb hby at_24) rfl (l' := #[iv p0, iv p1, iv p2, iv p3, iv p4, iv ((p0 &&& (2147483647 : Int32)) % (5 : Int32)), iv cc1, iv cc2, iv cc3, .unset, .unset, .unset, .unset, .unset, .unset, .unset, .unset, .unset, .unset]) rfl k_) ?_
  refine own_stW (T' := T3) (g' := (mkF m 28 #[iv p0, iv p1, iv p2, iv p3, iv p4, iv ((p0 &&& (2147483647 : Int32)) % (5 : Int32)), iv cc1, iv cc2, iv cc3, .unset, .unset, .unset, .unset, .unset, .unset, .unset, .unset, .unset, .unset] [(.int p4)])) (fun _ k_ => XS.iload X3.here hx rfl (hb hby at_26) rfl  k_) ?_
  obtain ⟨_, T4, L4, X4, hQ4, st4⟩ := own_callS X3 hx (y := own_m22) hown (mvT hZ (wd hw 1 rfl)) (mvT hZ (wd hw 2 rfl)) (mvT hZ (wd hw 3 rfl)) (mvT hZ (wd hw 4 rfl)) (by decide) (backOf (W := 0) (rm_pick l Z a0 hw [] p4 h0 n0 O0) hZ (wd hw 4 rfl) (wd hw 3 rfl) (by decide) (by decide)) (g := (mkF m 28 #[iv p0, iv p1, iv p2, iv p3, iv p4, iv ((p0 &&& (2147483647 : Int32)) % (5 : Int32)), iv cc1, iv cc2, iv cc3, .unset, .unset, .unset, .unset, .unset, .unset, .unset, .unset, .unset, .unset] [(.int p4)])) rfl (by rw [hml]; rfl) (argsL := [(.int p4)]) (rest := []) (lenOf pd__I_C rfl) rfl (by show 2 * 0 + _ ≤ _; exact Nat.le_of_eq rfl) (hb hby at_28) rfl eq3 (by decide) (by decide) (c' := 0) (s' := 0) rfl rfl
  obtain ⟨cc4, rfl, Nq4, eq4, xq4_hr⟩ := hQ4
  have N4 := Fr.app N3 Nq4
  refine own_stW (T' := T4) (g' := (mkF m 31 #[iv p0, iv p1, iv p2, iv p3, iv p4, iv ((p0 &&& (2147483647 : Int32)) % (5 : Int32)), iv cc1, iv cc2, iv cc3, .unset, .unset, .unset, .unset, .unset, .unset, .unset, .unset, .unset, .unset] [(.int cc4)])) st4 ?_
  clear st4
  refine own_stW (T' := T4) (g' := (mkF m 33 #[iv p0, iv p1, iv p2, iv p3, iv p4, iv ((p0 &&& (2147483647 : Int32)) % (5 : Int32)), iv cc1, iv cc2, iv cc3, iv cc4, .unset, .unset, .unset, .unset, .unset, .unset, .unset, .unset, .unset] [])) (fun _ k_ => XS.istore X4.here hx rfl (hb hby at_31) rfl (l' := #[iv p0, iv p1, iv p2, iv p3, iv p4, iv ((p0 &&& (2147483647 : Int32)) % (5 : Int32)), iv cc1, iv cc2, iv cc3, iv cc4, .unset, .unset, .unset, .unset, .unset, .unset, .unset, .unset, .unset]) rfl k_) ?_
  rcases own_rem5 p0 with h | h | h | h | h <;> rw [h]
  · exact seg_a0 h0 h0 n0 p0 p1 p2 p3 p4 cc1 cc2 cc3 cc4 cz fm X4 hx hZs hZ hS0 hk0 CR0 hw hby hml howns hown hnm hret hlk eq4 N4 O0 xq1_hr xq2_hr xq3_hr xq4_hr SC hcz SF hfm
  · exact seg_a1 h0 h0 n0 p0 p1 p2 p3 p4 cc1 cc2 cc3 cc4 cz fm X4 hx hZs hZ hS0 hk0 CR0 hw hby hml howns hown hnm hret hlk eq4 N4 O0 xq1_hr xq2_hr xq3_hr xq4_hr SC hcz SF hfm
  · exact seg_a2 h0 h0 n0 p0 p1 p2 p3 p4 cc1 cc2 cc3 cc4 cz fm X4 hx hZs hZ hS0 hk0 CR0 hw hby hml howns hown hnm hret hlk eq4 N4 O0 xq1_hr xq2_hr xq3_hr xq4_hr SC hcz SF hfm
  · exact seg_a3 h0 h0 n0 p0 p1 p2 p3 p4 cc1 cc2 cc3 cc4 cz fm X4 hx hZs hZ hS0 hk0 CR0 hw hby hml howns hown hnm hret hlk eq4 N4 O0 xq1_hr xq2_hr xq3_hr xq4_hr SC hcz SF hfm
  · exact seg_a4 h0 h0 n0 p0 p1 p2 p3 p4 cc1 cc2 cc3 cc4 cz fm X4 hx hZs hZ hS0 hk0 CR0 hw hby hml howns hown hnm hret hlk eq4 N4 O0 xq1_hr xq2_hr xq3_hr xq4_hr SC hcz SF hfm
set_option maxRecDepth 65536 in
set_option maxHeartbeats 40000000 in
theorem comes_1 {Post : Tables → Env → Array Value → State → Outcome → State → Prop} (hpost : ∀ tb e args s v u, (limb_1_1.after args s (.returned v) u = true ∧ limb_1_2.after args s (.returned v) u = true ∧ True) → ReturnedEndW s (.returned v) u (Jvm.fieldLocs frame_1_writes args s ++ Jvm.arrayLocs frame_1_arrays args s ++ Jvm.staticLocs frame_1_statics s) 24 2176 → Post tb e args s (.returned v) u) :
    ArmFor flags0 classFile x code maxLocals ret World_1 tables_1 room_1 Calls_1 rest_1 Pre_1 Post := by
  intro l hfl _ _ p e ha hc hk s m args below hf hA hF happ hP
  obtain ⟨hcalls, hrest, hpre⟩ := hP
  obtain ⟨-, -, -, hnamed, -, -, -, hat⟩ := (Spec.applies_iff hf).mp happ
  obtain ⟨hg, hn⟩ := and_e (Cond.before_iff.mp (show (Jvm.Cond.and given_1 narrow_1).before args s = true from hpre))
  obtain ⟨u1a, u1b⟩ := and_e hg
  obtain ⟨u2a, u2b⟩ := and_e u1b
  obtain ⟨u3a, u3b⟩ := and_e u2b
  obtain ⟨u4a, u4b⟩ := and_e u3b
  obtain ⟨u5a, u5b⟩ := and_e u4b
  obtain ⟨v0, v1, v2, v3, v4, rfl⟩ : ∃ v0 v1 v2 v3 v4 : Value, args = #[v0, v1, v2, v3, v4] := by
    have hs : args.size = 5 := by simpa [Cond.value, given_1] using u1a
    obtain ⟨L⟩ := args
    match L, hs with
    | [v0, v1, v2, v3, v4], _ => exact ⟨v0, v1, v2, v3, v4, rfl⟩
  have hw := fun d (hd : d ∈ tables_1) => atoms_spec (ws := Jvm.Cond.code x code maxLocals ret :: tables_1) hat d (List.mem_cons_of_mem _ hd)
  have hfit : Fit s := fun {y c} hc i hi => by
    obtain ⟨ha, rfl⟩ := Array.getElem?_eq_some_iff.mp hc
    have q := List.all_eq_true.mp ((Array.all_eq_true_iff_forall_mem.mp hF) _ (Array.getElem_mem ha)) i (List.mem_range.mpr hi)
    simpa [Array.getElem?_eq_getElem hi] using q
  obtain ⟨hsets, hown0⟩ := atoms_of _ (rest_1_c_eq ▸ (show rest_1_c.before _ s = true from hrest))
  have hr0 := Cond.before_iff.mp hown0
  obtain ⟨i0, ei0⟩ := is_v u2a
  obtain rfl : v0 = (.int i0) := Option.some.inj ei0
  obtain ⟨i1, ei1⟩ := is_v u3a
  obtain rfl : v1 = (.int i1) := Option.some.inj ei1
  obtain ⟨i2, ei2⟩ := is_v u4a
  obtain rfl : v2 = (.int i2) := Option.some.inj ei2
  obtain ⟨i3, ei3⟩ := is_v u5a
  obtain rfl : v3 = (.int i3) := Option.some.inj ei3
  obtain ⟨i4, ei4⟩ := is_v u5b
  obtain rfl : v4 = (.int i4) := Option.some.inj ei4
  obtain ⟨cz, evc⟩ := is_v (Cond.before_iff.mp (hsets _ (List.mem_of_getElem? (i := 1) rfl)))
  have SC := Sta.start evc (Or.inl (hsets _ (List.mem_of_getElem? (i := 0) rfl)))
  have hcw : Jvm.Lit.compactW.before _ s = true := (hsets _ (List.mem_of_getElem? (i := 2) rfl))
  have hcz : ¬ cz = (0 : Int32) := own_nz evc (Cond.before_iff.mp (hsets _ (List.mem_of_getElem? (i := 2) rfl)))
  obtain ⟨fm, evf, hfm⟩ := isR_v (Cond.before_iff.mp (hsets _ (List.mem_of_getElem? (i := 8) rfl)))
  have SF := Sta.start evf (Or.inl (hsets _ (List.mem_of_getElem? (i := 7) rfl)))
  have CH0 : CHv s consts_1 s.vm s.heap := CHv.start (own_EW hw) (fun q hq => hcalls.1 q hq) hcw (wd hw 23 rfl) (wd hw 10 rfl)
  obtain ⟨n, o, h1, h2, h3, _, L, rfl, ⟨rfl, N⟩, -, hq⟩ := rm_0 l s _ hw tables_1 i0 i1 i2 i3 i4 cz fm s.heap s.heap.size (Old.start s) SC hcz SF hfm p e ha hc hk s m _ below hf ((Spec.applies_iff_loose hf).mp happ).1 ⟨rfl, State.Warmed39.refl s, rfl, CH0, fun _ q => nomatch q⟩ trivial
  refine ⟨n, _, h1, h2, h3, hpost _ _ _ _ _ _ ⟨Cond.after_iff.mpr rfl, Cond.after_iff.mpr (eq_i res_at (Term.int_eval (1)) rfl), trivial⟩ ⟨hq.1, hq.2.1, hq.2.2.1, (hq.2.2.2.sift fun y hy => Or.inr (N y hy)).mono (by decide) (by decide)⟩⟩
theorem main_1_1 : Claimed_1_1 := comes_1 fun _ _ _ _ _ _ h hF => ⟨h.1, hF⟩
theorem main_1_2 : Claimed_1_2 := comes_1 fun _ _ _ _ _ _ h hF => ⟨h.2.1, hF⟩
end Jvm.Pilot.@@N@@
namespace Jvm.Pilot.@@N@@
open Jvm Jvm.ClassFile Sem Op Lib Jvm.Free Jvm.Stand Jvm.Pilot.@@N@@.Jvm.D
/-! MADE BY PROGRAM (witnessworld.py) out of the Statement's table words and the real class files: 23 classes; the members and pool entries that the words name. The judged class is class 1, her method 5. -/
namespace start1
open Jvm.ClassFile
def u (s : String) : CpInfo := .utf8 (stringToUtf16 s)
/-- a pool by its gaps: so many unusable entries, then the entry; so many at the end -/
def gap : Nat → List CpInfo → List CpInfo
  | 0, r => r
  | n + 1, r => .unusable :: gap n r
def poolList (es : List (Nat × CpInfo)) (last : Nat) : List CpInfo := es.foldr (fun e r => gap e.1 (e.2 :: r)) (gap last [])
def pool (es : List (Nat × CpInfo)) (last : Nat) : Array CpInfo := ⟨poolList es last⟩
def fileOf (pool : Array CpInfo) (this : Nat) (attrs : Array Attribute := #[]) (ms : Array MethodInfo := #[]) (fl : Nat := 33) (sup : Nat := 0) (ifs : Array Nat := #[]) (fds : Array FieldInfo := #[]) : ClassFile where
  minorVersion := 0
  majorVersion := 65
  constantPool := pool
  accessFlags := fl
  thisClass := this
  superClass := sup
  interfaces := ifs
  fields := fds
  methods := ms
  attributes := attrs
def plain (name : String) (sup : Option ClassId) : Class where
  name := name
  kind := .ordinary
  loader := none
  accessFlags := 33
  super := sup
  interfaces := #[]
  cf := none
  fields := #[]
  methods := #[]
  instanceTypes := #[]
  staticTypes := #[]
  resolved := #[]
  callSites := []
  init := .initialized
  statics := none
  mirror := none

def pool0 : Array CpInfo := pool [(5, u "<init>"), (0, u "()V"), (1, .class_ 10), (1, u "java/lang/Object")] 113

def k0c0 : Code := { maxStack := 0, maxLocals := 1, code := object_method_1_code, exceptionTable := #[], attributes := #[] }
def k0m0 : Method := { name := "<init>", desc := "()V", sig := { parameters := [], returnType := none }, accessFlags := 1, code := some k0c0 }
/-- java/lang/Object -/
def k0 : Class := { plain "java/lang/Object" none with
  accessFlags := 33
  interfaces := #[]
  cf := some (fileOf pool0 8 #[] #[{ accessFlags := 1, nameIndex := 5, descriptorIndex := 6, attributes := #[] }] 33 0 #[] #[])
  fields := #[]
  methods := #[k0m0]
  instanceTypes := #[]
  staticTypes := #[]
  resolved := Array.replicate 124 none
  statics := none }

def pool1 : Array CpInfo := pool [(2, .class_ 4), (1, u "java/lang/Object"), (0, u "<init>"), (0, u "()V"), (0, .methodref 8 9), (0, .class_ 10), (0, .nameAndType 11 12), (0, u "java/lang/String"), (0, u "charAt"), (0, u "(I)C"), (0, .integer 2147483647), (0, .methodref 15 16), (0, .class_ 17), (0, .nameAndType 18 12), (0, u "com/example/sheafgate/sheafgate/http/RequestFieldsStripPinLaw"), (0, u "pick"), (0, .methodref 15 20), (0, .nameAndType 21 22), (0, u "make"), (0, u "(I)[C"), (0, .methodref 8 24), (0, .nameAndType 5 25), (0, u "([C)V"), (0, .methodref 27 28), (0, .class_ 29), (0, .nameAndType 30 31), (0, u "com/example/sheafgate/sheafgate/http/RequestFields"), (0, u "strip"), (0, u "(Ljava/lang/String;)Ljava/lang/String;"), (0, .methodref 15 33), (0, .nameAndType 34 35), (0, u "ws"), (0, u "(C)Z"), (0, .methodref 8 37), (0, .nameAndType 38 39), (0, u "length"), (0, u "()I"), (0, .methodref 15 41), (0, .nameAndType 42 43), (0, u "same"), (0, u "(Ljava/lang/String;[CIII)Z"), (3, u "law"), (0, u "(IIIII)Z")] 4

def k1m0 : Method := { name := "<init>", desc := "()V", sig := { parameters := [], returnType := none }, accessFlags := 1, code := none }
def k1c1 : Code := { maxStack := 2, maxLocals := 2, code := method_2_code, exceptionTable := #[], attributes := #[] }
def k1m1 : Method := { name := "pick", desc := "(I)C", sig := { parameters := [.int], returnType := some .char }, accessFlags := 10, code := some k1c1 }
def k1c2 : Code := { maxStack := 2, maxLocals := 1, code := method_3_code, exceptionTable := #[], attributes := #[] }
def k1m2 : Method := { name := "ws", desc := "(C)Z", sig := { parameters := [.char], returnType := some .boolean }, accessFlags := 10, code := some k1c2 }
def k1c3 : Code := { maxStack := 2, maxLocals := 1, code := method_4_code, exceptionTable := #[], attributes := #[] }
def k1m3 : Method := { name := "make", desc := "(I)[C", sig := { parameters := [.int], returnType := some (.array .char) }, accessFlags := 10, code := some k1c3 }
def k1c4 : Code := { maxStack := 4, maxLocals := 5, code := method_5_code, exceptionTable := #[], attributes := #[] }
def k1m4 : Method := { name := "same", desc := "(Ljava/lang/String;[CIII)Z", sig := { parameters := [(.object "java/lang/String"), (.array .char), .int, .int, .int], returnType := some .boolean }, accessFlags := 10, code := some k1c4 }
def k1c5 : Code := { maxStack := 5, maxLocals := 19, code := code, exceptionTable := #[], attributes := #[] }
def k1m5 : Method := { name := "law", desc := "(IIIII)Z", sig := { parameters := [.int, .int, .int, .int, .int], returnType := some .boolean }, accessFlags := 9, code := some k1c5 }
/-- com/example/sheafgate/sheafgate/http/RequestFieldsStripPinLaw -/
def k1 : Class := { plain "com/example/sheafgate/sheafgate/http/RequestFieldsStripPinLaw" (some 0) with
  accessFlags := 49
  interfaces := #[]
  cf := some (fileOf pool1 15 #[] #[{ accessFlags := 1, nameIndex := 5, descriptorIndex := 6, attributes := #[] }, { accessFlags := 10, nameIndex := 18, descriptorIndex := 12, attributes := #[] }, { accessFlags := 10, nameIndex := 34, descriptorIndex := 35, attributes := #[] }, { accessFlags := 10, nameIndex := 21, descriptorIndex := 22, attributes := #[] }, { accessFlags := 10, nameIndex := 42, descriptorIndex := 43, attributes := #[] }, { accessFlags := 9, nameIndex := 47, descriptorIndex := 48, attributes := #[] }] 49 2 #[] #[])
  fields := #[]
  methods := #[k1m0, k1m1, k1m2, k1m3, k1m4, k1m5]
  instanceTypes := #[]
  staticTypes := #[]
  resolved := Array.replicate 53 none
  statics := none }

def pool2 : Array CpInfo := pool [(1, .class_ 2), (0, u "java/io/Serializable"), (0, .class_ 4), (0, u "java/lang/Object")] 2

/-- java/io/Serializable -/
def k2 : Class := { plain "java/io/Serializable" (some 0) with
  accessFlags := 1537
  interfaces := #[]
  cf := some (fileOf pool2 1 #[] #[] 1537 3 #[] #[])
  fields := #[]
  methods := #[]
  instanceTypes := #[]
  staticTypes := #[]
  resolved := Array.replicate 7 none
  statics := none }

def pool3 : Array CpInfo := pool [(1, .class_ 2), (0, u "java/lang/Comparable"), (0, .class_ 4), (0, u "java/lang/Object")] 7

/-- java/lang/Comparable -/
def k3 : Class := { plain "java/lang/Comparable" (some 0) with
  accessFlags := 1537
  interfaces := #[]
  cf := some (fileOf pool3 1 #[] #[] 1537 3 #[] #[])
  fields := #[]
  methods := #[]
  instanceTypes := #[]
  staticTypes := #[]
  resolved := Array.replicate 12 none
  statics := none }

def pool4 : Array CpInfo := pool [(2, .class_ 4), (1, u "java/lang/CharSequence"), (42, .class_ 48), (0, u "java/lang/CharSequence$1CodePointIterator"), (10, .class_ 60), (0, u "java/lang/CharSequence$1CharIterator"), (5, .class_ 67), (0, u "java/lang/Object")] 63

/-- java/lang/CharSequence -/
def k4 : Class := { plain "java/lang/CharSequence" (some 0) with
  accessFlags := 1537
  interfaces := #[]
  cf := some (fileOf pool4 2 #[.nestMembers #[47, 59]] #[] 1537 66 #[] #[])
  fields := #[]
  methods := #[]
  instanceTypes := #[]
  staticTypes := #[]
  resolved := Array.replicate 131 none
  statics := none }

def pool5 : Array CpInfo := pool [(1, .class_ 2), (0, u "java/lang/constant/Constable"), (0, .class_ 4), (0, u "java/lang/Object")] 6

/-- java/lang/constant/Constable -/
def k5 : Class := { plain "java/lang/constant/Constable" (some 0) with
  accessFlags := 1537
  interfaces := #[]
  cf := some (fileOf pool5 1 #[] #[] 1537 3 #[] #[])
  fields := #[]
  methods := #[]
  instanceTypes := #[]
  staticTypes := #[]
  resolved := Array.replicate 11 none
  statics := none }

def pool6 : Array CpInfo := pool [(1, .class_ 2), (0, u "java/lang/constant/ConstantDesc"), (0, .class_ 4), (0, u "java/lang/Object")] 32

/-- java/lang/constant/ConstantDesc -/
def k6 : Class := { plain "java/lang/constant/ConstantDesc" (some 0) with
  accessFlags := 1537
  interfaces := #[]
  cf := some (fileOf pool6 1 #[] #[] 1537 3 #[] #[])
  fields := #[]
  methods := #[]
  instanceTypes := #[]
  staticTypes := #[]
  resolved := Array.replicate 37 none
  statics := none }

def pool7 : Array CpInfo := pool [(1, .methodref 2 3), (0, .class_ 4), (0, .nameAndType 5 6), (0, u "java/lang/Object"), (0, u "<init>"), (0, u "()V"), (0, .string 8), (0, u ""), (0, .fieldref 10 11), (0, .class_ 12), (0, .nameAndType 13 14), (0, u "java/lang/String"), (0, u "value"), (0, u "[B"), (0, .fieldref 10 16), (0, .nameAndType 17 18), (0, u "coder"), (0, u "B"), (2, u "hash"), (0, u "I"), (2, u "hashIsZero"), (0, u "Z"), (0, .methodref 10 28), (0, .nameAndType 5 29), (0, u "([CIILjava/lang/Void;)V"), (8, .fieldref 10 39), (0, .nameAndType 40 26), (0, u "COMPACT_STRINGS"), (1, .class_ 44), (1, u "java/lang/StringUTF16"), (0, u "compress"), (1, .methodref 42 48), (0, .nameAndType 49 50), (0, u "coderFromArrayLen"), (0, u "([BI)B"), (56, .class_ 109), (1, u "java/lang/StringLatin1"), (32, u "()Z"), (34, .methodref 42 178), (0, .nameAndType 45 179), (0, u "([CII)[B"), (31, u "([BB)V"), (122, u "()I"), (0, .methodref 10 336), (0, .nameAndType 17 337), (0, u "()B"), (25, u "([BI)C"), (27, u "(II)V"), (35, u "(I)C"), (64, .methodref 10 493), (0, .nameAndType 494 142), (0, u "isLatin1"), (0, .methodref 107 496), (0, .nameAndType 497 363), (0, u "charAt"), (3, u "checkIndex"), (3, .methodref 10 506), (0, .nameAndType 507 334), (0, u "length"), (5, u "checkFromToIndex"), (7, .methodref 10 522), (0, .nameAndType 523 524), (0, u "checkBoundsBeginEnd"), (0, u "(III)V"), (50, .class_ 576), (0, u "java/lang/CharSequence"), (22, u "CASE_INSENSITIVE_ORDER"), (0, u "Ljava/util/Comparator;"), (82, u "substring"), (0, u "(II)Ljava/lang/String;"), (0, .methodref 107 686), (0, .nameAndType 687 688), (0, u "newString"), (0, u "([BII)Ljava/lang/String;"), (321, u "([C)V"), (42, .fieldref 1054 1055), (0, .class_ 1056), (0, .nameAndType 1057 1058), (0, u "jdk/internal/util/Preconditions"), (0, u "SIOOBE_FORMATTER"), (0, u "Ljava/util/function/BiFunction;"), (0, .methodref 1054 1060), (0, .nameAndType 501 1061), (0, u "(IILjava/util/function/BiFunction;)I"), (0, .methodref 1054 1063), (0, .nameAndType 513 1064), (0, u "(IIILjava/util/function/BiFunction;)I"), (36, u "serialPersistentFields"), (0, u "[Ljava/io/ObjectStreamField;"), (0, .class_ 1104), (0, u "java/lang/String$CaseInsensitiveComparator"), (1, .class_ 1107), (0, u "java/io/Serializable"), (0, .class_ 1109), (0, u "java/lang/Comparable"), (0, .class_ 1111), (0, u "java/lang/constant/Constable"), (0, .class_ 1113), (0, u "java/lang/constant/ConstantDesc"), (2, u "serialVersionUID"), (0, u "J"), (3, u "REPL"), (0, u "C"), (2, u "LATIN1"), (1, u "UTF16")] 323

def k7m0 : Method := { name := "<init>", desc := "()V", sig := { parameters := [], returnType := none }, accessFlags := 1, code := none }
def k7c1 : Code := { maxStack := 5, maxLocals := 2, code := jdk_42_method_3_code, exceptionTable := #[], attributes := #[] }
def k7m1 : Method := { name := "<init>", desc := "([C)V", sig := { parameters := [(.array .char)], returnType := none }, accessFlags := 1, code := some k7c1 }
def k7c2 : Code := { maxStack := 2, maxLocals := 1, code := jdk_42_method_54_code, exceptionTable := #[], attributes := #[] }
def k7m2 : Method := { name := "length", desc := "()I", sig := { parameters := [], returnType := some .int }, accessFlags := 1, code := some k7c2 }
def k7c3 : Code := { maxStack := 2, maxLocals := 2, code := jdk_42_method_56_code, exceptionTable := #[], attributes := #[] }
def k7m3 : Method := { name := "charAt", desc := "(I)C", sig := { parameters := [.int], returnType := some .char }, accessFlags := 1, code := some k7c3 }
def k7c4 : Code := { maxStack := 3, maxLocals := 5, code := jdk_42_method_92_code, exceptionTable := #[], attributes := #[] }
def k7m4 : Method := { name := "substring", desc := "(II)Ljava/lang/String;", sig := { parameters := [.int, .int], returnType := some (.object "java/lang/String") }, accessFlags := 1, code := some k7c4 }
def k7c5 : Code := { maxStack := 4, maxLocals := 6, code := jdk_42_method_149_code, exceptionTable := #[], attributes := #[] }
def k7m5 : Method := { name := "<init>", desc := "([CIILjava/lang/Void;)V", sig := { parameters := [(.array .char), .int, .int, (.object "java/lang/Void")], returnType := none }, accessFlags := 2, code := some k7c5 }
def k7c6 : Code := { maxStack := 2, maxLocals := 3, code := jdk_42_method_151_code, exceptionTable := #[], attributes := #[] }
def k7m6 : Method := { name := "<init>", desc := "([BB)V", sig := { parameters := [(.array .byte), .byte], returnType := none }, accessFlags := 0, code := some k7c6 }
def k7c7 : Code := { maxStack := 1, maxLocals := 1, code := jdk_42_method_152_code, exceptionTable := #[], attributes := #[] }
def k7m7 : Method := { name := "coder", desc := "()B", sig := { parameters := [], returnType := some .byte }, accessFlags := 0, code := some k7c7 }
def k7c8 : Code := { maxStack := 1, maxLocals := 1, code := jdk_42_method_154_code, exceptionTable := #[], attributes := #[] }
def k7m8 : Method := { name := "isLatin1", desc := "()Z", sig := { parameters := [], returnType := some .boolean }, accessFlags := 0, code := some k7c8 }
def k7c9 : Code := { maxStack := 3, maxLocals := 2, code := jdk_42_method_155_code, exceptionTable := #[], attributes := #[] }
def k7m9 : Method := { name := "checkIndex", desc := "(II)V", sig := { parameters := [.int, .int], returnType := none }, accessFlags := 8, code := some k7c9 }
def k7c10 : Code := { maxStack := 4, maxLocals := 3, code := jdk_42_method_158_code, exceptionTable := #[], attributes := #[] }
def k7m10 : Method := { name := "checkBoundsBeginEnd", desc := "(III)V", sig := { parameters := [.int, .int, .int], returnType := none }, accessFlags := 8, code := some k7c10 }
/-- java/lang/String -/
def k7 : Class := { plain "java/lang/String" (some 0) with
  accessFlags := 49
  interfaces := #[2, 3, 4, 5, 6]
  cf := some (fileOf pool7 10 #[.nestMembers #[1103]] #[{ accessFlags := 1, nameIndex := 5, descriptorIndex := 6, attributes := #[] }, { accessFlags := 1, nameIndex := 5, descriptorIndex := 1010, attributes := #[] }, { accessFlags := 1, nameIndex := 507, descriptorIndex := 334, attributes := #[] }, { accessFlags := 1, nameIndex := 497, descriptorIndex := 427, attributes := #[] }, { accessFlags := 1, nameIndex := 683, descriptorIndex := 684, attributes := #[] }, { accessFlags := 2, nameIndex := 5, descriptorIndex := 29, attributes := #[] }, { accessFlags := 0, nameIndex := 5, descriptorIndex := 211, attributes := #[] }, { accessFlags := 0, nameIndex := 17, descriptorIndex := 337, attributes := #[] }, { accessFlags := 0, nameIndex := 494, descriptorIndex := 142, attributes := #[] }, { accessFlags := 8, nameIndex := 501, descriptorIndex := 391, attributes := #[] }, { accessFlags := 8, nameIndex := 523, descriptorIndex := 524, attributes := #[] }] 49 2 #[1106, 1108, 575, 1110, 1112] #[{ accessFlags := 18, nameIndex := 13, descriptorIndex := 14, attributes := #[] }, { accessFlags := 18, nameIndex := 17, descriptorIndex := 18, attributes := #[] }, { accessFlags := 2, nameIndex := 21, descriptorIndex := 22, attributes := #[] }, { accessFlags := 2, nameIndex := 25, descriptorIndex := 26, attributes := #[] }, { accessFlags := 26, nameIndex := 1116, descriptorIndex := 1117, attributes := #[] }, { accessFlags := 24, nameIndex := 40, descriptorIndex := 26, attributes := #[] }, { accessFlags := 26, nameIndex := 1101, descriptorIndex := 1102, attributes := #[] }, { accessFlags := 26, nameIndex := 1121, descriptorIndex := 1122, attributes := #[] }, { accessFlags := 25, nameIndex := 599, descriptorIndex := 600, attributes := #[] }, { accessFlags := 24, nameIndex := 1125, descriptorIndex := 18, attributes := #[] }, { accessFlags := 24, nameIndex := 1127, descriptorIndex := 18, attributes := #[] }])
  fields := #[{ name := "value", type := (.array .byte), accessFlags := 18, slot := 0, constantValue := 0 }, { name := "coder", type := .byte, accessFlags := 18, slot := 1, constantValue := 0 }, { name := "hash", type := .int, accessFlags := 2, slot := 2, constantValue := 0 }, { name := "hashIsZero", type := .boolean, accessFlags := 2, slot := 3, constantValue := 0 }, { name := "serialVersionUID", type := .long, accessFlags := 26, slot := 0, constantValue := 0 }, { name := "COMPACT_STRINGS", type := .boolean, accessFlags := 24, slot := 1, constantValue := 0 }, { name := "serialPersistentFields", type := (.array (.object "java/io/ObjectStreamField")), accessFlags := 26, slot := 2, constantValue := 0 }, { name := "REPL", type := .char, accessFlags := 26, slot := 3, constantValue := 0 }, { name := "CASE_INSENSITIVE_ORDER", type := (.object "java/util/Comparator"), accessFlags := 25, slot := 4, constantValue := 0 }, { name := "LATIN1", type := .byte, accessFlags := 24, slot := 5, constantValue := 0 }, { name := "UTF16", type := .byte, accessFlags := 24, slot := 6, constantValue := 0 }]
  methods := #[k7m0, k7m1, k7m2, k7m3, k7m4, k7m5, k7m6, k7m7, k7m8, k7m9, k7m10]
  instanceTypes := #[(.array .byte), .byte, .int, .boolean]
  staticTypes := #[.long, .boolean, (.array (.object "java/io/ObjectStreamField")), .char, (.object "java/util/Comparator"), .byte, .byte]
  resolved := Array.replicate 1451 none
  statics := some 0 }

def pool8 : Array CpInfo := pool [(2, .class_ 4), (1, u "java/lang/Object"), (9, .class_ 16), (1, u "com/example/sheafgate/sheafgate/http/RequestFields"), (0, u "fields"), (0, u "Ljava/util/List;"), (26, .methodref 46 47), (0, .class_ 48), (0, .nameAndType 49 50), (0, u "java/lang/String"), (0, u "length"), (0, u "()I"), (0, .methodref 46 52), (0, .nameAndType 53 54), (0, u "charAt"), (0, u "(I)C"), (0, .methodref 46 56), (0, .nameAndType 57 58), (0, u "substring"), (0, u "(II)Ljava/lang/String;"), (25, u "strip"), (0, u "(Ljava/lang/String;)Ljava/lang/String;")] 81

def k8c0 : Code := { maxStack := 3, maxLocals := 3, code := prog_12_method_4_code, exceptionTable := #[], attributes := #[] }
def k8m0 : Method := { name := "strip", desc := "(Ljava/lang/String;)Ljava/lang/String;", sig := { parameters := [(.object "java/lang/String")], returnType := some (.object "java/lang/String") }, accessFlags := 8, code := some k8c0 }
/-- com/example/sheafgate/sheafgate/http/RequestFields -/
def k8 : Class := { plain "com/example/sheafgate/sheafgate/http/RequestFields" (some 0) with
  accessFlags := 48
  interfaces := #[]
  cf := some (fileOf pool8 14 #[] #[{ accessFlags := 8, nameIndex := 84, descriptorIndex := 85, attributes := #[] }] 48 2 #[] #[{ accessFlags := 18, nameIndex := 17, descriptorIndex := 18, attributes := #[] }])
  fields := #[{ name := "fields", type := (.object "java/util/List"), accessFlags := 18, slot := 0, constantValue := 0 }]
  methods := #[k8m0]
  instanceTypes := #[(.object "java/util/List")]
  staticTypes := #[]
  resolved := Array.replicate 167 none
  statics := none }

def pool9 : Array CpInfo := pool [(2, .class_ 4), (1, u "java/lang/Object"), (0, u "<init>"), (0, u "()V"), (17, .class_ 26), (1, u "jdk/internal/util/Preconditions"), (6, u "checkIndex"), (13, u "checkFromToIndex"), (7, .class_ 56), (0, u "jdk/internal/util/Preconditions$4"), (57, .class_ 115), (0, u "jdk/internal/util/Preconditions$1"), (7, u "SIOOBE_FORMATTER"), (0, u "Ljava/util/function/BiFunction;"), (0, .class_ 126), (0, u "jdk/internal/util/Preconditions$2"), (3, u "AIOOBE_FORMATTER"), (0, .class_ 132), (0, u "jdk/internal/util/Preconditions$3"), (3, u "IOOBE_FORMATTER"), (41, u "(IILjava/util/function/BiFunction;)I"), (4, u "(IIILjava/util/function/BiFunction;)I")] 10

def k9m0 : Method := { name := "<init>", desc := "()V", sig := { parameters := [], returnType := none }, accessFlags := 1, code := none }
def k9c1 : Code := { maxStack := 3, maxLocals := 3, code := jdk_41_method_11_code, exceptionTable := #[], attributes := #[] }
def k9m1 : Method := { name := "checkIndex", desc := "(IILjava/util/function/BiFunction;)I", sig := { parameters := [.int, .int, (.object "java/util/function/BiFunction")], returnType := some .int }, accessFlags := 9, code := some k9c1 }
def k9c2 : Code := { maxStack := 4, maxLocals := 4, code := jdk_41_method_12_code, exceptionTable := #[], attributes := #[] }
def k9m2 : Method := { name := "checkFromToIndex", desc := "(IIILjava/util/function/BiFunction;)I", sig := { parameters := [.int, .int, .int, (.object "java/util/function/BiFunction")], returnType := some .int }, accessFlags := 9, code := some k9c2 }
/-- jdk/internal/util/Preconditions -/
def k9 : Class := { plain "jdk/internal/util/Preconditions" (some 0) with
  accessFlags := 33
  interfaces := #[]
  cf := some (fileOf pool9 24 #[.nestMembers #[55, 131, 125, 114]] #[{ accessFlags := 1, nameIndex := 5, descriptorIndex := 6, attributes := #[] }, { accessFlags := 9, nameIndex := 33, descriptorIndex := 178, attributes := #[] }, { accessFlags := 9, nameIndex := 47, descriptorIndex := 183, attributes := #[] }] 33 2 #[] #[{ accessFlags := 25, nameIndex := 123, descriptorIndex := 124, attributes := #[] }, { accessFlags := 25, nameIndex := 130, descriptorIndex := 124, attributes := #[] }, { accessFlags := 25, nameIndex := 136, descriptorIndex := 124, attributes := #[] }])
  fields := #[{ name := "SIOOBE_FORMATTER", type := (.object "java/util/function/BiFunction"), accessFlags := 25, slot := 0, constantValue := 0 }, { name := "AIOOBE_FORMATTER", type := (.object "java/util/function/BiFunction"), accessFlags := 25, slot := 1, constantValue := 0 }, { name := "IOOBE_FORMATTER", type := (.object "java/util/function/BiFunction"), accessFlags := 25, slot := 2, constantValue := 0 }]
  methods := #[k9m0, k9m1, k9m2]
  instanceTypes := #[]
  staticTypes := #[(.object "java/util/function/BiFunction"), (.object "java/util/function/BiFunction"), (.object "java/util/function/BiFunction")]
  resolved := Array.replicate 194 none
  statics := some 1 }

def pool10 : Array CpInfo := pool [(6, .class_ 8), (1, u "java/lang/Object"), (0, u "<init>"), (0, u "()V"), (1, .class_ 14), (1, u "java/lang/StringUTF16"), (31, u "$assertionsDisabled"), (0, u "Z"), (13, u "HI_BYTE_SHIFT"), (0, u "I"), (2, u "LO_BYTE_SHIFT"), (49, .methodref 12 116), (0, .nameAndType 117 118), (0, u "compress"), (0, u "([CI[BII)I"), (3, u "([CII)[B"), (138, u "coderFromArrayLen"), (0, u "([BI)B"), (106, .class_ 371), (1, u "java/lang/StringUTF16$LinesSpliterator"), (58, u "MAX_LENGTH"), (196, .class_ 628), (0, u "java/lang/StringUTF16$CodePointsSpliterator"), (0, .class_ 630), (0, u "java/lang/StringUTF16$CharsSpliterator")] 4

def k10m0 : Method := { name := "<init>", desc := "()V", sig := { parameters := [], returnType := none }, accessFlags := 0, code := none }
def k10c1 : Code := { maxStack := 2, maxLocals := 2, code := jdk_52_method_15_code, exceptionTable := #[], attributes := #[] }
def k10m1 : Method := { name := "coderFromArrayLen", desc := "([BI)B", sig := { parameters := [(.array .byte), .int], returnType := some .byte }, accessFlags := 8, code := some k10c1 }
def k10c2 : Code := { maxStack := 5, maxLocals := 6, code := jdk_52_method_16_code, exceptionTable := #[], attributes := #[] }
def k10m2 : Method := { name := "compress", desc := "([CII)[B", sig := { parameters := [(.array .char), .int, .int], returnType := some (.array .byte) }, accessFlags := 9, code := some k10c2 }
def k10c3 : Code := { maxStack := 3, maxLocals := 7, code := jdk_52_method_21_code, exceptionTable := #[], attributes := #[] }
def k10m3 : Method := { name := "compress", desc := "([CI[BII)I", sig := { parameters := [(.array .char), .int, (.array .byte), .int, .int], returnType := some .int }, accessFlags := 9, code := some k10c3 }
/-- java/lang/StringUTF16 -/
def k10 : Class := { plain "java/lang/StringUTF16" (some 0) with
  accessFlags := 48
  interfaces := #[]
  cf := some (fileOf pool10 12 #[.nestMembers #[627, 629, 369]] #[{ accessFlags := 0, nameIndex := 9, descriptorIndex := 10, attributes := #[] }, { accessFlags := 8, nameIndex := 261, descriptorIndex := 262, attributes := #[] }, { accessFlags := 9, nameIndex := 117, descriptorIndex := 122, attributes := #[] }, { accessFlags := 9, nameIndex := 117, descriptorIndex := 118, attributes := #[] }] 48 6 #[] #[{ accessFlags := 26, nameIndex := 61, descriptorIndex := 62, attributes := #[] }, { accessFlags := 26, nameIndex := 65, descriptorIndex := 62, attributes := #[] }, { accessFlags := 24, nameIndex := 430, descriptorIndex := 62, attributes := #[] }, { accessFlags := 4120, nameIndex := 46, descriptorIndex := 47, attributes := #[] }])
  fields := #[{ name := "HI_BYTE_SHIFT", type := .int, accessFlags := 26, slot := 0, constantValue := 0 }, { name := "LO_BYTE_SHIFT", type := .int, accessFlags := 26, slot := 1, constantValue := 0 }, { name := "MAX_LENGTH", type := .int, accessFlags := 24, slot := 2, constantValue := 0 }, { name := "$assertionsDisabled", type := .boolean, accessFlags := 4120, slot := 3, constantValue := 0 }]
  methods := #[k10m0, k10m1, k10m2, k10m3]
  instanceTypes := #[]
  staticTypes := #[.int, .int, .int, .boolean]
  resolved := Array.replicate 635 none
  statics := none }

def pool11 : Array CpInfo := pool [(1, .class_ 2), (0, u "java/lang/String"), (1, .class_ 6), (1, u "java/lang/Object"), (0, u "<init>"), (0, u "()V"), (0, .methodref 1 10), (0, .nameAndType 11 12), (0, u "checkIndex"), (0, u "(II)V"), (1, .class_ 16), (1, u "java/lang/StringLatin1"), (36, u "([BI)C"), (58, .methodref 1 113), (0, .nameAndType 7 114), (0, u "([BB)V"), (6, u "$assertionsDisabled"), (0, u "Z"), (8, .class_ 133), (1, u "java/util/Arrays"), (17, .string 152), (0, u ""), (43, u "newString"), (0, u "([BII)Ljava/lang/String;"), (23, .class_ 223), (1, u "java/lang/StringLatin1$LinesSpliterator"), (8, .methodref 131 233), (0, .nameAndType 234 235), (0, u "copyOfRange"), (0, u "([BII)[B"), (16, u "charAt"), (137, .class_ 391), (0, u "java/lang/StringLatin1$CharsSpliterator")] 3

def k11m0 : Method := { name := "<init>", desc := "()V", sig := { parameters := [], returnType := none }, accessFlags := 0, code := none }
def k11c1 : Code := { maxStack := 2, maxLocals := 2, code := jdk_43_method_2_code, exceptionTable := #[], attributes := #[] }
def k11m1 : Method := { name := "charAt", desc := "([BI)C", sig := { parameters := [(.array .byte), .int], returnType := some .char }, accessFlags := 9, code := some k11c1 }
def k11c2 : Code := { maxStack := 6, maxLocals := 3, code := jdk_43_method_47_code, exceptionTable := #[], attributes := #[] }
def k11m2 : Method := { name := "newString", desc := "([BII)Ljava/lang/String;", sig := { parameters := [(.array .byte), .int, .int], returnType := some (.object "java/lang/String") }, accessFlags := 9, code := some k11c2 }
/-- java/lang/StringLatin1 -/
def k11 : Class := { plain "java/lang/StringLatin1" (some 0) with
  accessFlags := 48
  interfaces := #[]
  cf := some (fileOf pool11 14 #[.nestMembers #[390, 221]] #[{ accessFlags := 0, nameIndex := 7, descriptorIndex := 8, attributes := #[] }, { accessFlags := 9, nameIndex := 252, descriptorIndex := 53, attributes := #[] }, { accessFlags := 9, nameIndex := 196, descriptorIndex := 197, attributes := #[] }] 48 4 #[] #[{ accessFlags := 4120, nameIndex := 121, descriptorIndex := 122, attributes := #[] }])
  fields := #[{ name := "$assertionsDisabled", type := .boolean, accessFlags := 4120, slot := 0, constantValue := 0 }]
  methods := #[k11m0, k11m1, k11m2]
  instanceTypes := #[]
  staticTypes := #[.boolean]
  resolved := Array.replicate 395 none
  statics := none }

def pool12 : Array CpInfo := pool [(2, .class_ 4), (1, u "java/lang/Object"), (0, u "<init>"), (0, u "()V"), (7, .class_ 16), (1, u "java/util/Arrays"), (57, .class_ 76), (1, u "java/util/Arrays$NaturalOrder"), (36, .class_ 115), (1, u "java/util/Arrays$LegacyMergeSort"), (1, u "Z"), (21, u "copyOfRange"), (10, .methodref 151 152), (0, .class_ 153), (0, .nameAndType 154 155), (0, u "java/lang/System"), (0, u "arraycopy"), (0, u "(Ljava/lang/Object;ILjava/lang/Object;II)V"), (148, .methodref 305 306), (0, .class_ 307), (0, .nameAndType 308 309), (0, u "java/lang/Math"), (0, u "min"), (0, u "(II)I"), (29, .methodref 14 340), (0, .nameAndType 341 342), (0, u "copyOfRangeByte"), (0, u "([BII)[B"), (0, .methodref 14 344), (0, .nameAndType 345 346), (0, u "checkLength"), (0, u "(II)V"), (28, .class_ 376), (0, u "java/util/Arrays$ArrayList"), (68, u "$assertionsDisabled"), (269, u "MIN_ARRAY_SORT_GRAN"), (0, u "I"), (2, u "INSERTIONSORT_THRESHOLD"), (255, .class_ 976), (0, u "java/util/Arrays$ArrayItr")] 52

def k12m0 : Method := { name := "<init>", desc := "()V", sig := { parameters := [], returnType := none }, accessFlags := 2, code := none }
def k12c1 : Code := { maxStack := 4, maxLocals := 2, code := jdk_65_method_131_code, exceptionTable := #[], attributes := #[] }
def k12m1 : Method := { name := "checkLength", desc := "(II)V", sig := { parameters := [.int, .int], returnType := none }, accessFlags := 10, code := some k12c1 }
def k12c2 : Code := { maxStack := 3, maxLocals := 3, code := jdk_65_method_132_code, exceptionTable := #[], attributes := #[] }
def k12m2 : Method := { name := "copyOfRange", desc := "([BII)[B", sig := { parameters := [(.array .byte), .int, .int], returnType := some (.array .byte) }, accessFlags := 9, code := some k12c2 }
def k12c3 : Code := { maxStack := 6, maxLocals := 5, code := jdk_65_method_133_code, exceptionTable := #[], attributes := #[] }
def k12m3 : Method := { name := "copyOfRangeByte", desc := "([BII)[B", sig := { parameters := [(.array .byte), .int, .int], returnType := some (.array .byte) }, accessFlags := 10, code := some k12c3 }
/-- java/util/Arrays -/
def k12 : Class := { plain "java/util/Arrays" (some 0) with
  accessFlags := 49
  interfaces := #[]
  cf := some (fileOf pool12 14 #[.nestMembers #[975, 375, 113, 74]] #[{ accessFlags := 2, nameIndex := 5, descriptorIndex := 6, attributes := #[] }, { accessFlags := 10, nameIndex := 345, descriptorIndex := 346, attributes := #[] }, { accessFlags := 9, nameIndex := 139, descriptorIndex := 342, attributes := #[] }, { accessFlags := 10, nameIndex := 341, descriptorIndex := 342, attributes := #[] }] 49 2 #[] #[{ accessFlags := 26, nameIndex := 715, descriptorIndex := 716, attributes := #[] }, { accessFlags := 26, nameIndex := 719, descriptorIndex := 716, attributes := #[] }, { accessFlags := 4120, nameIndex := 445, descriptorIndex := 117, attributes := #[] }])
  fields := #[{ name := "MIN_ARRAY_SORT_GRAN", type := .int, accessFlags := 26, slot := 0, constantValue := 0 }, { name := "INSERTIONSORT_THRESHOLD", type := .int, accessFlags := 26, slot := 1, constantValue := 0 }, { name := "$assertionsDisabled", type := .boolean, accessFlags := 4120, slot := 2, constantValue := 0 }]
  methods := #[k12m0, k12m1, k12m2, k12m3]
  instanceTypes := #[]
  staticTypes := #[.int, .int, .boolean]
  resolved := Array.replicate 1029 none
  statics := none }

def pool13 : Array CpInfo := pool [(1, .class_ 2), (0, u "java/lang/Math"), (1, .class_ 6), (1, u "java/lang/Object"), (0, u "<init>"), (0, u "()V"), (89, .class_ 100), (1, u "java/lang/Math$RandomNumberGeneratorHolder"), (71, u "negativeZeroFloatBits"), (0, u "J"), (2, u "negativeZeroDoubleBits"), (24, u "min"), (43, u "$assertionsDisabled"), (0, u "Z"), (88, u "(II)I"), (2, u "twoToTheDoubleScaleDown"), (0, u "D"), (4, u "twoToTheDoubleScaleUp"), (9, u "E"), (3, u "PI"), (2, u "TAU"), (2, u "DEGREES_TO_RADIANS"), (0, u "RADIANS_TO_DEGREES")] 94

def k13m0 : Method := { name := "<init>", desc := "()V", sig := { parameters := [], returnType := none }, accessFlags := 2, code := none }
def k13c1 : Code := { maxStack := 2, maxLocals := 2, code := jdk_29_method_69_code, exceptionTable := #[], attributes := #[] }
def k13m1 : Method := { name := "min", desc := "(II)I", sig := { parameters := [.int, .int], returnType := some .int }, accessFlags := 9, code := some k13c1 }
/-- java/lang/Math -/
def k13 : Class := { plain "java/lang/Math" (some 0) with
  accessFlags := 49
  interfaces := #[]
  cf := some (fileOf pool13 1 #[.nestMembers #[98]] #[{ accessFlags := 2, nameIndex := 7, descriptorIndex := 8, attributes := #[] }, { accessFlags := 9, nameIndex := 201, descriptorIndex := 335, attributes := #[] }] 49 4 #[] #[{ accessFlags := 25, nameIndex := 354, descriptorIndex := 339, attributes := #[] }, { accessFlags := 25, nameIndex := 358, descriptorIndex := 339, attributes := #[] }, { accessFlags := 25, nameIndex := 361, descriptorIndex := 339, attributes := #[] }, { accessFlags := 26, nameIndex := 364, descriptorIndex := 339, attributes := #[] }, { accessFlags := 26, nameIndex := 365, descriptorIndex := 339, attributes := #[] }, { accessFlags := 26, nameIndex := 172, descriptorIndex := 173, attributes := #[] }, { accessFlags := 26, nameIndex := 176, descriptorIndex := 173, attributes := #[] }, { accessFlags := 8, nameIndex := 344, descriptorIndex := 339, attributes := #[] }, { accessFlags := 8, nameIndex := 338, descriptorIndex := 339, attributes := #[] }, { accessFlags := 4120, nameIndex := 245, descriptorIndex := 246, attributes := #[] }])
  fields := #[{ name := "E", type := .double, accessFlags := 25, slot := 0, constantValue := 0 }, { name := "PI", type := .double, accessFlags := 25, slot := 1, constantValue := 0 }, { name := "TAU", type := .double, accessFlags := 25, slot := 2, constantValue := 0 }, { name := "DEGREES_TO_RADIANS", type := .double, accessFlags := 26, slot := 3, constantValue := 0 }, { name := "RADIANS_TO_DEGREES", type := .double, accessFlags := 26, slot := 4, constantValue := 0 }, { name := "negativeZeroFloatBits", type := .long, accessFlags := 26, slot := 5, constantValue := 0 }, { name := "negativeZeroDoubleBits", type := .long, accessFlags := 26, slot := 6, constantValue := 0 }, { name := "twoToTheDoubleScaleUp", type := .double, accessFlags := 8, slot := 7, constantValue := 0 }, { name := "twoToTheDoubleScaleDown", type := .double, accessFlags := 8, slot := 8, constantValue := 0 }, { name := "$assertionsDisabled", type := .boolean, accessFlags := 4120, slot := 9, constantValue := 0 }]
  methods := #[k13m0, k13m1]
  instanceTypes := #[]
  staticTypes := #[.double, .double, .double, .double, .double, .long, .long, .double, .double, .boolean]
  resolved := Array.replicate 460 none
  statics := none }

def pool14 : Array CpInfo := pool [(2, .class_ 4), (1, u "java/lang/Object"), (0, u "<init>"), (0, u "()V"), (1, .class_ 10), (1, u "java/lang/System"), (0, u "allowSecurityManager"), (0, u "I"), (16, u "cons"), (0, u "Ljava/io/Console;"), (77, .class_ 110), (1, u "java/lang/System$CallersHolder"), (43, u "initialErrStream"), (0, u "Ljava/io/PrintStream;"), (19, u "security"), (0, u "Ljava/lang/SecurityManager;"), (31, .class_ 209), (0, u "java/lang/System$1"), (7, u "props"), (0, u "Ljava/util/Properties;"), (2, u "lineSeparator"), (0, u "Ljava/lang/String;"), (96, .class_ 321), (1, u "java/lang/System$LoggerFinder"), (5, .class_ 328), (0, u "java/lang/System$Logger"), (67, u "err"), (2, u "out"), (91, u "notSupportedJnuEncoding"), (15, u "in"), (17, u "initialIn"), (0, u "Ljava/io/InputStream;"), (35, u "bootLayer"), (0, u "Ljava/lang/ModuleLayer;"), (99, .class_ 664), (0, u "java/lang/System$2"), (9, u "NEVER"), (2, u "MAYBE"), (49, u "arraycopy"), (0, u "(Ljava/lang/Object;ILjava/lang/Object;II)V"), (72, .class_ 802), (0, u "java/lang/System$Logger$Level")] 31

def k14m0 : Method := { name := "<init>", desc := "()V", sig := { parameters := [], returnType := none }, accessFlags := 2, code := none }
def k14m1 : Method := { name := "arraycopy", desc := "(Ljava/lang/Object;ILjava/lang/Object;II)V", sig := { parameters := [(.object "java/lang/Object"), .int, (.object "java/lang/Object"), .int, .int], returnType := none }, accessFlags := 265, code := none }
/-- java/lang/System -/
def k14 : Class := { plain "java/lang/System" (some 0) with
  accessFlags := 49
  interfaces := #[]
  cf := some (fileOf pool14 8 #[.nestMembers #[319, 327, 801, 108, 663, 208]] #[{ accessFlags := 2, nameIndex := 5, descriptorIndex := 6, attributes := #[] }, { accessFlags := 265, nameIndex := 727, descriptorIndex := 728, attributes := #[] }] 49 2 #[] #[{ accessFlags := 25, nameIndex := 507, descriptorIndex := 526, attributes := #[] }, { accessFlags := 25, nameIndex := 399, descriptorIndex := 155, attributes := #[] }, { accessFlags := 25, nameIndex := 396, descriptorIndex := 155, attributes := #[] }, { accessFlags := 10, nameIndex := 525, descriptorIndex := 526, attributes := #[] }, { accessFlags := 26, nameIndex := 674, descriptorIndex := 12, attributes := #[] }, { accessFlags := 26, nameIndex := 677, descriptorIndex := 12, attributes := #[] }, { accessFlags := 10, nameIndex := 11, descriptorIndex := 12, attributes := #[] }, { accessFlags := 74, nameIndex := 175, descriptorIndex := 176, attributes := #[] }, { accessFlags := 10, nameIndex := 491, descriptorIndex := 222, attributes := #[] }, { accessFlags := 74, nameIndex := 29, descriptorIndex := 30, attributes := #[] }, { accessFlags := 74, nameIndex := 154, descriptorIndex := 155, attributes := #[] }, { accessFlags := 10, nameIndex := 217, descriptorIndex := 218, attributes := #[] }, { accessFlags := 10, nameIndex := 221, descriptorIndex := 222, attributes := #[] }, { accessFlags := 8, nameIndex := 562, descriptorIndex := 563, attributes := #[] }])
  fields := #[{ name := "in", type := (.object "java/io/InputStream"), accessFlags := 25, slot := 0, constantValue := 0 }, { name := "out", type := (.object "java/io/PrintStream"), accessFlags := 25, slot := 1, constantValue := 0 }, { name := "err", type := (.object "java/io/PrintStream"), accessFlags := 25, slot := 2, constantValue := 0 }, { name := "initialIn", type := (.object "java/io/InputStream"), accessFlags := 10, slot := 3, constantValue := 0 }, { name := "NEVER", type := .int, accessFlags := 26, slot := 4, constantValue := 0 }, { name := "MAYBE", type := .int, accessFlags := 26, slot := 5, constantValue := 0 }, { name := "allowSecurityManager", type := .int, accessFlags := 10, slot := 6, constantValue := 0 }, { name := "security", type := (.object "java/lang/SecurityManager"), accessFlags := 74, slot := 7, constantValue := 0 }, { name := "notSupportedJnuEncoding", type := (.object "java/lang/String"), accessFlags := 10, slot := 8, constantValue := 0 }, { name := "cons", type := (.object "java/io/Console"), accessFlags := 74, slot := 9, constantValue := 0 }, { name := "initialErrStream", type := (.object "java/io/PrintStream"), accessFlags := 74, slot := 10, constantValue := 0 }, { name := "props", type := (.object "java/util/Properties"), accessFlags := 10, slot := 11, constantValue := 0 }, { name := "lineSeparator", type := (.object "java/lang/String"), accessFlags := 10, slot := 12, constantValue := 0 }, { name := "bootLayer", type := (.object "java/lang/ModuleLayer"), accessFlags := 8, slot := 13, constantValue := 0 }]
  methods := #[k14m0, k14m1]
  instanceTypes := #[]
  staticTypes := #[(.object "java/io/InputStream"), (.object "java/io/PrintStream"), (.object "java/io/PrintStream"), (.object "java/io/InputStream"), .int, .int, .int, (.object "java/lang/SecurityManager"), (.object "java/lang/String"), (.object "java/io/Console"), (.object "java/io/PrintStream"), (.object "java/util/Properties"), (.object "java/lang/String"), (.object "java/lang/ModuleLayer")]
  resolved := Array.replicate 834 none
  statics := none }

def pool15 : Array CpInfo := pool [(9, u "<init>"), (6, .class_ 18), (1, u "java/lang/Object"), (0, u "()V"), (1, .class_ 23), (1, u "jdk/internal/util/ArraysSupport"), (0, u "LOG2_ARRAY_LONG_INDEX_SCALE"), (0, u "I"), (2, u "U"), (0, u "Ljdk/internal/misc/Unsafe;"), (8, u "BIG_ENDIAN"), (0, u "Z"), (8, u "LOG2_BYTE_BIT_SIZE"), (4, u "LOG2_ARRAY_INT_INDEX_SCALE"), (54, u "JLA"), (0, u "Ljdk/internal/access/JavaLangAccess;"), (11, u "LOG2_ARRAY_BOOLEAN_INDEX_SCALE"), (9, u "LOG2_ARRAY_BYTE_INDEX_SCALE"), (5, u "LOG2_ARRAY_CHAR_INDEX_SCALE"), (5, u "LOG2_ARRAY_SHORT_INDEX_SCALE"), (18, u "LOG2_ARRAY_FLOAT_INDEX_SCALE"), (24, u "LOG2_ARRAY_DOUBLE_INDEX_SCALE"), (89, u "T_BOOLEAN"), (2, u "T_CHAR"), (1, u "T_FLOAT"), (1, u "T_DOUBLE"), (1, u "T_BYTE"), (1, u "T_SHORT"), (1, u "T_INT"), (1, u "T_LONG"), (1, u "SOFT_MAX_ARRAY_LENGTH")] 83

def k15m0 : Method := { name := "<init>", desc := "()V", sig := { parameters := [], returnType := none }, accessFlags := 2, code := none }
/-- jdk/internal/util/ArraysSupport -/
def k15 : Class := { plain "jdk/internal/util/ArraysSupport" (some 0) with
  accessFlags := 33
  interfaces := #[]
  cf := some (fileOf pool15 21 #[] #[{ accessFlags := 2, nameIndex := 9, descriptorIndex := 19, attributes := #[] }] 33 16 #[] #[{ accessFlags := 24, nameIndex := 28, descriptorIndex := 29, attributes := #[] }, { accessFlags := 26, nameIndex := 38, descriptorIndex := 39, attributes := #[] }, { accessFlags := 25, nameIndex := 121, descriptorIndex := 25, attributes := #[] }, { accessFlags := 25, nameIndex := 131, descriptorIndex := 25, attributes := #[] }, { accessFlags := 25, nameIndex := 137, descriptorIndex := 25, attributes := #[] }, { accessFlags := 25, nameIndex := 143, descriptorIndex := 25, attributes := #[] }, { accessFlags := 25, nameIndex := 53, descriptorIndex := 25, attributes := #[] }, { accessFlags := 25, nameIndex := 24, descriptorIndex := 25, attributes := #[] }, { accessFlags := 25, nameIndex := 162, descriptorIndex := 25, attributes := #[] }, { accessFlags := 25, nameIndex := 187, descriptorIndex := 25, attributes := #[] }, { accessFlags := 26, nameIndex := 48, descriptorIndex := 25, attributes := #[] }, { accessFlags := 25, nameIndex := 277, descriptorIndex := 25, attributes := #[] }, { accessFlags := 25, nameIndex := 280, descriptorIndex := 25, attributes := #[] }, { accessFlags := 25, nameIndex := 282, descriptorIndex := 25, attributes := #[] }, { accessFlags := 25, nameIndex := 284, descriptorIndex := 25, attributes := #[] }, { accessFlags := 25, nameIndex := 286, descriptorIndex := 25, attributes := #[] }, { accessFlags := 25, nameIndex := 288, descriptorIndex := 25, attributes := #[] }, { accessFlags := 25, nameIndex := 290, descriptorIndex := 25, attributes := #[] }, { accessFlags := 25, nameIndex := 292, descriptorIndex := 25, attributes := #[] }, { accessFlags := 26, nameIndex := 108, descriptorIndex := 109, attributes := #[] }, { accessFlags := 25, nameIndex := 294, descriptorIndex := 25, attributes := #[] }])
  fields := #[{ name := "U", type := (.object "jdk/internal/misc/Unsafe"), accessFlags := 24, slot := 0, constantValue := 0 }, { name := "BIG_ENDIAN", type := .boolean, accessFlags := 26, slot := 1, constantValue := 0 }, { name := "LOG2_ARRAY_BOOLEAN_INDEX_SCALE", type := .int, accessFlags := 25, slot := 2, constantValue := 0 }, { name := "LOG2_ARRAY_BYTE_INDEX_SCALE", type := .int, accessFlags := 25, slot := 3, constantValue := 0 }, { name := "LOG2_ARRAY_CHAR_INDEX_SCALE", type := .int, accessFlags := 25, slot := 4, constantValue := 0 }, { name := "LOG2_ARRAY_SHORT_INDEX_SCALE", type := .int, accessFlags := 25, slot := 5, constantValue := 0 }, { name := "LOG2_ARRAY_INT_INDEX_SCALE", type := .int, accessFlags := 25, slot := 6, constantValue := 0 }, { name := "LOG2_ARRAY_LONG_INDEX_SCALE", type := .int, accessFlags := 25, slot := 7, constantValue := 0 }, { name := "LOG2_ARRAY_FLOAT_INDEX_SCALE", type := .int, accessFlags := 25, slot := 8, constantValue := 0 }, { name := "LOG2_ARRAY_DOUBLE_INDEX_SCALE", type := .int, accessFlags := 25, slot := 9, constantValue := 0 }, { name := "LOG2_BYTE_BIT_SIZE", type := .int, accessFlags := 26, slot := 10, constantValue := 0 }, { name := "T_BOOLEAN", type := .int, accessFlags := 25, slot := 11, constantValue := 0 }, { name := "T_CHAR", type := .int, accessFlags := 25, slot := 12, constantValue := 0 }, { name := "T_FLOAT", type := .int, accessFlags := 25, slot := 13, constantValue := 0 }, { name := "T_DOUBLE", type := .int, accessFlags := 25, slot := 14, constantValue := 0 }, { name := "T_BYTE", type := .int, accessFlags := 25, slot := 15, constantValue := 0 }, { name := "T_SHORT", type := .int, accessFlags := 25, slot := 16, constantValue := 0 }, { name := "T_INT", type := .int, accessFlags := 25, slot := 17, constantValue := 0 }, { name := "T_LONG", type := .int, accessFlags := 25, slot := 18, constantValue := 0 }, { name := "JLA", type := (.object "jdk/internal/access/JavaLangAccess"), accessFlags := 26, slot := 19, constantValue := 0 }, { name := "SOFT_MAX_ARRAY_LENGTH", type := .int, accessFlags := 25, slot := 20, constantValue := 0 }]
  methods := #[k15m0]
  instanceTypes := #[]
  staticTypes := #[(.object "jdk/internal/misc/Unsafe"), .boolean, .int, .int, .int, .int, .int, .int, .int, .int, .int, .int, .int, .int, .int, .int, .int, .int, .int, (.object "jdk/internal/access/JavaLangAccess"), .int]
  resolved := Array.replicate 378 none
  statics := none }

def pool16 : Array CpInfo := pool [(1, u "java/lang/Cloneable"), (0, .class_ 1), (0, u "java/lang/Object"), (0, .class_ 3)] 3

/-- java/lang/Cloneable -/
def k16 : Class := { plain "java/lang/Cloneable" (some 0) with
  accessFlags := 1537
  interfaces := #[]
  cf := some (fileOf pool16 2 #[] #[] 1537 4 #[] #[])
  fields := #[]
  methods := #[]
  instanceTypes := #[]
  staticTypes := #[]
  resolved := Array.replicate 8 none
  statics := none }

/-- the primitive byte -/
def k17 : Class := { plain "byte" none with kind := .primitive 'B', accessFlags := 0x411 }
/-- [B -/
def k18 : Class := { plain "[B" (some 0) with kind := .array 17 .byte, interfaces := #[16, 2], accessFlags := 1041 }

/-- the primitive char -/
def k19 : Class := { plain "char" none with kind := .primitive 'C', accessFlags := 0x411 }
/-- [C -/
def k20 : Class := { plain "[C" (some 0) with kind := .array 19 .char, interfaces := #[16, 2], accessFlags := 1041 }

/-- the primitive int -/
def k21 : Class := { plain "int" none with kind := .primitive 'I', accessFlags := 0x411 }
/-- [I -/
def k22 : Class := { plain "[I" (some 0) with kind := .array 21 .int, interfaces := #[16, 2], accessFlags := 1041 }

def heap : Heap := #[{ cls := 7, slots := #[.long 0, .int 1, .null, .int 0, .null, .int 0, .int 0], vm := .statics 7 },
  { cls := 9, slots := #[.null, .null, .null], vm := .statics 9 }]
def classes : Array Class := #[k0, k1, k2, k3, k4, k5, k6, k7, k8, k9, k10, k11, k12, k13, k14, k15, k16, k17, k18, k19, k20, k21, k22]
def interned : List (Array UInt16 × Addr) := []
def slotsUsed : Nat := 10
def theMethod : MethodId := ⟨1, 5⟩
def args0 : Array Value := #[.int 5, .int 3, .int 7, .int 2, .int 1]
def aboutOver (below : List Frame) : State where
  vm := { classes := classes, interned := interned.toArray }
  heap := heap
  slotsUsed := slotsUsed
  threads := #[{ frames := .invoking theMethod args0 :: below }]
def below0 : List Frame := [.native { method := ⟨0, 0⟩, args := #[] }]
def about1 : State := aboutOver below0
def p0 : Program := .bare "" "" ""
def e0 : Env := launch0.env 0 0 0
theorem w_frames : about1.frames = Frame.invoking theMethod args0 :: below0 := rfl
set_option maxRecDepth 65536 in
theorem w_args : argsFit about1.vm theMethod args0 = true := by decide +kernel
set_option maxRecDepth 65536 in
theorem w_heap : heapFits about1 = true := by decide +kernel
set_option maxRecDepth 65536 in
theorem w_runnable : about1.curStatus? = some .runnable := by decide +kernel
set_option maxRecDepth 65536 in
theorem w_alone : about1.alone = true := by decide +kernel
set_option maxRecDepth 65536 in
theorem w_named : about1.methodNamed? x = some theMethod := by decide +kernel
set_option maxRecDepth 65536 in
theorem w_hears : about1.hears theMethod below0 = true := by decide +kernel
set_option maxRecDepth 65536 in
theorem w_ripe : about1.ripe theMethod args0 below0 = true := by decide +kernel
theorem w_running : about1.status = .running := rfl
set_option maxRecDepth 65536 in
theorem w_room : about1.hasRoom e0.platform room_1 = true :=
  launch0.hasRoom_least _ room_1 (by decide +kernel) (by decide +kernel) (by decide +kernel) (by decide +kernel) (by decide +kernel) (by decide +kernel)
theorem allAtoms_all (ts : List Jvm.Cond) (a : Array Jvm.Value) (st : Jvm.State) : (allAtoms ts).before a st = ts.all (fun c => c.before a st) := by
  induction ts with
  | nil => rfl
  | cons c t ih =>
    show (Jvm.Cond.and c (allAtoms t)).before a st = _
    rw [Jvm.Cond.before_and, ih, List.all_cons]
def words1 : List Jvm.Cond := Jvm.Cond.code x code maxLocals ret :: tables_1
/-- a 'code' word, met by the world's own term for the bytes: nothing is compared byte by byte -/
theorem code_word {y : MethodName} {bytes : ByteArray} {mx : Nat} {rt : Option FieldType} {a : Array Value} {s : State} {m : MethodId} {meth : Method} {c : Code} (h1 : s.methodNamed? y = some m) (h2 : s.vm.method? m = some meth) (h3 : meth.code = some c) (h4 : c.code = bytes)
    (h5 : (c.maxLocals == mx && c.exceptionTable.isEmpty && decide (c.maxStack ≤ mostOperands) && decide (meth.sig.returnType = rt) && !meth.locks && decide (parseMethodDescriptor y.desc = some meth.sig)) = true) : (Jvm.Cond.code y bytes mx rt).before a s = true := by
  simp only [Bool.and_eq_true, beq_iff_eq, Bool.not_eq_true', decide_eq_true_eq] at h5
  obtain ⟨⟨⟨⟨⟨g1, g2⟩, g3⟩, g4⟩, g5⟩, g6⟩ := h5
  simp [Cond.before, Cond.holds, Cond.value, h1, h2, h3, h4, g1, g2, g3, g4, g5, g6]
def isCode : Jvm.Cond → Bool
  | .code _ _ _ _ => true
  | _ => false
theorem all_split {L : List Jvm.Cond} {P : Jvm.Cond → Bool} (h1 : L.all (fun c => isCode c || P c) = true) (h2 : ∀ c ∈ L.filter isCode, P c = true) : L.all P = true := by
  refine List.all_eq_true.mpr fun c hc => ?_
  have h := List.all_eq_true.mp h1 c hc
  rcases Bool.eq_false_or_eq_true (isCode c) with hi | hi
  · exact h2 c (List.mem_filter.mpr ⟨hc, hi⟩)
  · simpa [hi] using h
set_option maxRecDepth 65536 in
theorem w_c0 : (Jvm.Cond.code x code maxLocals ret).before args0 about1 = true := code_word (m := ⟨1, 5⟩) (meth := k1m5) (c := k1c5) (by decide +kernel) rfl rfl rfl (by decide +kernel)
set_option maxRecDepth 65536 in
theorem w_c1 : (Jvm.Cond.code ({ cls := "com/example/sheafgate/sheafgate/http/RequestFieldsStripPinLaw", name := "pick", desc := "(I)C" } : Jvm.MethodName) method_2_code (2 : Nat) (Option.some Jvm.ClassFile.FieldType.char)).before args0 about1 = true := code_word (m := ⟨1, 1⟩) (meth := k1m1) (c := k1c1) (by decide +kernel) rfl rfl rfl (by decide +kernel)
set_option maxRecDepth 65536 in
theorem w_c2 : (Jvm.Cond.code ({ cls := "com/example/sheafgate/sheafgate/http/RequestFieldsStripPinLaw", name := "make", desc := "(I)[C" } : Jvm.MethodName) method_4_code (1 : Nat) (Option.some (Jvm.ClassFile.FieldType.array Jvm.ClassFile.FieldType.char))).before args0 about1 = true := code_word (m := ⟨1, 3⟩) (meth := k1m3) (c := k1c3) (by decide +kernel) rfl rfl rfl (by decide +kernel)
set_option maxRecDepth 65536 in
theorem w_c3 : (Jvm.Cond.code ({ cls := "java/lang/String", name := "<init>", desc := "([C)V" } : Jvm.MethodName) jdk_42_method_3_code (2 : Nat) (Option.none : Option Jvm.ClassFile.FieldType)).before args0 about1 = true := code_word (m := ⟨7, 1⟩) (meth := k7m1) (c := k7c1) (by decide +kernel) rfl rfl rfl (by decide +kernel)
set_option maxRecDepth 65536 in
theorem w_c4 : (Jvm.Cond.code ({ cls := "java/lang/String", name := "<init>", desc := "([CIILjava/lang/Void;)V" } : Jvm.MethodName) jdk_42_method_149_code (6 : Nat) (Option.none : Option Jvm.ClassFile.FieldType)).before args0 about1 = true := code_word (m := ⟨7, 5⟩) (meth := k7m5) (c := k7c5) (by decide +kernel) rfl rfl rfl (by decide +kernel)
set_option maxRecDepth 65536 in
theorem w_c5 : (Jvm.Cond.code ({ cls := "java/lang/Object", name := "<init>", desc := "()V" } : Jvm.MethodName) object_method_1_code (1 : Nat) (Option.none : Option Jvm.ClassFile.FieldType)).before args0 about1 = true := code_word (m := ⟨0, 0⟩) (meth := k0m0) (c := k0c0) (by decide +kernel) rfl rfl rfl (by decide +kernel)
set_option maxRecDepth 65536 in
theorem w_c6 : (Jvm.Cond.code ({ cls := "com/example/sheafgate/sheafgate/http/RequestFields", name := "strip", desc := "(Ljava/lang/String;)Ljava/lang/String;" } : Jvm.MethodName) prog_12_method_4_code (3 : Nat) (Option.some (Jvm.ClassFile.FieldType.object "java/lang/String"))).before args0 about1 = true := code_word (m := ⟨8, 0⟩) (meth := k8m0) (c := k8c0) (by decide +kernel) rfl rfl rfl (by decide +kernel)
set_option maxRecDepth 65536 in
theorem w_c7 : (Jvm.Cond.code ({ cls := "java/lang/String", name := "length", desc := "()I" } : Jvm.MethodName) jdk_42_method_54_code (1 : Nat) (Option.some Jvm.ClassFile.FieldType.int)).before args0 about1 = true := code_word (m := ⟨7, 2⟩) (meth := k7m2) (c := k7c2) (by decide +kernel) rfl rfl rfl (by decide +kernel)
set_option maxRecDepth 65536 in
theorem w_c8 : (Jvm.Cond.code ({ cls := "java/lang/String", name := "coder", desc := "()B" } : Jvm.MethodName) jdk_42_method_152_code (1 : Nat) (Option.some Jvm.ClassFile.FieldType.byte)).before args0 about1 = true := code_word (m := ⟨7, 7⟩) (meth := k7m7) (c := k7c7) (by decide +kernel) rfl rfl rfl (by decide +kernel)
set_option maxRecDepth 65536 in
theorem w_c9 : (Jvm.Cond.code ({ cls := "java/lang/String", name := "substring", desc := "(II)Ljava/lang/String;" } : Jvm.MethodName) jdk_42_method_92_code (5 : Nat) (Option.some (Jvm.ClassFile.FieldType.object "java/lang/String"))).before args0 about1 = true := code_word (m := ⟨7, 4⟩) (meth := k7m4) (c := k7c4) (by decide +kernel) rfl rfl rfl (by decide +kernel)
set_option maxRecDepth 65536 in
theorem w_c10 : (Jvm.Cond.code ({ cls := "java/lang/String", name := "checkBoundsBeginEnd", desc := "(III)V" } : Jvm.MethodName) jdk_42_method_158_code (3 : Nat) (Option.none : Option Jvm.ClassFile.FieldType)).before args0 about1 = true := code_word (m := ⟨7, 10⟩) (meth := k7m10) (c := k7c10) (by decide +kernel) rfl rfl rfl (by decide +kernel)
set_option maxRecDepth 65536 in
theorem w_c11 : (Jvm.Cond.code ({ cls := "jdk/internal/util/Preconditions", name := "checkFromToIndex", desc := "(IIILjava/util/function/BiFunction;)I" } : Jvm.MethodName) jdk_41_method_12_code (4 : Nat) (Option.some Jvm.ClassFile.FieldType.int)).before args0 about1 = true := code_word (m := ⟨9, 2⟩) (meth := k9m2) (c := k9c2) (by decide +kernel) rfl rfl rfl (by decide +kernel)
set_option maxRecDepth 65536 in
theorem w_c12 : (Jvm.Cond.code ({ cls := "com/example/sheafgate/sheafgate/http/RequestFieldsStripPinLaw", name := "ws", desc := "(C)Z" } : Jvm.MethodName) method_3_code (1 : Nat) (Option.some Jvm.ClassFile.FieldType.boolean)).before args0 about1 = true := code_word (m := ⟨1, 2⟩) (meth := k1m2) (c := k1c2) (by decide +kernel) rfl rfl rfl (by decide +kernel)
set_option maxRecDepth 65536 in
theorem w_c13 : (Jvm.Cond.code ({ cls := "com/example/sheafgate/sheafgate/http/RequestFieldsStripPinLaw", name := "same", desc := "(Ljava/lang/String;[CIII)Z" } : Jvm.MethodName) method_5_code (5 : Nat) (Option.some Jvm.ClassFile.FieldType.boolean)).before args0 about1 = true := code_word (m := ⟨1, 4⟩) (meth := k1m4) (c := k1c4) (by decide +kernel) rfl rfl rfl (by decide +kernel)
set_option maxRecDepth 65536 in
theorem w_c14 : (Jvm.Cond.code ({ cls := "java/lang/StringUTF16", name := "compress", desc := "([CII)[B" } : Jvm.MethodName) jdk_52_method_16_code (6 : Nat) (Option.some (Jvm.ClassFile.FieldType.array Jvm.ClassFile.FieldType.byte))).before args0 about1 = true := code_word (m := ⟨10, 2⟩) (meth := k10m2) (c := k10c2) (by decide +kernel) rfl rfl rfl (by decide +kernel)
set_option maxRecDepth 65536 in
theorem w_c15 : (Jvm.Cond.code ({ cls := "java/lang/StringUTF16", name := "compress", desc := "([CI[BII)I" } : Jvm.MethodName) jdk_52_method_21_code (7 : Nat) (Option.some Jvm.ClassFile.FieldType.int)).before args0 about1 = true := code_word (m := ⟨10, 3⟩) (meth := k10m3) (c := k10c3) (by decide +kernel) rfl rfl rfl (by decide +kernel)
set_option maxRecDepth 65536 in
theorem w_c16 : (Jvm.Cond.code ({ cls := "java/lang/StringUTF16", name := "coderFromArrayLen", desc := "([BI)B" } : Jvm.MethodName) jdk_52_method_15_code (2 : Nat) (Option.some Jvm.ClassFile.FieldType.byte)).before args0 about1 = true := code_word (m := ⟨10, 1⟩) (meth := k10m1) (c := k10c1) (by decide +kernel) rfl rfl rfl (by decide +kernel)
set_option maxRecDepth 65536 in
theorem w_c17 : (Jvm.Cond.code ({ cls := "java/lang/String", name := "charAt", desc := "(I)C" } : Jvm.MethodName) jdk_42_method_56_code (2 : Nat) (Option.some Jvm.ClassFile.FieldType.char)).before args0 about1 = true := code_word (m := ⟨7, 3⟩) (meth := k7m3) (c := k7c3) (by decide +kernel) rfl rfl rfl (by decide +kernel)
set_option maxRecDepth 65536 in
theorem w_c18 : (Jvm.Cond.code ({ cls := "java/lang/String", name := "isLatin1", desc := "()Z" } : Jvm.MethodName) jdk_42_method_154_code (1 : Nat) (Option.some Jvm.ClassFile.FieldType.boolean)).before args0 about1 = true := code_word (m := ⟨7, 8⟩) (meth := k7m8) (c := k7c8) (by decide +kernel) rfl rfl rfl (by decide +kernel)
set_option maxRecDepth 65536 in
theorem w_c19 : (Jvm.Cond.code ({ cls := "java/lang/StringLatin1", name := "charAt", desc := "([BI)C" } : Jvm.MethodName) jdk_43_method_2_code (2 : Nat) (Option.some Jvm.ClassFile.FieldType.char)).before args0 about1 = true := code_word (m := ⟨11, 1⟩) (meth := k11m1) (c := k11c1) (by decide +kernel) rfl rfl rfl (by decide +kernel)
set_option maxRecDepth 65536 in
theorem w_c20 : (Jvm.Cond.code ({ cls := "java/lang/String", name := "checkIndex", desc := "(II)V" } : Jvm.MethodName) jdk_42_method_155_code (2 : Nat) (Option.none : Option Jvm.ClassFile.FieldType)).before args0 about1 = true := code_word (m := ⟨7, 9⟩) (meth := k7m9) (c := k7c9) (by decide +kernel) rfl rfl rfl (by decide +kernel)
set_option maxRecDepth 65536 in
theorem w_c21 : (Jvm.Cond.code ({ cls := "jdk/internal/util/Preconditions", name := "checkIndex", desc := "(IILjava/util/function/BiFunction;)I" } : Jvm.MethodName) jdk_41_method_11_code (3 : Nat) (Option.some Jvm.ClassFile.FieldType.int)).before args0 about1 = true := code_word (m := ⟨9, 1⟩) (meth := k9m1) (c := k9c1) (by decide +kernel) rfl rfl rfl (by decide +kernel)
set_option maxRecDepth 65536 in
theorem w_c22 : (Jvm.Cond.code ({ cls := "java/lang/StringLatin1", name := "newString", desc := "([BII)Ljava/lang/String;" } : Jvm.MethodName) jdk_43_method_47_code (3 : Nat) (Option.some (Jvm.ClassFile.FieldType.object "java/lang/String"))).before args0 about1 = true := code_word (m := ⟨11, 2⟩) (meth := k11m2) (c := k11c2) (by decide +kernel) rfl rfl rfl (by decide +kernel)
set_option maxRecDepth 65536 in
theorem w_c23 : (Jvm.Cond.code ({ cls := "java/util/Arrays", name := "copyOfRange", desc := "([BII)[B" } : Jvm.MethodName) jdk_65_method_132_code (3 : Nat) (Option.some (Jvm.ClassFile.FieldType.array Jvm.ClassFile.FieldType.byte))).before args0 about1 = true := code_word (m := ⟨12, 2⟩) (meth := k12m2) (c := k12c2) (by decide +kernel) rfl rfl rfl (by decide +kernel)
set_option maxRecDepth 65536 in
theorem w_c24 : (Jvm.Cond.code ({ cls := "java/util/Arrays", name := "copyOfRangeByte", desc := "([BII)[B" } : Jvm.MethodName) jdk_65_method_133_code (5 : Nat) (Option.some (Jvm.ClassFile.FieldType.array Jvm.ClassFile.FieldType.byte))).before args0 about1 = true := code_word (m := ⟨12, 3⟩) (meth := k12m3) (c := k12c3) (by decide +kernel) rfl rfl rfl (by decide +kernel)
set_option maxRecDepth 65536 in
theorem w_c25 : (Jvm.Cond.code ({ cls := "java/util/Arrays", name := "checkLength", desc := "(II)V" } : Jvm.MethodName) jdk_65_method_131_code (2 : Nat) (Option.none : Option Jvm.ClassFile.FieldType)).before args0 about1 = true := code_word (m := ⟨12, 1⟩) (meth := k12m1) (c := k12c1) (by decide +kernel) rfl rfl rfl (by decide +kernel)
set_option maxRecDepth 65536 in
theorem w_c26 : (Jvm.Cond.code ({ cls := "java/lang/Math", name := "min", desc := "(II)I" } : Jvm.MethodName) jdk_29_method_69_code (2 : Nat) (Option.some Jvm.ClassFile.FieldType.int)).before args0 about1 = true := code_word (m := ⟨13, 1⟩) (meth := k13m1) (c := k13c1) (by decide +kernel) rfl rfl rfl (by decide +kernel)
set_option maxRecDepth 65536 in
theorem w_c27 : (Jvm.Cond.code ({ cls := "java/lang/String", name := "<init>", desc := "([BB)V" } : Jvm.MethodName) jdk_42_method_151_code (3 : Nat) (Option.none : Option Jvm.ClassFile.FieldType)).before args0 about1 = true := code_word (m := ⟨7, 6⟩) (meth := k7m6) (c := k7c6) (by decide +kernel) rfl rfl rfl (by decide +kernel)
def codes1 : List Jvm.Cond := [Jvm.Cond.code x code maxLocals ret, Jvm.Cond.code ({ cls := "com/example/sheafgate/sheafgate/http/RequestFieldsStripPinLaw", name := "pick", desc := "(I)C" } : Jvm.MethodName) method_2_code (2 : Nat) (Option.some Jvm.ClassFile.FieldType.char), Jvm.Cond.code ({ cls := "com/example/sheafgate/sheafgate/http/RequestFieldsStripPinLaw", name := "make", desc := "(I)[C" } : Jvm.MethodName) method_4_code (1 : Nat) (Option.some (Jvm.ClassFile.FieldType.array Jvm.ClassFile.FieldType.char)), Jvm.Cond.code ({ cls := "java/lang/String", name := "<init>", desc := "([C)V" } : Jvm.MethodName) jdk_42_method_3_code (2 : Nat) (Option.none : Option Jvm.ClassFile.FieldType), Jvm.Cond.code ({ cls := "java/lang/String", name := "<init>", desc := "([CIILjava/lang/Void;)V" } : Jvm.MethodName) jdk_42_method_149_code (6 : Nat) (Option.none : Option Jvm.ClassFile.FieldType), Jvm.Cond.code ({ cls := "java/lang/Object", name := "<init>", desc := "()V" } : Jvm.MethodName) object_method_1_code (1 : Nat) (Option.none : Option Jvm.ClassFile.FieldType), Jvm.Cond.code ({ cls := "com/example/sheafgate/sheafgate/http/RequestFields", name := "strip", desc := "(Ljava/lang/String;)Ljava/lang/String;" } : Jvm.MethodName) prog_12_method_4_code (3 : Nat) (Option.some (Jvm.ClassFile.FieldType.object "java/lang/String")), Jvm.Cond.code ({ cls := "java/lang/String", name := "length", desc := "()I" } : Jvm.MethodName) jdk_42_method_54_code (1 : Nat) (Option.some Jvm.ClassFile.FieldType.int), Jvm.Cond.code ({ cls := "java/lang/String", name := "coder", desc := "()B" } : Jvm.MethodName) jdk_42_method_152_code (1 : Nat) (Option.some Jvm.ClassFile.FieldType.byte), Jvm.Cond.code ({ cls := "java/lang/String", name := "substring", desc := "(II)Ljava/lang/String;" } : Jvm.MethodName) jdk_42_method_92_code (5 : Nat) (Option.some (Jvm.ClassFile.FieldType.object "java/lang/String")), Jvm.Cond.code ({ cls := "java/lang/String", name := "checkBoundsBeginEnd", desc := "(III)V" } : Jvm.MethodName) jdk_42_method_158_code (3 : Nat) (Option.none : Option Jvm.ClassFile.FieldType), Jvm.Cond.code ({ cls := "jdk/internal/util/Preconditions", name := "checkFromToIndex", desc := "(IIILjava/util/function/BiFunction;)I" } : Jvm.MethodName) jdk_41_method_12_code (4 : Nat) (Option.some Jvm.ClassFile.FieldType.int), Jvm.Cond.code ({ cls := "com/example/sheafgate/sheafgate/http/RequestFieldsStripPinLaw", name := "ws", desc := "(C)Z" } : Jvm.MethodName) method_3_code (1 : Nat) (Option.some Jvm.ClassFile.FieldType.boolean), Jvm.Cond.code ({ cls := "com/example/sheafgate/sheafgate/http/RequestFieldsStripPinLaw", name := "same", desc := "(Ljava/lang/String;[CIII)Z" } : Jvm.MethodName) method_5_code (5 : Nat) (Option.some Jvm.ClassFile.FieldType.boolean), Jvm.Cond.code ({ cls := "java/lang/StringUTF16", name := "compress", desc := "([CII)[B" } : Jvm.MethodName) jdk_52_method_16_code (6 : Nat) (Option.some (Jvm.ClassFile.FieldType.array Jvm.ClassFile.FieldType.byte)), Jvm.Cond.code ({ cls := "java/lang/StringUTF16", name := "compress", desc := "([CI[BII)I" } : Jvm.MethodName) jdk_52_method_21_code (7 : Nat) (Option.some Jvm.ClassFile.FieldType.int), Jvm.Cond.code ({ cls := "java/lang/StringUTF16", name := "coderFromArrayLen", desc := "([BI)B" } : Jvm.MethodName) jdk_52_method_15_code (2 : Nat) (Option.some Jvm.ClassFile.FieldType.byte), Jvm.Cond.code ({ cls := "java/lang/String", name := "charAt", desc := "(I)C" } : Jvm.MethodName) jdk_42_method_56_code (2 : Nat) (Option.some Jvm.ClassFile.FieldType.char), Jvm.Cond.code ({ cls := "java/lang/String", name := "isLatin1", desc := "()Z" } : Jvm.MethodName) jdk_42_method_154_code (1 : Nat) (Option.some Jvm.ClassFile.FieldType.boolean), Jvm.Cond.code ({ cls := "java/lang/StringLatin1", name := "charAt", desc := "([BI)C" } : Jvm.MethodName) jdk_43_method_2_code (2 : Nat) (Option.some Jvm.ClassFile.FieldType.char), Jvm.Cond.code ({ cls := "java/lang/String", name := "checkIndex", desc := "(II)V" } : Jvm.MethodName) jdk_42_method_155_code (2 : Nat) (Option.none : Option Jvm.ClassFile.FieldType), Jvm.Cond.code ({ cls := "jdk/internal/util/Preconditions", name := "checkIndex", desc := "(IILjava/util/function/BiFunction;)I" } : Jvm.MethodName) jdk_41_method_11_code (3 : Nat) (Option.some Jvm.ClassFile.FieldType.int), Jvm.Cond.code ({ cls := "java/lang/StringLatin1", name := "newString", desc := "([BII)Ljava/lang/String;" } : Jvm.MethodName) jdk_43_method_47_code (3 : Nat) (Option.some (Jvm.ClassFile.FieldType.object "java/lang/String")), Jvm.Cond.code ({ cls := "java/util/Arrays", name := "copyOfRange", desc := "([BII)[B" } : Jvm.MethodName) jdk_65_method_132_code (3 : Nat) (Option.some (Jvm.ClassFile.FieldType.array Jvm.ClassFile.FieldType.byte)), Jvm.Cond.code ({ cls := "java/util/Arrays", name := "copyOfRangeByte", desc := "([BII)[B" } : Jvm.MethodName) jdk_65_method_133_code (5 : Nat) (Option.some (Jvm.ClassFile.FieldType.array Jvm.ClassFile.FieldType.byte)), Jvm.Cond.code ({ cls := "java/util/Arrays", name := "checkLength", desc := "(II)V" } : Jvm.MethodName) jdk_65_method_131_code (2 : Nat) (Option.none : Option Jvm.ClassFile.FieldType), Jvm.Cond.code ({ cls := "java/lang/Math", name := "min", desc := "(II)I" } : Jvm.MethodName) jdk_29_method_69_code (2 : Nat) (Option.some Jvm.ClassFile.FieldType.int), Jvm.Cond.code ({ cls := "java/lang/String", name := "<init>", desc := "([BB)V" } : Jvm.MethodName) jdk_42_method_151_code (3 : Nat) (Option.none : Option Jvm.ClassFile.FieldType)]
set_option maxRecDepth 65536 in
theorem codes_eq : words1.filter isCode = codes1 := rfl
theorem w_codes : ∀ c ∈ words1.filter isCode, c.before args0 about1 = true := by
  rw [codes_eq]
  intro c hc
  simp only [codes1, List.mem_cons, List.not_mem_nil, or_false] at hc
  rcases hc with rfl | rfl | rfl | rfl | rfl | rfl | rfl | rfl | rfl | rfl | rfl | rfl | rfl | rfl | rfl | rfl | rfl | rfl | rfl | rfl | rfl | rfl | rfl | rfl | rfl | rfl | rfl | rfl
  · exact w_c0
  · exact w_c1
  · exact w_c2
  · exact w_c3
  · exact w_c4
  · exact w_c5
  · exact w_c6
  · exact w_c7
  · exact w_c8
  · exact w_c9
  · exact w_c10
  · exact w_c11
  · exact w_c12
  · exact w_c13
  · exact w_c14
  · exact w_c15
  · exact w_c16
  · exact w_c17
  · exact w_c18
  · exact w_c19
  · exact w_c20
  · exact w_c21
  · exact w_c22
  · exact w_c23
  · exact w_c24
  · exact w_c25
  · exact w_c26
  · exact w_c27
set_option maxRecDepth 65536 in
theorem w_t1 : (words1.take 24).all (fun c => isCode c || c.before args0 about1) = true := by decide +kernel
set_option maxRecDepth 65536 in
theorem w_t2 : ((words1.drop 24).take 24).all (fun c => isCode c || c.before args0 about1) = true := by decide +kernel
set_option maxRecDepth 65536 in
theorem w_t3 : (((words1.drop 24).drop 24).take 24).all (fun c => isCode c || c.before args0 about1) = true := by decide +kernel
set_option maxRecDepth 65536 in
theorem w_t4 : ((((words1.drop 24).drop 24).drop 24).take 24).all (fun c => isCode c || c.before args0 about1) = true := by decide +kernel
set_option maxRecDepth 65536 in
theorem w_t5 : (((((words1.drop 24).drop 24).drop 24).drop 24).take 24).all (fun c => isCode c || c.before args0 about1) = true := by decide +kernel
set_option maxRecDepth 65536 in
theorem w_t6 : (((((words1.drop 24).drop 24).drop 24).drop 24).drop 24).all (fun c => isCode c || c.before args0 about1) = true := by decide +kernel
theorem w_tables : (allAtoms (Jvm.Cond.code x code maxLocals ret :: tables_1)).before args0 about1 = true := by
  rw [allAtoms_all]
  show words1.all (fun c => c.before args0 about1) = true
  refine all_split ?_ w_codes
  rw [← List.take_append_drop 24 words1, List.all_append, w_t1, ← List.take_append_drop 24 (words1.drop 24), List.all_append, w_t2, ← List.take_append_drop 24 ((words1.drop 24).drop 24), List.all_append, w_t3, ← List.take_append_drop 24 (((words1.drop 24).drop 24).drop 24), List.all_append, w_t4, ← List.take_append_drop 24 ((((words1.drop 24).drop 24).drop 24).drop 24), List.all_append, w_t5, w_t6]
  rfl
set_option maxRecDepth 65536 in
theorem w_rest : rest_1_c.before args0 about1 = true := by decide +kernel
set_option maxRecDepth 65536 in
theorem w_case : (Jvm.Cond.and given_1 narrow_1).before args0 about1 = true := by decide +kernel
set_option maxRecDepth 65536 in
theorem w_consts : constsHeld consts_1 about1 := Jvm.Lit.constsHeldB_iff.mp (by decide +kernel)
theorem w_applies : (headSpec (Jvm.Cond.code x code maxLocals ret :: tables_1) room_1).applies x e0.platform about1 = true :=
  (Spec.applies_iff w_frames).mpr ⟨w_running, w_runnable, w_alone, w_named, w_hears, w_ripe, w_room, w_tables⟩
theorem atStart : AtStart classFile x code maxLocals ret World_1 tables_1 room_1 Calls_1 rest_1 Pre_1 launch0 p0 e0 about1 theMethod args0 below0 :=
  ⟨lists_1, trivial, launch0.admits_env _ _ _, launch0.least_env, fairChoices_fair.cas, fairChoices_fair.clock, w_frames, w_args, w_heap, w_applies, ⟨w_consts, trivial⟩, w_rest, w_case⟩
end start1
theorem witness_1 : WitnessClaimed_1 := ⟨start1.p0, start1.e0, start1.about1, start1.theMethod, start1.args0, start1.below0, start1.atStart⟩
end Jvm.Pilot.@@N@@
