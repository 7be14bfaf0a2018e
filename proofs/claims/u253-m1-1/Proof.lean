import JvmDerived
import JvmDerived.Pilot.@@N@@Statement
import JvmDerived.Pilot.@@N@@Code
set_option linter.unusedVariables false
set_option linter.unusedSimpArgs false
namespace Jvm.Pilot.@@N@@
open Jvm Jvm.ClassFile Sem Op Lib Jvm.Free Jvm.Stand Jvm.LawKit Jvm.RoadKit Bundle Jvm.Pilot.@@N@@.Jvm.D
/-- from the point (T, g) the body comes to its end, with what P says of value, heap and places -/
def own_E (p : Program) (e : Env) (below : List Frame) (s : State) (k n : Nat) (P : Option Value → Heap → List Loc → Prop) (T : State) (g : JFrame) : Prop :=
  ∃ s₂ o, Steps p.tables e below (T.setTop g) s₂ ∧ s₂.status = .running ∧ Ended s₂ below o ∧ ∃ v L, o = .returned v ∧ P v s₂.heap L ∧ FrameEnd s o s₂ L k n
/-- what a law leaves: true, and nothing old written -/
def own_L (n0 : Nat) (v : Option Value) (h : Heap) (L : List Loc) : Prop := v = some (.int (1 : Int32)) ∧ Fr n0 L
section Own
variable {p : Program} {l : Launch} {e : Env} {R : Room} {s : State} {m : MethodId} {args : Array Value} {below : List Frame} {meth : Method} {c : Code} {T T' : State} {locs : List Loc} {cells slots : Nat} {k n : Nat} {P : Option Value → Heap → List Loc → Prop} {g g' : JFrame}
theorem own_st (h : ∀ t, Steps p.tables e below (T'.setTop g') t → Steps p.tables e below (T.setTop g) t) (E : own_E p e below s k n P T' g') : own_E p e below s k n P T g := by
  obtain ⟨s₂, o, h1, r⟩ := E; exact ⟨s₂, o, h _ h1, r⟩
theorem own_end (X : Stand p l e R s m args below meth c T locs cells slots) {v : Option Value} (hv : meth.sig.returnType = none → v = none) (hlk : meth.locks = false) (hk : cells ≤ k) (hn : slots ≤ n) (hP : P v T.heap locs)
    (h : ∀ fs : List Frame, (∀ (f : JFrame) (acts : List Action), f.method = m → f.locked = none → f.entered = [] → (doReturn e (T.setTop f) acts v).1 = T.setFrames fs) → Steps p.tables e below (T.setTop g) (T.setFrames fs)) : own_E p e below s k n P T g := by
  obtain ⟨fs, hr, hrun, hended, hW, hsame⟩ := X.leave (v := v) hv hlk
  exact ⟨_, _, h fs hr, hrun, hended, _, _, rfl, hP, ⟨_, rfl⟩, hW, hsame.mono hk hn⟩
theorem own_retV (X : Stand p l e R s m args below meth c T locs cells slots) (hx : p.tables.exec = Jvm.exec) (hret : meth.sig.returnType = none) (hlk : meth.locks = false) {pc : Nat} {Ls : Array Slot} (hd : decode c.code pc = .ok (.return_, 1)) (hk : cells ≤ k) (hn : slots ≤ n) (hP : P none T.heap locs) : own_E p e below s k n P T (mkF m pc Ls []) :=
  own_end X (fun _ => rfl) hlk hk hn hP fun _ hr => X.returnOut hx hret hd hr
theorem own_retN (X : Stand p l e R s m args below meth c T locs cells slots) (hx : p.tables.exec = Jvm.exec) {t : FieldType} (hret : meth.sig.returnType = some t) (ht : t = .boolean ∨ t = .byte ∨ t = .char ∨ t = .short) (hlk : meth.locks = false) {pc : Nat} {Ls : Array Slot} {z : Int32} {rest : List Value} (hd : decode c.code pc = .ok (.ireturn, 1)) (hk : cells ≤ k) (hn : slots ≤ n) (hP : P (some (.int (nar t z))) T.heap locs) : own_E p e below s k n P T (mkF m pc Ls (.int z :: rest)) :=
  own_end X (fun h => by rw [hret] at h; cases h) hlk hk hn hP fun _ hr => retN X hx hret ht hd hr
theorem own_retI (X : Stand p l e R s m args below meth c T locs cells slots) (hx : p.tables.exec = Jvm.exec) (hret : meth.sig.returnType = some .int) (hlk : meth.locks = false) {pc : Nat} {Ls : Array Slot} {z : Int32} {rest : List Value} (hd : decode c.code pc = .ok (.ireturn, 1)) (hk : cells ≤ k) (hn : slots ≤ n) (hP : P (some (.int z)) T.heap locs) : own_E p e below s k n P T (mkF m pc Ls (.int z :: rest)) :=
  own_end X (fun h => by rw [hret] at h; cases h) hlk hk hn hP fun _ hr => retOut X hx hret rfl (Or.inl ⟨rfl, Or.inl rfl, z, rfl⟩) hd hr
theorem own_retL (X : Stand p l e R s m args below meth c T locs cells slots) (hx : p.tables.exec = Jvm.exec) (hret : meth.sig.returnType = some .long) (hlk : meth.locks = false) {pc : Nat} {Ls : Array Slot} {z : Int64} {rest : List Value} (hd : decode c.code pc = .ok (.lreturn, 1)) (hk : cells ≤ k) (hn : slots ≤ n) (hP : P (some (.long z)) T.heap locs) : own_E p e below s k n P T (mkF m pc Ls (.long z :: rest)) :=
  own_end X (fun h => by rw [hret] at h; cases h) hlk hk hn hP fun _ hr => retOut X hx hret rfl (Or.inr (Or.inl ⟨rfl, rfl, z, rfl⟩)) hd hr
theorem own_narR {t : FieldType} {v : Value} (ht : t.isReference = true) : narrow t v = v := by cases t <;> first | (cases ht; done) | (cases v <;> rfl)
theorem own_fitR {t : FieldType} {v : Value} (h : v.isRef = true) (ht : t.isReference = true) : fits t v = true := by cases t <;> first | (cases ht; done) | (cases v <;> first | (cases h; done) | rfl)
theorem own_retA (X : Stand p l e R s m args below meth c T locs cells slots) (hx : p.tables.exec = Jvm.exec) {t : FieldType} (hret : meth.sig.returnType = some t) (ht : t.isReference = true) {w : Value} (hw : w.isRef = true) (hlk : meth.locks = false) {pc : Nat} {Ls : Array Slot} {rest : List Value} (hd : decode c.code pc = .ok (.areturn, 1)) (hk : cells ≤ k) (hn : slots ≤ n) (hP : P (some w) T.heap locs) : own_E p e below s k n P T (mkF m pc Ls (w :: rest)) :=
  own_end X (fun h => by rw [hret] at h; cases h) hlk hk hn hP fun _ hr => retOut X hx hret (own_narR ht) (Or.inr (Or.inr (Or.inr (Or.inr ⟨rfl, ht, hw⟩)))) hd hr
end Own
/-! the calls, their figures said plainly -/
section OwnCalls
variable {p : Program} {l : Launch} {e : Env} {R : Room} {s : State} {m : MethodId} {args : Array Value} {below : List Frame} {meth : Method} {c : Code} {T : State} {locs : List Loc} {cells slots : Nat} {W : Nat} {rm : Room} {as' : Array Value} {Q : Option Value → Heap → List Loc → Prop} {h : Heap} {c' s' : Nat}
theorem own_callS (X : Stand p l e R s m args below meth c T locs cells slots) (hx : p.tables.exec = Jvm.exec) {own : String} {index : Nat} {y : MethodName} {bytes : ByteArray} {maxL : Nat} {ret : Option FieldType} (hown : s.vm.findClass own = some m.cls) (hlink : (Cond.methodLink own index y).before args s = true) (hstat : (Cond.static y).before args s = true) (hinit : (Cond.initialized y.cls).before args s = true) (hcode : (Cond.code y bytes maxL ret).before args s = true) (hy : y.cls ≠ "java/lang/invoke/MethodHandle" ∧ y.cls ≠ "java/lang/invoke/VarHandle") (hK : Back l R p e below s args y 3 W (fun A a => a = as' ∧ A.U.heap = h ∧ A.cells + rm.cells ≤ R.cells ∧ A.slots + rm.slots ≤ R.slots) (fun A _ v B => ∃ L, Q v B.U.heap L ∧ B.locs = A.locs ++ L ∧ B.cells = A.cells + rm.cells ∧ B.slots = A.slots + rm.slots)) {g : JFrame} (hg : g.method = m) (hsize : g.locals.size = c.maxLocals) {argsL rest : List Value} (hlen : ∀ sig, parseMethodDescriptor y.desc = some sig → argsL.length = sig.parameters.length) (hstack : g.stack = argsL.reverse ++ rest) (hW : 2 * g.monitorRoom + (rest.map fun v => v.category).sum ≤ W) (hdg : decode c.code g.pc = .ok (.invokestatic index, 3)) (ha : argsL.toArray = as') (eT : T.heap = h) (hc : cells + rm.cells ≤ R.cells) (hs : slots + rm.slots ≤ R.slots) (h1 : cells + rm.cells = c') (h2 : slots + rm.slots = s') :
    ∃ (v : Option Value) (T' : State) (L : List Loc), Stand p l e R s m args below meth c T' (locs ++ L) c' s' ∧ Q v T'.heap L ∧ ∀ t, Steps p.tables e below (T'.setTop { g with pc := g.pc + 3, stack := v.toList ++ rest }) t → Steps p.tables e below (T.setTop g) t := by
  subst h1 h2
  obtain ⟨v, vm₁, ⟨T', L', k', n'⟩, -, X', ⟨L, hQ, h3, h4, h5⟩, st⟩ := Jvm.LawKit.callS X hx hown hlink hstat hinit hcode hy hK hg hsize hlen hstack hW hdg (fun _ _ => ⟨ha, eT, hc, hs⟩)
  dsimp only [Pt.U, Pt.locs, Pt.cells, Pt.slots] at X' h3 h4 h5 st hQ
  subst h3 h4 h5
  exact ⟨v, T', L, X', hQ, st⟩
theorem own_callI (X : Stand p l e R s m args below meth c T locs cells slots) (hx : p.tables.exec = Jvm.exec) {own : String} {index : Nat} {y : MethodName} {bytes : ByteArray} {maxL : Nat} (hy1 : y.name = "<init>") (hown : s.vm.findClass own = some m.cls) (hlink : (Cond.methodLink own index y).before args s = true) (hinst : (Cond.instanceMethod y).before args s = true) (hcode : (Cond.code y bytes maxL none).before args s = true) (hy : y.cls ≠ "java/lang/invoke/MethodHandle" ∧ y.cls ≠ "java/lang/invoke/VarHandle") (hK : Back l R p e below s args y 3 W (fun A a => a = as' ∧ A.U.heap = h ∧ A.cells + rm.cells ≤ R.cells ∧ A.slots + rm.slots ≤ R.slots) (fun A _ v B => ∃ L, Q v B.U.heap L ∧ B.locs = A.locs ++ L ∧ B.cells = A.cells + rm.cells ∧ B.slots = A.slots + rm.slots)) {g : JFrame} (hg : g.method = m) (hsize : g.locals.size = c.maxLocals) {a : Addr} {argsL rest : List Value} (hlen : ∀ sig, parseMethodDescriptor y.desc = some sig → argsL.length = sig.parameters.length) (hstack : g.stack = argsL.reverse ++ .ref a :: rest) (hW : 2 * g.monitorRoom + (rest.map fun v => v.category).sum ≤ W) (hdg : decode c.code g.pc = .ok (.invokespecial index, 3)) (ha : (.ref a :: argsL).toArray = as') (eT : T.heap = h) (hc : cells + rm.cells ≤ R.cells) (hs : slots + rm.slots ≤ R.slots) (h1 : cells + rm.cells = c') (h2 : slots + rm.slots = s') :
    ∃ (v : Option Value) (T' : State) (L : List Loc), Stand p l e R s m args below meth c T' (locs ++ L) c' s' ∧ Q v T'.heap L ∧ ∀ t, Steps p.tables e below (T'.setTop { g with pc := g.pc + 3, stack := v.toList ++ rest }) t → Steps p.tables e below (T.setTop g) t := by
  subst h1 h2
  obtain ⟨v, vm₁, ⟨T', L', k', n'⟩, -, X', ⟨L, hQ, h3, h4, h5⟩, st⟩ := X.specialBack hx hy1 hown hlink hinst hcode hy hK hg hsize (Steps.refl _) hlen hstack hW hdg (fun _ _ => ⟨ha, eT, hc, hs⟩)
  dsimp only [Pt.U, Pt.locs, Pt.cells, Pt.slots] at X' h3 h4 h5 st hQ
  subst h3 h4 h5
  exact ⟨v, T', L, X', hQ, fun t k => st.trans k⟩
theorem own_callP (X : Stand p l e R s m args below meth c T locs cells slots) (hx : p.tables.exec = Jvm.exec) {own : String} {index : Nat} {y : MethodName} {bytes : ByteArray} {maxL : Nat} {ret : Option FieldType} (hown : s.vm.findClass own = some m.cls) (hlink : (Cond.methodLink own index y).before args s = true) (hinst : (Cond.instanceMethod y).before args s = true) (hsel : (Cond.selects y.cls y y).before args s = true) (hpriv : s.PrivateAt y) (hcode : (Cond.code y bytes maxL ret).before args s = true) (hy : y.cls ≠ "java/lang/invoke/MethodHandle" ∧ y.cls ≠ "java/lang/invoke/VarHandle") (hK : Back l R p e below s args y 3 W (fun A a => a = as' ∧ A.U.heap = h ∧ A.cells + rm.cells ≤ R.cells ∧ A.slots + rm.slots ≤ R.slots) (fun A _ v B => ∃ L, Q v B.U.heap L ∧ B.locs = A.locs ++ L ∧ B.cells = A.cells + rm.cells ∧ B.slots = A.slots + rm.slots)) {g : JFrame} (hg : g.method = m) (hsize : g.locals.size = c.maxLocals) {a : Addr} {cell : Cell} (hcell : T.heap[a]? = some cell) (hobj : ∀ q, cell.vm ≠ .statics q) {argsL rest : List Value} (hlen : ∀ sig, parseMethodDescriptor y.desc = some sig → argsL.length = sig.parameters.length) (hstack : g.stack = argsL.reverse ++ .ref a :: rest) (hW : 2 * g.monitorRoom + (rest.map fun v => v.category).sum ≤ W) (hdg : decode c.code g.pc = .ok (.invokevirtual index, 3)) (ha : (.ref a :: argsL).toArray = as') (eT : T.heap = h) (hc : cells + rm.cells ≤ R.cells) (hs : slots + rm.slots ≤ R.slots) (h1 : cells + rm.cells = c') (h2 : slots + rm.slots = s') :
    ∃ (v : Option Value) (T' : State) (L : List Loc), Stand p l e R s m args below meth c T' (locs ++ L) c' s' ∧ Q v T'.heap L ∧ ∀ t, Steps p.tables e below (T'.setTop { g with pc := g.pc + 3, stack := v.toList ++ rest }) t → Steps p.tables e below (T.setTop g) t := by
  subst h1 h2
  obtain ⟨v, vm₁, ⟨T', L', k', n'⟩, -, X', ⟨L, hQ, h3, h4, h5⟩, st⟩ := X.privateBack hx hown hlink hinst hsel hpriv hcode hy hK hg hsize (Steps.refl _) hcell hobj hlen hstack hW hdg (fun _ _ => ⟨ha, eT, hc, hs⟩)
  dsimp only [Pt.U, Pt.locs, Pt.cells, Pt.slots] at X' h3 h4 h5 st hQ
  subst h3 h4 h5
  exact ⟨v, T', L, X', hQ, fun t k => st.trans k⟩
theorem own_callV (X : Stand p l e R s m args below meth c T locs cells slots) (hx : p.tables.exec = Jvm.exec) {own : String} {index : Nat} {C : String} {y z : MethodName} (hown : s.vm.findClass own = some m.cls) (hlink : (Cond.methodLink own index y).before args s = true) (hdecl : (Cond.declares y).before args s = true) (hnf : NotFace s y) (hsel : (Cond.selects C y z).before args s = true) (hinst : (Cond.instanceMethod z).before args s = true) (hy : y.cls ≠ "java/lang/invoke/MethodHandle" ∧ y.cls ≠ "java/lang/invoke/VarHandle") (hK : Back l R p e below s args z 3 W (fun A a => a = as' ∧ A.U.heap = h ∧ A.cells + rm.cells ≤ R.cells ∧ A.slots + rm.slots ≤ R.slots) (fun A _ v B => ∃ L, Q v B.U.heap L ∧ B.locs = A.locs ++ L ∧ B.cells = A.cells + rm.cells ∧ B.slots = A.slots + rm.slots)) {b : Addr} {cB : ClassId} (hcB : s.vm.findClass C = some cB) (hrecv : IsOf cB T b) {g : JFrame} (hg : g.method = m) (hsize : g.locals.size = c.maxLocals) {argsL rest : List Value} (hlen : ∀ sig, parseMethodDescriptor y.desc = some sig → argsL.length = sig.parameters.length) (hstack : g.stack = argsL.reverse ++ .ref b :: rest) (hW : 2 * g.monitorRoom + (rest.map fun v => v.category).sum ≤ W) (hdg : decode c.code g.pc = .ok (.invokevirtual index, 3)) (ha : (.ref b :: argsL).toArray = as') (eT : T.heap = h) (hc : cells + rm.cells ≤ R.cells) (hs : slots + rm.slots ≤ R.slots) (h1 : cells + rm.cells = c') (h2 : slots + rm.slots = s') :
    ∃ (v : Option Value) (T' : State) (L : List Loc), Stand p l e R s m args below meth c T' (locs ++ L) c' s' ∧ Q v T'.heap L ∧ ∀ t, Steps p.tables e below (T'.setTop { g with pc := g.pc + 3, stack := v.toList ++ rest }) t → Steps p.tables e below (T.setTop g) t := by
  subst h1 h2
  obtain ⟨v, vm₁, ⟨T', L', k', n'⟩, -, X', ⟨L, hQ, h3, h4, h5⟩, st⟩ := X.virtualBack hx hown hlink hdecl hnf hsel hinst hy hK hcB hrecv hg hsize (Steps.refl _) hlen hstack hW hdg (fun _ _ => ⟨ha, eT, hc, hs⟩)
  dsimp only [Pt.U, Pt.locs, Pt.cells, Pt.slots] at X' h3 h4 h5 st hQ
  subst h3 h4 h5
  exact ⟨v, T', L, X', hQ, fun t k => st.trans k⟩
theorem own_callF (X : Stand p l e R s m args below meth c T locs cells slots) (hx : p.tables.exec = Jvm.exec) {own : String} {index count : Nat} {C : String} {xi y : MethodName} (hown : s.vm.findClass own = some m.cls) (hlink : (Cond.methodLink own index xi).before args s = true) (hdecl : (Cond.declares xi).before args s = true) (hface : (Cond.interfaceMethod xi.cls xi.cls xi.name xi.desc).before args s = true) (hsel : (Cond.selects C xi y).before args s = true) (hinst : (Cond.instanceMethod y).before args s = true) (hpub : (Cond.publicMethod y).before args s = true) (hunh : (Cond.unhidden C xi.name xi.desc).before args s = true) (hcast : (Cond.castable C xi.cls).before args s = true) (hy : xi.cls ≠ "java/lang/invoke/MethodHandle" ∧ xi.cls ≠ "java/lang/invoke/VarHandle") (hK : Back l R p e below s args y 5 W (fun A a => a = as' ∧ A.U.heap = h ∧ A.cells + rm.cells ≤ R.cells ∧ A.slots + rm.slots ≤ R.slots) (fun A _ v B => ∃ L, Q v B.U.heap L ∧ B.locs = A.locs ++ L ∧ B.cells = A.cells + rm.cells ∧ B.slots = A.slots + rm.slots)) {b : Addr} {cB : ClassId} {kB : Class} (hcB : s.vm.findClass C = some cB) (hkB : s.vm.classes[cB]? = some kB) (hrecv : IsOf cB T b) {g : JFrame} (hg : g.method = m) (hsize : g.locals.size = c.maxLocals) {argsL rest : List Value} (hlen : ∀ sig, parseMethodDescriptor xi.desc = some sig → argsL.length = sig.parameters.length) (hstack : g.stack = argsL.reverse ++ .ref b :: rest) (hW : 2 * g.monitorRoom + (rest.map fun v => v.category).sum ≤ W) (hdg : decode c.code g.pc = .ok (.invokeinterface index count, 5)) (ha : (.ref b :: argsL).toArray = as') (eT : T.heap = h) (hc : cells + rm.cells ≤ R.cells) (hs : slots + rm.slots ≤ R.slots) (h1 : cells + rm.cells = c') (h2 : slots + rm.slots = s') :
    ∃ (v : Option Value) (T' : State) (L : List Loc), Stand p l e R s m args below meth c T' (locs ++ L) c' s' ∧ Q v T'.heap L ∧ ∀ t, Steps p.tables e below (T'.setTop { g with pc := g.pc + 5, stack := v.toList ++ rest }) t → Steps p.tables e below (T.setTop g) t := by
  subst h1 h2
  obtain ⟨v, vm₁, ⟨T', L', k', n'⟩, -, X', ⟨L, hQ, h3, h4, h5⟩, st⟩ := X.interfaceBack hx hown hlink hdecl hface hsel hinst hpub hunh hcast hy hK hcB hkB hrecv hg hsize (Steps.refl _) hlen hstack hW hdg (fun _ _ => ⟨ha, eT, hc, hs⟩)
  dsimp only [Pt.U, Pt.locs, Pt.cells, Pt.slots] at X' h3 h4 h5 st hQ
  subst h3 h4 h5
  exact ⟨v, T', L, X', hQ, fun t k => st.trans k⟩
end OwnCalls
theorem own_z {Z : State} {n0 : Nat} {h : Heap} (O : Old Z n0 h) : n0 ≤ h.size := O.1 ▸ O.2.1
theorem own_oldlt {Z : State} {n0 : Nat} {h : Heap} {a : Addr} (O : Old Z n0 h) (q : a < Z.heap.size) : a < h.size := Nat.lt_of_lt_of_le q O.2.1
theorem own_ext {h h' : Heap} (K : Keep h h' []) : Ext h h' := ⟨K.1, fun x c q => K.2.1 x c q nin0⟩
theorem own_fld0 {args : Array Value} {Z : State} {t : Term} {a : Addr} {C n d : String} {k : Int32} (ev : t.eval args Z none [] Z = some (.ref a)) (h : (Jvm.Cond.eq (Term.field t C n d) (Term.int k)).value args Z none Z [] = some true) : Fld Z Z.heap a C n d (.int k) := by
  cases hv : Z.fieldOf? a C n d with
  | none => simp [Cond.value, Term.eval, ev, hv] at h
  | some x => cases x <;> simp [Cond.value, Term.eval, ev, hv] at h; subst h; exact Fld.start hv
theorem own_nz {args : Array Value} {Z : State} {t : Term} {cz : Int32} (ev : t.eval args Z none [] Z = some (.int cz)) (h : (Jvm.Cond.not (Jvm.Cond.eq t (Term.int (0 : Int32)))).value args Z none Z [] = some true) : ¬ cz = (0 : Int32) := by
  simpa [Cond.value, ev, Term.eval] using h
theorem own_neF {Z : State} {h : Heap} {a b : Addr} {C n d : String} {x y : Value} (F : Fld Z h a C n d x) (G : Fld Z h b C n d y) (q : x ≠ y) : a ≠ b := fun e => by
  subst e
  obtain ⟨c1, cf1, k1, i1, f1, h1, h2, -, -, -, -, h7⟩ := F
  obtain ⟨c2, cf2, k2, i2, f2, g1, g2, -, -, -, -, g7⟩ := G
  cases h1.symm.trans g1
  cases h2.symm.trans g2
  exact q (Option.some.inj (h7.symm.trans g7))
theorem own_rem (x y : Int32) (d : Int) (hd : 0 < d) (hy : y.toInt = d) : 0 ≤ ((x &&& 2147483647) % y).toInt ∧ ((x &&& 2147483647) % y).toInt < d := by
  have h1 := (c_andS x 2147483647).2.2 (by decide)
  have h2 := (c_irem (x &&& 2147483647) y d hy).1 h1
  rw [h2]; exact ⟨Int.emod_nonneg _ (by omega), Int.emod_lt_of_pos _ hd⟩
theorem own_nc (x : Int32) : nar .char ((x &&& 255).toUInt32.toUInt16.toUInt32.toInt32) = x &&& 255 := by
  show ((x &&& 255).toUInt32.toUInt16.toUInt32.toInt32).toUInt32.toUInt16.toUInt32.toInt32 = _
  rw [i2c_mask, i2c_mask]
theorem own_ncm (x : Int32) : nar .char (x &&& 255) = x &&& 255 := i2c_mask x
theorem own_bb (b : Int32) : nar .byte (b.toInt8.toInt32) = b.toInt8.toInt32 := by
  show b.toInt8.toInt32.toInt8.toInt32 = _
  have h1 := c_i2b b
  have h2 := c_i2b b.toInt8.toInt32
  exact Int32.toInt_inj.mp (by omega)
theorem own_neA {Z : State} {h : Heap} {a b : Addr} {C : String} {k : Nat} {a0 : Array Value} {kb : ClassId} {ty : FieldType} {n : Int32} {vs : List Value} {dv : Value} (E : Exa Z h a C) (wi : (Jvm.Cond.instantiable C k).before a0 Z = true) (F : Arv Z h b kb ty n vs dv) : a ≠ b := by
  obtain ⟨c, A, -⟩ := F; exact ne_arr E wi A
theorem own_r255 (x : Int32) : ¬ (x &&& 255) < (0 : Int32) ∧ ¬ (255 : Int32) < (x &&& 255) := by
  have e := c_mask x 255 8 (by decide) (by decide)
  have z0 : (0 : Int32).toInt = 0 := rfl
  have z1 : (255 : Int32).toInt = 255 := rfl
  have z2 : ((2 ^ 8 : Nat) : Int) = 256 := rfl
  constructor <;> rw [Int32.lt_iff_toInt_lt] <;> omega
theorem own_c255 (x : Int32) : ¬ (255 : Int32) < nar .char ((x &&& 255).toUInt32.toUInt16.toUInt32.toInt32) := by rw [own_nc]; exact (own_r255 x).2
theorem own_eqI {x y : Int32} (h : x.toInt = y.toInt) : x = y := Int32.toInt_inj.mp h
/-- own_E where String constants may be met: the tables may have been warmed widely; EL: the constants whose texts are held -/
def own_W (p : Program) (e : Env) (below : List Frame) (s : State) (k n : Nat) (Z : State) (EL : List (String × Nat)) (hs : Heap) (P : Option Value → Heap → List Loc → Prop) (T : State) (g : JFrame) : Prop :=
  ∃ s₂ o, Steps p.tables e below (T.setTop g) s₂ ∧ s₂.status = .running ∧ Ended s₂ below o ∧ ∃ v L, o = .returned v ∧ P v s₂.heap L ∧ CHr Z EL s.vm hs s₂.vm s₂.heap ∧ ReturnedEndW s o s₂ L k n
section OwnW
variable {p : Program} {l : Launch} {e : Env} {R : Room} {s : State} {m : MethodId} {args : Array Value} {below : List Frame} {meth : Method} {c : Code} {T T' : State} {locs : List Loc} {cells slots : Nat} {k n : Nat} {P : Option Value → Heap → List Loc → Prop} {g g' : JFrame} {Z : State} {EL : List (String × Nat)} {vm0 : Vm} {k0 : Nat} {a0 : Array Value} {hs : Heap}
theorem own_W0 (hh : s.heap = hs) (E : own_W p e below s k n Z EL hs P T g) : ∃ s₂ o, Steps p.tables e below (T.setTop g) s₂ ∧ s₂.status = .running ∧ Ended s₂ below o ∧ ∃ v L, o = .returned v ∧ P v s₂.heap L ∧ CHr Z EL s.vm s.heap s₂.vm s₂.heap ∧ ReturnedEndW s o s₂ L k n := by
  subst hh; exact E
theorem own_hZ (hZ : Z.Warmed39 s.vm) (hS : s.Since vm0 k0) : Z.Warmed39 (s.setVm vm0).vm := State.Warmed39.trans (t := s) hZ hS.1
theorem own_hown {own : String} {cc : ClassId} (h : s.vm.findClass own = some cc) (hS : s.Since vm0 k0) : (s.setVm vm0).vm.findClass own = some cc := by
  rw [show (s.setVm vm0).vm = vm0 from rfl, hS.1.alike.findClass]; exact h
theorem own_stW (h : ∀ t, Steps p.tables e below (T'.setTop g') t → Steps p.tables e below (T.setTop g) t) (E : own_W p e below s k n Z EL hs P T' g') : own_W p e below s k n Z EL hs P T g := by
  obtain ⟨s₂, o, h1, r⟩ := E; exact ⟨s₂, o, h _ h1, r⟩
theorem own_endW (X : Stand p l e R (s.setVm vm0) m args below meth c T locs cells slots) (hZ : Z.Warmed39 vm0) (hS : s.Since vm0 k0) (hk0 : k0 ≤ T.heap.size) (hEL : EW Z a0 EL) (A : CHr Z EL s.vm hs vm0 T.heap) {v : Option Value} (hv : meth.sig.returnType = none → v = none) (hlk : meth.locks = false) (hk : cells ≤ k) (hn : slots ≤ n) (hP : P v T.heap locs)
    (h : ∀ fs : List Frame, (∀ (f : JFrame) (acts : List Action), f.method = m → f.locked = none → f.entered = [] → (doReturn e (T.setTop f) acts v).1 = T.setFrames fs) → Steps p.tables e below (T.setTop g) (T.setFrames fs)) : own_W p e below s k n Z EL hs P T g := by
  obtain ⟨fs, hr, hrun, hended, r1, r2, r3, r4⟩ := X.leaveW hS hk0 (v := v) hv hlk
  exact ⟨_, _, h fs hr, hrun, hended, _, _, rfl, hP, A.trans (show CHr Z EL vm0 T.heap T.vm T.heap from CHv.at X hZ hEL A.1), r1, r2, r3, r4.mono hk hn⟩
theorem own_retVW (X : Stand p l e R (s.setVm vm0) m args below meth c T locs cells slots) (hZ : Z.Warmed39 vm0) (hS : s.Since vm0 k0) (hk0 : k0 ≤ T.heap.size) (hEL : EW Z a0 EL) (A : CHr Z EL s.vm hs vm0 T.heap) (hx : p.tables.exec = Jvm.exec) (hret : meth.sig.returnType = none) (hlk : meth.locks = false) {pc : Nat} {Ls : Array Slot} (hd : decode c.code pc = .ok (.return_, 1)) (hk : cells ≤ k) (hn : slots ≤ n) (hP : P none T.heap locs) : own_W p e below s k n Z EL hs P T (mkF m pc Ls []) :=
  own_endW X hZ hS hk0 hEL A (fun _ => rfl) hlk hk hn hP fun _ hr => X.returnOut hx hret hd hr
theorem own_retNW (X : Stand p l e R (s.setVm vm0) m args below meth c T locs cells slots) (hZ : Z.Warmed39 vm0) (hS : s.Since vm0 k0) (hk0 : k0 ≤ T.heap.size) (hEL : EW Z a0 EL) (A : CHr Z EL s.vm hs vm0 T.heap) (hx : p.tables.exec = Jvm.exec) {t : FieldType} (hret : meth.sig.returnType = some t) (ht : t = .boolean ∨ t = .byte ∨ t = .char ∨ t = .short) (hlk : meth.locks = false) {pc : Nat} {Ls : Array Slot} {z : Int32} {rest : List Value} (hd : decode c.code pc = .ok (.ireturn, 1)) (hk : cells ≤ k) (hn : slots ≤ n) (hP : P (some (.int (nar t z))) T.heap locs) : own_W p e below s k n Z EL hs P T (mkF m pc Ls (.int z :: rest)) :=
  own_endW X hZ hS hk0 hEL A (fun h => by rw [hret] at h; cases h) hlk hk hn hP fun _ hr => retN X hx hret ht hd hr
theorem own_retIW (X : Stand p l e R (s.setVm vm0) m args below meth c T locs cells slots) (hZ : Z.Warmed39 vm0) (hS : s.Since vm0 k0) (hk0 : k0 ≤ T.heap.size) (hEL : EW Z a0 EL) (A : CHr Z EL s.vm hs vm0 T.heap) (hx : p.tables.exec = Jvm.exec) (hret : meth.sig.returnType = some .int) (hlk : meth.locks = false) {pc : Nat} {Ls : Array Slot} {z : Int32} {rest : List Value} (hd : decode c.code pc = .ok (.ireturn, 1)) (hk : cells ≤ k) (hn : slots ≤ n) (hP : P (some (.int z)) T.heap locs) : own_W p e below s k n Z EL hs P T (mkF m pc Ls (.int z :: rest)) :=
  own_endW X hZ hS hk0 hEL A (fun h => by rw [hret] at h; cases h) hlk hk hn hP fun _ hr => retOut X hx hret rfl (Or.inl ⟨rfl, Or.inl rfl, z, rfl⟩) hd hr
theorem own_retAW (X : Stand p l e R (s.setVm vm0) m args below meth c T locs cells slots) (hZ : Z.Warmed39 vm0) (hS : s.Since vm0 k0) (hk0 : k0 ≤ T.heap.size) (hEL : EW Z a0 EL) (A : CHr Z EL s.vm hs vm0 T.heap) (hx : p.tables.exec = Jvm.exec) {t : FieldType} (hret : meth.sig.returnType = some t) (ht : t.isReference = true) {w : Value} (hw : w.isRef = true) (hlk : meth.locks = false) {pc : Nat} {Ls : Array Slot} {rest : List Value} (hd : decode c.code pc = .ok (.areturn, 1)) (hk : cells ≤ k) (hn : slots ≤ n) (hP : P (some w) T.heap locs) : own_W p e below s k n Z EL hs P T (mkF m pc Ls (w :: rest)) :=
  own_endW X hZ hS hk0 hEL A (fun h => by rw [hret] at h; cases h) hlk hk hn hP fun _ hr => retOut X hx hret (own_narR ht) (Or.inr (Or.inr (Or.inr (Or.inr ⟨rfl, ht, hw⟩)))) hd hr
/-- who pays a callee of ours that may meet String constants: 'sf', the objects that are none of them -/
theorem own_backW {y : MethodName} {bytes : ByteArray} {maxL : Nat} {ret : Option FieldType} {rm : Room} {len W : Nat} {as' : Array Value} {Q : Option Value → Heap → List Loc → Prop} {h : Heap} {sf : List Addr}
    (hM : MetFree l y (head1 [Jvm.Cond.code y bytes maxL ret] rm) (fun a U => a = as' ∧ Z.Warmed39 U.vm ∧ U.heap = h ∧ CHv Z EL U.vm h ∧ ∀ x ∈ sf, Safe Z EL U.vm h x) (fun _ _ _ _ _ => True) (fun _ U o U' => ∃ v L, o = .returned v ∧ Q v U'.heap L ∧ CHr Z EL U.vm U.heap U'.vm U'.heap ∧ ReturnedEndW U o U' L rm.cells rm.slots))
    (hZ : Z.Warmed39 (s.setVm vm0).vm) (wc : (Jvm.Cond.code y bytes maxL ret).before a0 Z = true) (wz : (Jvm.Cond.initialized y.cls).before a0 Z = true) (hf : rm.frames + 1 ≤ R.frames) (hl : W + (maxL + 11) + rm.locals ≤ R.locals) (hEL : EW Z a0 EL) (H : CHv Z EL vm0 h) (S : ∀ x ∈ sf, Safe Z EL vm0 h x) (St : ∀ x ∈ sf, x < h.size) :
    BackS l R p e below (s.setVm vm0) args y len W (fun A a => a = as' ∧ A.U.heap = h ∧ A.cells + rm.cells ≤ R.cells ∧ A.slots + rm.slots ≤ R.slots)
      (fun A _ v B => ∃ L, Q v B.U.heap L ∧ B.locs = A.locs ++ L ∧ B.cells = A.cells + rm.cells ∧ B.slots = A.slots + rm.slots ∧ CHr Z EL vm0 h B.U.vm B.U.heap) := by
  have hZ' : Z.Warmed39 vm0 := hZ
  refine BackS.of_freeW (bytes := bytes) (maxL := maxL) (ret := ret) (E := fun _ first o t L k n => k = rm.cells ∧ n = rm.slots ∧ (∃ v, o = .returned v ∧ Q v t.heap L) ∧ CHr Z EL first.vm first.heap t.vm t.heap) hM hf hl ?_ ?_ (fun _ _ _ _ _ _ _ _ _ => trivial) ?_ ?_
  · intro m meth c A a Y hp
    have hU : Z.Warmed39 A.U.vm := wtrans (s := s.setVm vm0) hZ Y.warmed
    refine ⟨?_, mv hU wc, mv hU wz, hp.2.2.1, hp.2.2.2⟩
    show (Jvm.Cond.and _ .tt).before a A.U = true
    rw [Cond.before_and, mv hU wc]; rfl
  · intro m meth c A a g mk Y hp
    have K := CHv.at Y hZ' hEL H
    exact ⟨hp.1, wtrans (s := s.setVm vm0) hZ Y.warmed, hp.2.1, K.1, fun x hx => K.safe (St x hx) (S x hx)⟩
  · rintro _ _ _ _ ⟨v, L, h1, h2, h3, h4⟩
    exact ⟨L, _, _, h4, rfl, rfl, ⟨v, h1, h2⟩, h3⟩
  · rintro m meth c A a g mk v t L k n Y hp _ _ ⟨e1, e2, ⟨v', e3, e4⟩, e5⟩
    cases e3; subst e1 e2
    refine ⟨L, e4, rfl, rfl, rfl, (CHv.at Y hZ' hEL H).trans ?_⟩
    rw [← hp.2.1]; exact e5
theorem own_callSW {W : Nat} {rm : Room} {as' : Array Value} {Q : Option Value → Heap → List Loc → Prop} {h : Heap} {c' s' : Nat} (X : Stand p l e R (s.setVm vm0) m args below meth c T locs cells slots) (hx : p.tables.exec = Jvm.exec) {own : String} {index : Nat} {y : MethodName} {bytes : ByteArray} {maxL : Nat} {ret : Option FieldType} (hown : (s.setVm vm0).vm.findClass own = some m.cls) (hlink : (Jvm.Cond.methodLink own index y).before args (s.setVm vm0) = true) (hstat : (Jvm.Cond.static y).before args (s.setVm vm0) = true) (hinit : (Jvm.Cond.initialized y.cls).before args (s.setVm vm0) = true) (hcode : (Jvm.Cond.code y bytes maxL ret).before args (s.setVm vm0) = true) (hy : y.cls ≠ "java/lang/invoke/MethodHandle" ∧ y.cls ≠ "java/lang/invoke/VarHandle") (hK : BackS l R p e below (s.setVm vm0) args y 3 W (fun A a => a = as' ∧ A.U.heap = h ∧ A.cells + rm.cells ≤ R.cells ∧ A.slots + rm.slots ≤ R.slots) (fun A _ v B => ∃ L, Q v B.U.heap L ∧ B.locs = A.locs ++ L ∧ B.cells = A.cells + rm.cells ∧ B.slots = A.slots + rm.slots ∧ CHr Z EL vm0 h B.U.vm B.U.heap)) {g : JFrame} (hg : g.method = m) (hsize : g.locals.size = c.maxLocals) {argsL rest : List Value} (hlen : ∀ sig, parseMethodDescriptor y.desc = some sig → argsL.length = sig.parameters.length) (hstack : g.stack = argsL.reverse ++ rest) (hW : 2 * g.monitorRoom + (rest.map fun v => v.category).sum ≤ W) (hdg : decode c.code g.pc = .ok (.invokestatic index, 3)) (ha : argsL.toArray = as') (eT : T.heap = h) (hc : cells + rm.cells ≤ R.cells) (hs' : slots + rm.slots ≤ R.slots) (h1 : cells + rm.cells = c') (h2 : slots + rm.slots = s') (hS : s.Since vm0 k0) (hk : k0 ≤ h.size) :
    ∃ (v : Option Value) (T' : State) (L : List Loc), Stand p l e R (s.setVm T'.vm) m args below meth c T' (locs ++ L) c' s' ∧ s.Since T'.vm T'.heap.size ∧ Q v T'.heap L ∧ CHr Z EL vm0 h T'.vm T'.heap ∧ ∀ t, Steps p.tables e below (T'.setTop { g with pc := g.pc + 3, stack := v.toList ++ rest }) t → Steps p.tables e below (T.setTop g) t := by
  subst h1 h2
  obtain ⟨v, vm₁, ⟨T', L', k', n'⟩, -, X', hS2, hgr, ⟨L, hQ, h3, h4, h5, ch⟩, st⟩ := callSS X hx hown hlink hstat hinit hcode hy hK hg hsize hlen hstack hW hdg (fun _ _ => ⟨ha, eT, hc, hs'⟩)
  dsimp only [Pt.U, Pt.locs, Pt.cells, Pt.slots] at X' hS2 hgr h3 h4 h5 st hQ ch
  subst h3 h4 h5
  exact ⟨v, T', L, X', hS.trans hS2 (Nat.le_trans (eT ▸ hk) hgr), hQ, ch, fun t k => st.trans k⟩
theorem own_callIW {W : Nat} {rm : Room} {as' : Array Value} {Q : Option Value → Heap → List Loc → Prop} {h : Heap} {c' s' : Nat} (X : Stand p l e R (s.setVm vm0) m args below meth c T locs cells slots) (hx : p.tables.exec = Jvm.exec) {own : String} {index : Nat} {y : MethodName} {bytes : ByteArray} {maxL : Nat} (hy1 : y.name = "<init>") (hown : (s.setVm vm0).vm.findClass own = some m.cls) (hlink : (Jvm.Cond.methodLink own index y).before args (s.setVm vm0) = true) (hinst : (Jvm.Cond.instanceMethod y).before args (s.setVm vm0) = true) (hcode : (Jvm.Cond.code y bytes maxL none).before args (s.setVm vm0) = true) (hy : y.cls ≠ "java/lang/invoke/MethodHandle" ∧ y.cls ≠ "java/lang/invoke/VarHandle") (hK : BackS l R p e below (s.setVm vm0) args y 3 W (fun A a => a = as' ∧ A.U.heap = h ∧ A.cells + rm.cells ≤ R.cells ∧ A.slots + rm.slots ≤ R.slots) (fun A _ v B => ∃ L, Q v B.U.heap L ∧ B.locs = A.locs ++ L ∧ B.cells = A.cells + rm.cells ∧ B.slots = A.slots + rm.slots ∧ CHr Z EL vm0 h B.U.vm B.U.heap)) {g : JFrame} (hg : g.method = m) (hsize : g.locals.size = c.maxLocals) {a : Addr} {argsL rest : List Value} (hlen : ∀ sig, parseMethodDescriptor y.desc = some sig → argsL.length = sig.parameters.length) (hstack : g.stack = argsL.reverse ++ .ref a :: rest) (hW : 2 * g.monitorRoom + (rest.map fun v => v.category).sum ≤ W) (hdg : decode c.code g.pc = .ok (.invokespecial index, 3)) (ha : (.ref a :: argsL).toArray = as') (eT : T.heap = h) (hc : cells + rm.cells ≤ R.cells) (hs' : slots + rm.slots ≤ R.slots) (h1 : cells + rm.cells = c') (h2 : slots + rm.slots = s') (hS : s.Since vm0 k0) (hk : k0 ≤ h.size) :
    ∃ (v : Option Value) (T' : State) (L : List Loc), Stand p l e R (s.setVm T'.vm) m args below meth c T' (locs ++ L) c' s' ∧ s.Since T'.vm T'.heap.size ∧ Q v T'.heap L ∧ CHr Z EL vm0 h T'.vm T'.heap ∧ ∀ t, Steps p.tables e below (T'.setTop { g with pc := g.pc + 3, stack := v.toList ++ rest }) t → Steps p.tables e below (T.setTop g) t := by
  subst h1 h2
  obtain ⟨v, vm₁, ⟨T', L', k', n'⟩, -, X', hS2, hgr, ⟨L, hQ, h3, h4, h5, ch⟩, st⟩ := X.specialBackS hx hy1 hown hlink hinst hcode hy hK hg hsize (Steps.refl _) hlen hstack hW hdg (fun _ _ => ⟨ha, eT, hc, hs'⟩)
  dsimp only [Pt.U, Pt.locs, Pt.cells, Pt.slots] at X' hS2 hgr h3 h4 h5 st hQ ch
  subst h3 h4 h5
  exact ⟨v, T', L, X', hS.trans hS2 (Nat.le_trans (eT ▸ hk) hgr), hQ, ch, fun t k => st.trans k⟩
theorem own_callVW {W : Nat} {rm : Room} {as' : Array Value} {Q : Option Value → Heap → List Loc → Prop} {h : Heap} {c' s' : Nat} (X : Stand p l e R (s.setVm vm0) m args below meth c T locs cells slots) (hx : p.tables.exec = Jvm.exec) {own : String} {index : Nat} {C : String} {y z : MethodName} (hown : (s.setVm vm0).vm.findClass own = some m.cls) (hlink : (Jvm.Cond.methodLink own index y).before args (s.setVm vm0) = true) (hdecl : (Jvm.Cond.declares y).before args (s.setVm vm0) = true) (hnf : NotFace (s.setVm vm0) y) (hsel : (Jvm.Cond.selects C y z).before args (s.setVm vm0) = true) (hinst : (Jvm.Cond.instanceMethod z).before args (s.setVm vm0) = true) (hy : y.cls ≠ "java/lang/invoke/MethodHandle" ∧ y.cls ≠ "java/lang/invoke/VarHandle") (hK : BackS l R p e below (s.setVm vm0) args z 3 W (fun A a => a = as' ∧ A.U.heap = h ∧ A.cells + rm.cells ≤ R.cells ∧ A.slots + rm.slots ≤ R.slots) (fun A _ v B => ∃ L, Q v B.U.heap L ∧ B.locs = A.locs ++ L ∧ B.cells = A.cells + rm.cells ∧ B.slots = A.slots + rm.slots ∧ CHr Z EL vm0 h B.U.vm B.U.heap)) {b : Addr} {cB : ClassId} (hcB : (s.setVm vm0).vm.findClass C = some cB) (hrecv : IsOf cB T b) {g : JFrame} (hg : g.method = m) (hsize : g.locals.size = c.maxLocals) {argsL rest : List Value} (hlen : ∀ sig, parseMethodDescriptor y.desc = some sig → argsL.length = sig.parameters.length) (hstack : g.stack = argsL.reverse ++ .ref b :: rest) (hW : 2 * g.monitorRoom + (rest.map fun v => v.category).sum ≤ W) (hdg : decode c.code g.pc = .ok (.invokevirtual index, 3)) (ha : (.ref b :: argsL).toArray = as') (eT : T.heap = h) (hc : cells + rm.cells ≤ R.cells) (hs' : slots + rm.slots ≤ R.slots) (h1 : cells + rm.cells = c') (h2 : slots + rm.slots = s') (hS : s.Since vm0 k0) (hk : k0 ≤ h.size) :
    ∃ (v : Option Value) (T' : State) (L : List Loc), Stand p l e R (s.setVm T'.vm) m args below meth c T' (locs ++ L) c' s' ∧ s.Since T'.vm T'.heap.size ∧ Q v T'.heap L ∧ CHr Z EL vm0 h T'.vm T'.heap ∧ ∀ t, Steps p.tables e below (T'.setTop { g with pc := g.pc + 3, stack := v.toList ++ rest }) t → Steps p.tables e below (T.setTop g) t := by
  subst h1 h2
  obtain ⟨v, vm₁, ⟨T', L', k', n'⟩, -, X', hS2, hgr, ⟨L, hQ, h3, h4, h5, ch⟩, st⟩ := X.virtualBackS hx hown hlink hdecl hnf hsel hinst hy hK hcB hrecv hg hsize (Steps.refl _) hlen hstack hW hdg (fun _ _ => ⟨ha, eT, hc, hs'⟩)
  dsimp only [Pt.U, Pt.locs, Pt.cells, Pt.slots] at X' hS2 hgr h3 h4 h5 st hQ ch
  subst h3 h4 h5
  exact ⟨v, T', L, X', hS.trans hS2 (Nat.le_trans (eT ▸ hk) hgr), hQ, ch, fun t k => st.trans k⟩
end OwnW
/-- a contract in short: what a body leaves, its heap before and its arguments given -/
abbrev own_MF (l : Launch) (y : MethodName) (ws : List Jvm.Cond) (R : Room) (A : Array Value) (Z : State) (h0 : Heap) (Q : Option Value → Heap → List Loc → Prop) : Prop :=
  MetFree l y (head1 ws R) (fun ar_ U => ar_ = A ∧ Z.Warmed39 U.vm ∧ U.heap = h0) (fun _ _ _ _ _ => True) (fun _ U o U' => ∃ v L, o = .returned v ∧ Q v U'.heap L ∧ FrameEnd U o U' L R.cells R.slots)
theorem own_met {l : Launch} {y : MethodName} {ws : List Jvm.Cond} {R : Room} {A : Array Value} {Z : State} {h0 : Heap} {Q : Option Value → Heap → List Loc → Prop} {bytes : ByteArray} {maxL : Nat} {ret : Option FieldType} {own nme : String} (ho : y.cls = own) (hn : y.name = nme) (hpl : plainFor y = true)
    (K : ∀ (p : Program) (e : Env) (s : State) (m : MethodId) (below : List Frame) (meth : Method) (c : Code) (s₁ : State), p.tables.exec = Jvm.exec → c.code = bytes → c.maxLocals = maxL → s.vm.findClass own = some m.cls → meth.name = nme → Stand p l e R s m A below meth c s₁ [] 0 0 → s₁.heap = h0 → meth.sig.returnType = ret → meth.locks = false → Z.Warmed39 s.vm → own_E p e below s R.cells R.slots Q s₁ (entryFrame m A maxL)) :
    own_MF l y (Jvm.Cond.code y bytes maxL ret :: ws) R A Z h0 Q := by
  refine MetFree.of_bodySF hpl hisR ?_
  intro p e s m args below meth c s₁ Bd hml0 hP hK
  obtain ⟨rfl, hZ, hh⟩ := hP
  exact K p e s m below meth c s₁ Bd.exec Bd.bytes hml0 (ho ▸ findClass_of_methodNamed Bd.named) (hn ▸ (name_of_methodNamed Bd.named Bd.method).1) (Stand.of_body Bd) (by rw [← hh, Bd.state]; rfl) Bd.returns Bd.notSynchronized hZ
theorem own_sp {p : Program} {e : Env} {below : List Frame} {s : State} {k n : Nat} {P : Option Value → Heap → List Loc → Prop} {T T' : State} {m : MethodId} {pc q : Nat} {Ls : Array Slot} {S S' : List Value} (h : ∀ t, Steps p.tables e below (T'.setTop (mkF m q Ls S')) t → Steps p.tables e below (T.setTop (mkF m pc Ls S)) t) (E : own_E p e below s k n P T' (mkF m q Ls S')) : own_E p e below s k n P T (mkF m pc Ls S) := own_st h E
theorem wd {Z : State} {a0 : Array Value} (hw : ∀ d ∈ tables_1, d.before a0 Z = true) (i : Nat) {d : Jvm.Cond} (h : tables_1[i]? = some d) : d.before a0 Z = true := hw d (List.mem_of_getElem? h)
theorem own_int0 {args : Array Value} {Z : State} {t : Term} {k : Int32} (h : (Jvm.Cond.eq t (Term.int k)).value args Z none Z [] = some true) : t.eval args Z none [] Z = some (.int k) := by
  cases hv : t.eval args Z none [] Z with
  | none => simp [Cond.value, Term.eval, hv] at h
  | some x => cases x <;> simp [Cond.value, Term.eval, hv] at h; subst h; rfl
theorem own_nlt (x : Int32) : ¬ x < x := fun h => by rw [Int32.lt_iff_toInt_lt] at h; omega
abbrev own_m0 : MethodName := ⟨"java/lang/String", "coder", "()B"⟩
abbrev own_m1 : MethodName := ⟨"java/lang/String", "isLatin1", "()Z"⟩
abbrev own_m2 : MethodName := ⟨"java/lang/String", "length", "()I"⟩
abbrev own_m3 : MethodName := ⟨"jdk/internal/util/Preconditions", "checkIndex", "(IILjava/util/function/BiFunction;)I"⟩
abbrev own_m4 : MethodName := ⟨"java/lang/String", "checkIndex", "(II)V"⟩
abbrev own_m5 : MethodName := ⟨"java/lang/StringLatin1", "charAt", "([BI)C"⟩
abbrev own_m6 : MethodName := ⟨"java/lang/StringUTF16", "getChar", "([BI)C"⟩
abbrev own_m7 : MethodName := ⟨"java/lang/StringUTF16", "length", "([B)I"⟩
abbrev own_m8 : MethodName := ⟨"java/lang/StringUTF16", "checkIndex", "(I[B)V"⟩
abbrev own_m9 : MethodName := ⟨"java/lang/StringUTF16", "charAt", "([BI)C"⟩
abbrev own_m10 : MethodName := ⟨"java/lang/String", "charAt", "(I)C"⟩
abbrev own_m11 : MethodName := ⟨"java/lang/StringUTF16", "putChar", "([BII)V"⟩
abbrev own_m12 : MethodName := ⟨"java/lang/String", "<init>", "([CIILjava/lang/Void;)V"⟩
abbrev own_m13 : MethodName := ⟨"java/lang/String", "<init>", "([C)V"⟩
abbrev own_m14 : MethodName := ⟨"java/lang/StringUTF16", "compress", "([CI[BII)I"⟩
abbrev own_m15 : MethodName := ⟨"java/lang/StringUTF16", "newBytesLength", "(I)I"⟩
abbrev own_m16 : MethodName := ⟨"java/lang/StringUTF16", "newBytesFor", "(I)[B"⟩
abbrev own_m17 : MethodName := ⟨"java/lang/StringUTF16", "toBytes", "([CII)[B"⟩
abbrev own_m18 : MethodName := ⟨"java/lang/StringUTF16", "compress", "([CII)[B"⟩
abbrev own_m19 : MethodName := ⟨"java/lang/StringUTF16", "coderFromArrayLen", "([BI)B"⟩
abbrev own_m20 : MethodName := ⟨"java/lang/Character", "isHighSurrogate", "(C)Z"⟩
abbrev own_m21 : MethodName := ⟨"java/lang/Character", "isLowSurrogate", "(C)Z"⟩
abbrev own_m22 : MethodName := ⟨"java/lang/Character", "isSurrogate", "(C)Z"⟩
abbrev own_m23 : MethodName := ⟨"com/example/countersign/countersign/scheme/Utf8HasFormPinLaw", "isH", "(C)Z"⟩
abbrev own_m24 : MethodName := ⟨"com/example/countersign/countersign/scheme/Utf8HasFormPinLaw", "isL", "(C)Z"⟩
abbrev own_m25 : MethodName := ⟨"com/example/countersign/countersign/scheme/Utf8", "hasForm", "(Ljava/lang/String;)Z"⟩
abbrev own_m26 : MethodName := ⟨"com/example/countersign/countersign/scheme/Utf8HasFormPinLaw", "okAt", "([CII)Z"⟩
abbrev own_m27 : MethodName := ⟨"com/example/countersign/countersign/scheme/Utf8HasFormPinLaw", "draw", "(I)C"⟩
abbrev own_m28 : MethodName := ⟨"com/example/countersign/countersign/scheme/Utf8HasFormPinLaw", "str", "([CI)Ljava/lang/String;"⟩
theorem own_wS {Z : State} {a0 : Array Value} (hw : ∀ d ∈ tables_1, d.before a0 Z = true) : ∀ a ∈ Bundle.stringAtoms, a.before a0 Z = true := by
  intro d hd
  simp only [Bundle.stringAtoms, Bundle.sN, List.mem_cons, List.not_mem_nil, or_false] at hd
  rcases hd with rfl | rfl | rfl | rfl | rfl | rfl | rfl
  · exact (wd hw 17 rfl)
  · exact (wd hw 16 rfl)
  · exact (wd hw 29 rfl)
  · exact (wd hw 30 rfl)
  · exact (wd hw 31 rfl)
  · exact (wd hw 32 rfl)
  · exact (wd hw 33 rfl)
theorem own_EW {Z : State} {a0 : Array Value} (hw : ∀ d ∈ tables_1, d.before a0 Z = true) : EW Z a0 consts_1 := (EW.cons (wd hw 28 rfl) (by decide) EW.nil)
theorem own_on {i : Nat} (h : i ≤ 4000) : (Int32.ofNat i).toInt = i := by
  exact Int32.toInt_ofNat_of_lt (by omega)
theorem own_onN {i : Nat} (h : i ≤ 4000) : (Int32.ofNat i).toNatClampNeg = i := by
  simp only [Int32.toNatClampNeg, own_on h]; rfl
theorem own_on0 {i : Nat} (h : i ≤ 4000) : ¬ (Int32.ofNat i) < (0 : Int32) := by
  rw [Int32.lt_iff_toInt_lt, own_on h]; show ¬ (i : Int) < 0; omega
theorem own_olt {i j : Nat} (h : i ≤ 4000) (q : j ≤ 4000) : Int32.ofNat i < Int32.ofNat j ↔ i < j := by
  rw [Int32.lt_iff_toInt_lt, own_on h, own_on q]; omega
theorem own_oeq {i j : Nat} (h : i ≤ 4000) (q : j ≤ 4000) : Int32.ofNat i = Int32.ofNat j ↔ i = j := by
  constructor
  · intro e; have := congrArg Int32.toInt e; rw [own_on h, own_on q] at this; omega
  · rintro rfl; rfl
theorem own_osub {i j : Nat} (h : i ≤ j) (q : j ≤ 4000) : Int32.ofNat j - Int32.ofNat i = Int32.ofNat (j - i) := by
  have k := c_isub (Int32.ofNat j) (Int32.ofNat i)
  rw [own_on q, own_on (Nat.le_trans h q)] at k
  have e := own_on (i := j - i) (by omega)
  have b1 := (Int32.ofNat j - Int32.ofNat i).le_toInt; have b2 := (Int32.ofNat j - Int32.ofNat i).toInt_lt
  exact Int32.toInt_inj.mp (by rw [e]; omega)
theorem own_oadd {i j : Nat} (q : i + j ≤ 4000) : Int32.ofNat i + Int32.ofNat j = Int32.ofNat (i + j) := by
  have k := c_iadd (Int32.ofNat i) (Int32.ofNat j)
  rw [own_on (i := i) (by omega), own_on (i := j) (by omega)] at k
  have e := own_on (i := i + j) (by omega)
  have b1 := (Int32.ofNat i + Int32.ofNat j).le_toInt; have b2 := (Int32.ofNat i + Int32.ofNat j).toInt_lt
  exact Int32.toInt_inj.mp (by rw [e]; omega)
theorem own_cpl (vs : List Value) (d : Value) (b k : Nat) (hk : b + k ≤ vs.length) : (List.replicate k d).take 0 ++ ((List.range k).map fun i => vs.getD (b + i) d) ++ (List.replicate k d).drop (0 + k) = (vs.drop b).take k := by
  have e : (List.replicate k d).drop (0 + k) = [] := by apply List.drop_eq_nil_of_le; simp
  rw [e, List.take_zero, List.nil_append, List.append_nil]
  apply List.ext_getElem
  · simp; omega
  · intro i h1 h2
    have : i < k := by simpa using h1
    simp [List.getD_eq_getElem?_getD, show b + i < vs.length by omega]

namespace StrChars
def lo8 (x : Int32) : Int32 := x.toInt8.toInt32
end StrChars
theorem own_nch {c : Int32} (h : ¬ c < 0 ∧ ¬ (255 : Int32) < c) : nar .char c = c := by
  obtain ⟨h1, h2⟩ := h
  have k := c_i2c c
  have z0 : (0 : Int32).toInt = 0 := rfl
  have z1 : (255 : Int32).toInt = 255 := rfl
  rw [Int32.lt_iff_toInt_lt] at h1 h2
  show c.toUInt32.toUInt16.toUInt32.toInt32 = c
  exact own_eqI (by omega)
theorem own_lo256 : ∀ n : Fin 256, (Int32.ofNat n.1).toInt8.toInt32 &&& 255 = Int32.ofNat n.1 := by decide +kernel
theorem own_lo255 {c : Int32} (h : ¬ c < 0 ∧ ¬ (255 : Int32) < c) : StrChars.lo8 c &&& 255 = c := by
  obtain ⟨h1, h2⟩ := h
  have z0 : (0 : Int32).toInt = 0 := rfl
  have z1 : (255 : Int32).toInt = 255 := rfl
  rw [Int32.lt_iff_toInt_lt] at h1 h2
  have e : c = Int32.ofNat c.toInt.toNat := Int32.toInt_inj.mp (by rw [own_on (by omega)]; omega)
  have q := own_lo256 ⟨c.toInt.toNat, by omega⟩
  rw [← e] at q
  exact q
theorem own_chb (cs : List Int32) (i : Nat) (h : i < cs.length) : ((cs.map StrChars.lo8).map Value.int).getD i (Value.int 0) = Value.int (StrChars.lo8 (cs.getD i 0)) := by
  simp [List.getD_eq_getElem?_getD, h]
theorem own_chm (cs : List Int32) (i : Nat) (h : i < cs.length) : cs.getD i 0 ∈ cs := by
  rw [List.getD_eq_getElem?_getD, List.getElem?_eq_getElem h]; exact List.getElem_mem h
def own_R (c : Int32) : Prop := ¬ c < 0 ∧ ¬ (65535 : Int32) < c
def own_l16 (c : Int32) : Int32 := nar .byte ((c >>> ((0 : Int32) &&& 31)).toInt8.toInt32)
def own_h16 (c : Int32) : Int32 := nar .byte ((c >>> ((8 : Int32) &&& 31)).toInt8.toInt32)
def own_b16 : List Int32 → List Value
  | [] => []
  | c :: r => .int (own_l16 c) :: .int (own_h16 c) :: own_b16 r
theorem own_b16e : ∀ (cs : List Int32) (i : Nat), i < cs.length → (own_b16 cs).getD (2 * i) (.int 0) = .int (own_l16 (cs.getD i 0)) ∧ (own_b16 cs).getD (2 * i + 1) (.int 0) = .int (own_h16 (cs.getD i 0))
  | [], i, h => absurd h (Nat.not_lt_zero _)
  | c :: r, 0, _ => ⟨rfl, rfl⟩
  | c :: r, i + 1, h => own_b16e r i (Nat.lt_of_succ_lt_succ h)
theorem own_on1 {i : Nat} (h : i + 1 ≤ 4000) : Int32.ofNat i + (1 : Int32) = Int32.ofNat (i + 1) := own_oadd (j := 1) h
theorem own_sh5 : ∀ n : Fin 5, Int32.ofNat n.1 <<< ((1 : Int32) &&& 31) = Int32.ofNat (2 * n.1) ∧ Int32.ofNat (2 * n.1) >>> ((1 : Int32) &&& 31) = Int32.ofNat n.1 := by decide +kernel
theorem own_sh {i : Nat} (h : i ≤ 4) : Int32.ofNat i <<< ((1 : Int32) &&& 31) = Int32.ofNat (2 * i) := (own_sh5 ⟨i, by omega⟩).1
theorem own_shr {i : Nat} (h : i ≤ 4) : Int32.ofNat (2 * i) >>> ((1 : Int32) &&& 31) = Int32.ofNat i := (own_sh5 ⟨i, by omega⟩).2
theorem own_ncR {c : Int32} (h : own_R c) : nar .char c = c := by
  obtain ⟨h1, h2⟩ := h
  have k := c_i2c c
  have z0 : (0 : Int32).toInt = 0 := rfl
  have z1 : (65535 : Int32).toInt = 65535 := rfl
  rw [Int32.lt_iff_toInt_lt] at h1 h2
  show c.toUInt32.toUInt16.toUInt32.toInt32 = c
  exact own_eqI (by omega)
theorem own_Rnc (x : Int32) : own_R (nar .char x) := by
  have k := c_i2c x
  have z0 : (0 : Int32).toInt = 0 := rfl
  have z1 : (65535 : Int32).toInt = 65535 := rfl
  show ¬ x.toUInt32.toUInt16.toUInt32.toInt32 < 0 ∧ ¬ (65535 : Int32) < x.toUInt32.toUInt16.toUInt32.toInt32
  constructor <;> rw [Int32.lt_iff_toInt_lt] <;> omega
theorem own_g16 {c : Int32} (h : own_R c) : nar .char ((((own_l16 c &&& 255) <<< ((0 : Int32) &&& 31)) ||| ((own_h16 c &&& 255) <<< ((8 : Int32) &&& 31))).toUInt32.toUInt16.toUInt32.toInt32) = c := by
  obtain ⟨h1, h2⟩ := h
  have z0 : (0 : Int32).toInt = 0 := rfl
  have z1 : (65535 : Int32).toInt = 65535 := rfl
  rw [Int32.lt_iff_toInt_lt] at h1 h2
  have p0 : ((2 ^ 0 : Nat) : Int) = 1 := rfl
  have p8 : ((2 ^ 8 : Nat) : Int) = 256 := rfl
  have a1 := c_ishr c 0 0 (by decide)
  have a2 := c_i2b (c >>> ((0 : Int32) &&& 31))
  have a3 : own_l16 c = (c >>> ((0 : Int32) &&& 31)).toInt8.toInt32 := own_bb _
  have a4 := c_mask (own_l16 c) 255 8 (by decide) (by decide)
  have a5 := c_ishl (own_l16 c &&& 255) 0 0 (by decide)
  have b1 := c_ishr c 8 8 (by decide)
  have b2 := c_i2b (c >>> ((8 : Int32) &&& 31))
  have b3 : own_h16 c = (c >>> ((8 : Int32) &&& 31)).toInt8.toInt32 := own_bb _
  have b4 := c_mask (own_h16 c) 255 8 (by decide) (by decide)
  have b5 := c_ishl (own_h16 c &&& 255) 8 8 (by decide)
  rw [← a3] at a2
  rw [← b3] at b2
  have lA := ((own_l16 c &&& 255) <<< ((0 : Int32) &&& 31)).le_toInt
  have uA := ((own_l16 c &&& 255) <<< ((0 : Int32) &&& 31)).toInt_lt
  have lB := ((own_h16 c &&& 255) <<< ((8 : Int32) &&& 31)).le_toInt
  have uB := ((own_h16 c &&& 255) <<< ((8 : Int32) &&& 31)).toInt_lt
  have eA : ((own_l16 c &&& 255) <<< ((0 : Int32) &&& 31)).toInt = c.toInt % 256 := by omega
  have eB : ((own_h16 c &&& 255) <<< ((8 : Int32) &&& 31)).toInt = (c.toInt / 256) * 256 := by omega
  have o1 := c_or' ((own_l16 c &&& 255) <<< ((0 : Int32) &&& 31)) ((own_h16 c &&& 255) <<< ((8 : Int32) &&& 31)) 8 (by decide) 256 rfl (by omega) (by omega) (by omega)
  generalize ((own_l16 c &&& 255) <<< ((0 : Int32) &&& 31)) ||| ((own_h16 c &&& 255) <<< ((8 : Int32) &&& 31)) = y at o1 ⊢
  have k1 := c_i2c y
  have k2 := c_i2c (y.toUInt32.toUInt16.toUInt32.toInt32)
  show (y.toUInt32.toUInt16.toUInt32.toInt32).toUInt32.toUInt16.toUInt32.toInt32 = c
  exact own_eqI (by omega)
/-- the String at x spells cs, in one of the two ways -/
def own_S (Z : State) (h : Heap) (x : Addr) (cs : List Int32) : Prop := ∃ (t : Addr) (kt : ClassId), Fld Z h x "java/lang/String" "value" "[B" (.ref t) ∧
  ((Fld Z h x "java/lang/String" "coder" "B" (.int (0 : Int32)) ∧ Arv Z h t kt .byte (Int32.ofNat cs.length) ((cs.map StrChars.lo8).map Value.int) (.int (0 : Int32)) ∧ ∀ c ∈ cs, ¬ c < 0 ∧ ¬ (255 : Int32) < c) ∨
   (Fld Z h x "java/lang/String" "coder" "B" (.int (1 : Int32)) ∧ Arv Z h t kt .byte (Int32.ofNat (2 * cs.length)) (own_b16 cs) (.int (0 : Int32)) ∧ ∀ c ∈ cs, own_R c))
theorem own_a0 {P : Int32 → Prop} : ∀ x ∈ ([] : List Int32), P x := fun _ q => nomatch q
theorem own_aS {P : Int32 → Prop} {y : Int32} {L : List Int32} (q : P y) (r : ∀ x ∈ L, P x) : ∀ x ∈ y :: L, P x := fun x z => (List.mem_cons.mp z).elim (fun u => u ▸ q) (r x)
def own_hi (c : Int32) : Int32 := if c < (55296 : Int32) then 0 else if c < (56320 : Int32) then 1 else 0
def own_lo (c : Int32) : Int32 := if c < (56320 : Int32) then 0 else if c < (57344 : Int32) then 1 else 0
def own_su (c : Int32) : Int32 := if c < (55296 : Int32) then 0 else if c < (57344 : Int32) then 1 else 0
def own_isH (c : Int32) : Int32 := if c < (55296 : Int32) then 0 else if (56319 : Int32) < c then 0 else 1
def own_isL (c : Int32) : Int32 := if c < (56320 : Int32) then 0 else if (57343 : Int32) < c then 0 else 1
theorem own_cls (c : Int32) : (own_isH c = 1 ∧ own_isL c = 0 ∧ own_hi c = 1 ∧ own_lo c = 0 ∧ own_su c = 1) ∨ (own_isH c = 0 ∧ own_isL c = 1 ∧ own_hi c = 0 ∧ own_lo c = 1 ∧ own_su c = 1) ∨ (own_isH c = 0 ∧ own_isL c = 0 ∧ own_hi c = 0 ∧ own_lo c = 0 ∧ own_su c = 0) := by
  have e1 : (55296 : Int32).toInt = 55296 := rfl
  have e2 : (56320 : Int32).toInt = 56320 := rfl
  have e3 : (57344 : Int32).toInt = 57344 := rfl
  have e4 : (56319 : Int32).toInt = 56319 := rfl
  have e5 : (57343 : Int32).toInt = 57343 := rfl
  by_cases h1 : c < (55296 : Int32) <;> by_cases h2 : c < (56320 : Int32) <;> by_cases h3 : c < (57344 : Int32) <;> by_cases h4 : (56319 : Int32) < c <;> by_cases h5 : (57343 : Int32) < c <;>
    first
    | (exfalso; rw [Int32.lt_iff_toInt_lt] at h1 h2 h3 h4 h5; omega)
    | (simp [own_isH, own_isL, own_hi, own_lo, own_su, h1, h2, h3, h4, h5])
theorem own_hs {c : Int32} (h : ¬ own_hi c = 0) : ¬ own_su c = 0 := by
  rcases own_cls c with ⟨_, _, h3, _, h5⟩ | ⟨_, _, h3, _, h5⟩ | ⟨_, _, h3, _, h5⟩
  · rw [h5]; decide
  · exact absurd h3 h
  · exact absurd h3 h
def own_f : List Int32 → Int32
  | [] => 1
  | [c] => if own_su c = 0 then 1 else 0
  | c :: d :: q => if own_hi c = 0 then (if own_su c = 0 then own_f (d :: q) else 0) else if own_lo d = 0 then (if own_su c = 0 then own_f (d :: q) else 0) else own_f q
theorem own_dr0 {cs : List Int32} {i : Nat} (h : i < cs.length) : cs.drop i = cs.getD i 0 :: cs.drop (i + 1) := by
  rw [List.drop_eq_getElem_cons h, List.getD_eq_getElem?_getD, List.getElem?_eq_getElem h]; rfl
theorem own_f1 {cs : List Int32} {i : Nat} (h : i < cs.length) (h1 : own_hi (cs.getD i 0) = 0) (h2 : own_su (cs.getD i 0) = 0) : own_f (cs.drop i) = own_f (cs.drop (i + 1)) := by
  rw [own_dr0 h]
  by_cases q : i + 1 < cs.length
  · rw [own_dr0 q]; simp only [own_f, h1, h2, if_true]
  · rw [List.drop_eq_nil_of_le (by omega : cs.length ≤ i + 1)]; simp only [own_f, h2, if_true]
theorem own_f2 {cs : List Int32} {i : Nat} (h : i < cs.length) (h2 : ¬ own_su (cs.getD i 0) = 0) (h3 : i + 1 < cs.length → own_hi (cs.getD i 0) = 0 ∨ own_lo (cs.getD (i + 1) 0) = 0) : own_f (cs.drop i) = 0 := by
  rw [own_dr0 h]
  by_cases q : i + 1 < cs.length
  · rw [own_dr0 q]
    simp only [own_f, if_neg h2]
    rcases h3 q with z | z
    · rw [if_pos z]
    · rw [if_pos z]; split <;> rfl
  · rw [List.drop_eq_nil_of_le (by omega : cs.length ≤ i + 1)]; simp only [own_f, if_neg h2]
theorem own_f3 {cs : List Int32} {i : Nat} (q : i + 1 < cs.length) (h1 : ¬ own_hi (cs.getD i 0) = 0) (h2 : ¬ own_lo (cs.getD (i + 1) 0) = 0) : own_f (cs.drop i) = own_f (cs.drop (i + 2)) := by
  rw [own_dr0 (by omega : i < cs.length), own_dr0 q]; simp only [own_f, if_neg h1, if_neg h2]

theorem own_sh0 (x : Int32) : x >>> ((0 : Int32) &&& 31) = x := by
  show x >>> (0 : Int32) = x
  simp
theorem d9_0 : decode jdk_42_method_152_code 0 = .ok (.getstatic 38, 3) := by decide +kernel
theorem d9_3 : decode jdk_42_method_152_code 3 = .ok (.ifCond .eq 10, 3) := by decide +kernel
theorem d9_6 : decode jdk_42_method_152_code 6 = .ok (.aload_n 0, 1) := by decide +kernel
theorem d9_7 : decode jdk_42_method_152_code 7 = .ok (.getfield 15, 3) := by decide +kernel
theorem d9_10 : decode jdk_42_method_152_code 10 = .ok (.goto 4, 3) := by decide +kernel
theorem d9_14 : decode jdk_42_method_152_code 14 = .ok (.ireturn, 1) := by decide +kernel
theorem pn_0 : plainName "java/lang/String" = true := by first | (simp [plainName, overriddenIn]; done) | decide +kernel
theorem ef_cod0 (m : MethodId) (x0 : Addr) : entryFrame m #[(.ref x0)] 1 = mkF m 0 #[rv x0] [] := by first | (simp [entryFrame, mkF, argsToLocals, Value.category]; done) | rfl
def Q_cod0 (Z : State) (x : Addr) (cz : Int32) (h0 : Heap) (n0 : Nat) (v : Option Value) (h : Heap) (L : List Loc) : Prop := (v = some (.int (0 : Int32))) ∧ (Fr n0 L) ∧ (h = h0)
set_option maxRecDepth 65536 in
set_option maxHeartbeats 40000000 in
theorem rm_cod0 (l : Launch) (Z : State) (a0 : Array Value) (hw : ∀ d ∈ tables_1, d.before a0 Z = true) (ws : List Jvm.Cond) (x : Addr) (cz : Int32) (h0 : Heap) (n0 : Nat) (O0 : Old Z n0 h0) (E_x : Exa Z h0 x "java/lang/String") (C_x : Fld Z h0 x "java/lang/String" "coder" "B" (.int (0 : Int32))) (SC : Sta Z Z.heap "java/lang/String" "COMPACT_STRINGS" "Z" (.int cz)) (hcz : ¬ cz = (0 : Int32)) :
    own_MF l own_m0 (Jvm.Cond.code own_m0 jdk_42_method_152_code 1 (some .byte) :: ws) ({ frames := 0, cells := 0, slots := 0, locals := 0 } : Room) #[(.ref x)] Z h0 (Q_cod0 Z x cz h0 n0) := by
  refine own_met (own := "java/lang/String") (nme := "coder") rfl rfl (plainFor_of_name pn_0) ?_
  intro p e s m below meth c s₁ hx hby hml hown hnm X0 e0 hret hlk hZ
  have N0 := Fr.nil n0
  rw [ef_cod0 m x]
  obtain ⟨T1, X1, e1, st1⟩ := getS2 X0 hx hZ hown (host := "") (Or.inl (wd hw 50 rfl)) Via.refl e0 (SC.ext O0.2) (g := (mkF m 0 #[rv x] [])) rfl (hb hby d9_0)
  refine own_st (T' := T1) (g' := (mkF m 3 #[rv x] [(.int cz)])) st1 ?_
  clear st1
  refine own_st (T' := T1) (g' := (mkF m 6 #[rv x] [])) (fun _ k_ => XS.ifNo X1.here hx rfl (hb hby d9_3) rfl ((if0 _ _).trans (feq (hcz : ¬ (cz = (0 : Int32)))).1) k_) ?_
  refine own_st (T' := T1) (g' := (mkF m 7 #[rv x] [(.ref x)])) (fun _ k_ => XS.aloadN X1.here hx rfl (hb hby d9_6) rfl rfl  k_) ?_
  obtain ⟨T2, X2, e2, st2⟩ := getF X1 hx hZ hown (host := "") (Or.inl (wd hw 35 rfl)) Via.refl e1 C_x (g := (mkF m 7 #[rv x] [(.ref x)])) rfl rfl (hb hby d9_7)
  refine own_st (T' := T2) (g' := (mkF m 10 #[rv x] [(.int (0 : Int32))])) st2 ?_
  clear st2
  refine own_st (T' := T2) (g' := (mkF m 14 #[rv x] [(.int (0 : Int32))])) (fun _ k_ => XS.goto X2.here hx rfl (pc0 := 10) (pc' := 14) rfl (hb hby d9_10) (by decide) (by decide) k_) ?_
  exact own_retN X2 hx (t := .byte) hret (by simp) hlk (hb hby d9_14) (by decide) (by decide) ⟨rfl, N0, e2⟩
theorem d16_0 : decode jdk_42_method_154_code 0 = .ok (.getstatic 38, 3) := by decide +kernel
theorem d16_3 : decode jdk_42_method_154_code 3 = .ok (.ifCond .eq 14, 3) := by decide +kernel
theorem d16_6 : decode jdk_42_method_154_code 6 = .ok (.aload_n 0, 1) := by decide +kernel
theorem d16_7 : decode jdk_42_method_154_code 7 = .ok (.getfield 15, 3) := by decide +kernel
theorem d16_10 : decode jdk_42_method_154_code 10 = .ok (.ifCond .ne 7, 3) := by decide +kernel
theorem d16_13 : decode jdk_42_method_154_code 13 = .ok (.iconst 1, 1) := by decide +kernel
theorem d16_14 : decode jdk_42_method_154_code 14 = .ok (.goto 4, 3) := by decide +kernel
theorem d16_18 : decode jdk_42_method_154_code 18 = .ok (.ireturn, 1) := by decide +kernel
theorem ef_isl0 (m : MethodId) (x0 : Addr) : entryFrame m #[(.ref x0)] 1 = mkF m 0 #[rv x0] [] := by first | (simp [entryFrame, mkF, argsToLocals, Value.category]; done) | rfl
def Q_isl0 (Z : State) (x : Addr) (cz : Int32) (h0 : Heap) (n0 : Nat) (v : Option Value) (h : Heap) (L : List Loc) : Prop := (v = some (.int (1 : Int32))) ∧ (Fr n0 L) ∧ (h = h0)
set_option maxRecDepth 65536 in
set_option maxHeartbeats 40000000 in
theorem rm_isl0 (l : Launch) (Z : State) (a0 : Array Value) (hw : ∀ d ∈ tables_1, d.before a0 Z = true) (ws : List Jvm.Cond) (x : Addr) (cz : Int32) (h0 : Heap) (n0 : Nat) (O0 : Old Z n0 h0) (E_x : Exa Z h0 x "java/lang/String") (C_x : Fld Z h0 x "java/lang/String" "coder" "B" (.int (0 : Int32))) (SC : Sta Z Z.heap "java/lang/String" "COMPACT_STRINGS" "Z" (.int cz)) (hcz : ¬ cz = (0 : Int32)) :
    own_MF l own_m1 (Jvm.Cond.code own_m1 jdk_42_method_154_code 1 (some .boolean) :: ws) ({ frames := 0, cells := 0, slots := 0, locals := 0 } : Room) #[(.ref x)] Z h0 (Q_isl0 Z x cz h0 n0) := by
  refine own_met (own := "java/lang/String") (nme := "isLatin1") rfl rfl (plainFor_of_name pn_0) ?_
  intro p e s m below meth c s₁ hx hby hml hown hnm X0 e0 hret hlk hZ
  have N0 := Fr.nil n0
  rw [ef_isl0 m x]
  obtain ⟨T1, X1, e1, st1⟩ := getS2 X0 hx hZ hown (host := "") (Or.inl (wd hw 50 rfl)) Via.refl e0 (SC.ext O0.2) (g := (mkF m 0 #[rv x] [])) rfl (hb hby d16_0)
  refine own_st (T' := T1) (g' := (mkF m 3 #[rv x] [(.int cz)])) st1 ?_
  clear st1
  refine own_st (T' := T1) (g' := (mkF m 6 #[rv x] [])) (fun _ k_ => XS.ifNo X1.here hx rfl (hb hby d16_3) rfl ((if0 _ _).trans (feq (hcz : ¬ (cz = (0 : Int32)))).1) k_) ?_
  refine own_st (T' := T1) (g' := (mkF m 7 #[rv x] [(.ref x)])) (fun _ k_ => XS.aloadN X1.here hx rfl (hb hby d16_6) rfl rfl  k_) ?_
  obtain ⟨T2, X2, e2, st2⟩ := getF X1 hx hZ hown (host := "") (Or.inl (wd hw 35 rfl)) Via.refl e1 C_x (g := (mkF m 7 #[rv x] [(.ref x)])) rfl rfl (hb hby d16_7)
  refine own_st (T' := T2) (g' := (mkF m 10 #[rv x] [(.int (0 : Int32))])) st2 ?_
  clear st2
  refine own_st (T' := T2) (g' := (mkF m 13 #[rv x] [])) (fun _ k_ => XS.ifNo X2.here hx rfl (hb hby d16_10) rfl ((if0 _ _).trans (teq (rfl : (0 : Int32) = (0 : Int32))).2) k_) ?_
  refine own_st (T' := T2) (g' := (mkF m 14 #[rv x] [(.int (1 : Int32))])) (fun _ k_ => XS.iconst X2.here hx rfl (hb hby d16_13) k_) ?_
  refine own_st (T' := T2) (g' := (mkF m 18 #[rv x] [(.int (1 : Int32))])) (fun _ k_ => XS.goto X2.here hx rfl (pc0 := 14) (pc' := 18) rfl (hb hby d16_14) (by decide) (by decide) k_) ?_
  exact own_retN X2 hx (t := .boolean) hret (by simp) hlk (hb hby d16_18) (by decide) (by decide) ⟨rfl, N0, e2⟩
theorem ef_cod1 (m : MethodId) (x0 : Addr) : entryFrame m #[(.ref x0)] 1 = mkF m 0 #[rv x0] [] := by first | (simp [entryFrame, mkF, argsToLocals, Value.category]; done) | rfl
def Q_cod1 (Z : State) (x : Addr) (cz : Int32) (h0 : Heap) (n0 : Nat) (v : Option Value) (h : Heap) (L : List Loc) : Prop := (v = some (.int (1 : Int32))) ∧ (Fr n0 L) ∧ (h = h0)
set_option maxRecDepth 65536 in
set_option maxHeartbeats 40000000 in
theorem rm_cod1 (l : Launch) (Z : State) (a0 : Array Value) (hw : ∀ d ∈ tables_1, d.before a0 Z = true) (ws : List Jvm.Cond) (x : Addr) (cz : Int32) (h0 : Heap) (n0 : Nat) (O0 : Old Z n0 h0) (E_x : Exa Z h0 x "java/lang/String") (C_x : Fld Z h0 x "java/lang/String" "coder" "B" (.int (1 : Int32))) (SC : Sta Z Z.heap "java/lang/String" "COMPACT_STRINGS" "Z" (.int cz)) (hcz : ¬ cz = (0 : Int32)) :
    own_MF l own_m0 (Jvm.Cond.code own_m0 jdk_42_method_152_code 1 (some .byte) :: ws) ({ frames := 0, cells := 0, slots := 0, locals := 0 } : Room) #[(.ref x)] Z h0 (Q_cod1 Z x cz h0 n0) := by
  refine own_met (own := "java/lang/String") (nme := "coder") rfl rfl (plainFor_of_name pn_0) ?_
  intro p e s m below meth c s₁ hx hby hml hown hnm X0 e0 hret hlk hZ
  have N0 := Fr.nil n0
  rw [ef_cod1 m x]
  obtain ⟨T1, X1, e1, st1⟩ := getS2 X0 hx hZ hown (host := "") (Or.inl (wd hw 50 rfl)) Via.refl e0 (SC.ext O0.2) (g := (mkF m 0 #[rv x] [])) rfl (hb hby d9_0)
  refine own_st (T' := T1) (g' := (mkF m 3 #[rv x] [(.int cz)])) st1 ?_
  clear st1
  refine own_st (T' := T1) (g' := (mkF m 6 #[rv x] [])) (fun _ k_ => XS.ifNo X1.here hx rfl (hb hby d9_3) rfl ((if0 _ _).trans (feq (hcz : ¬ (cz = (0 : Int32)))).1) k_) ?_
  refine own_st (T' := T1) (g' := (mkF m 7 #[rv x] [(.ref x)])) (fun _ k_ => XS.aloadN X1.here hx rfl (hb hby d9_6) rfl rfl  k_) ?_
  obtain ⟨T2, X2, e2, st2⟩ := getF X1 hx hZ hown (host := "") (Or.inl (wd hw 35 rfl)) Via.refl e1 C_x (g := (mkF m 7 #[rv x] [(.ref x)])) rfl rfl (hb hby d9_7)
  refine own_st (T' := T2) (g' := (mkF m 10 #[rv x] [(.int (1 : Int32))])) st2 ?_
  clear st2
  refine own_st (T' := T2) (g' := (mkF m 14 #[rv x] [(.int (1 : Int32))])) (fun _ k_ => XS.goto X2.here hx rfl (pc0 := 10) (pc' := 14) rfl (hb hby d9_10) (by decide) (by decide) k_) ?_
  exact own_retN X2 hx (t := .byte) hret (by simp) hlk (hb hby d9_14) (by decide) (by decide) ⟨rfl, N0, e2⟩
theorem d16_17 : decode jdk_42_method_154_code 17 = .ok (.iconst 0, 1) := by decide +kernel
theorem ef_isl1 (m : MethodId) (x0 : Addr) : entryFrame m #[(.ref x0)] 1 = mkF m 0 #[rv x0] [] := by first | (simp [entryFrame, mkF, argsToLocals, Value.category]; done) | rfl
def Q_isl1 (Z : State) (x : Addr) (cz : Int32) (h0 : Heap) (n0 : Nat) (v : Option Value) (h : Heap) (L : List Loc) : Prop := (v = some (.int (0 : Int32))) ∧ (Fr n0 L) ∧ (h = h0)
set_option maxRecDepth 65536 in
set_option maxHeartbeats 40000000 in
theorem rm_isl1 (l : Launch) (Z : State) (a0 : Array Value) (hw : ∀ d ∈ tables_1, d.before a0 Z = true) (ws : List Jvm.Cond) (x : Addr) (cz : Int32) (h0 : Heap) (n0 : Nat) (O0 : Old Z n0 h0) (E_x : Exa Z h0 x "java/lang/String") (C_x : Fld Z h0 x "java/lang/String" "coder" "B" (.int (1 : Int32))) (SC : Sta Z Z.heap "java/lang/String" "COMPACT_STRINGS" "Z" (.int cz)) (hcz : ¬ cz = (0 : Int32)) :
    own_MF l own_m1 (Jvm.Cond.code own_m1 jdk_42_method_154_code 1 (some .boolean) :: ws) ({ frames := 0, cells := 0, slots := 0, locals := 0 } : Room) #[(.ref x)] Z h0 (Q_isl1 Z x cz h0 n0) := by
  refine own_met (own := "java/lang/String") (nme := "isLatin1") rfl rfl (plainFor_of_name pn_0) ?_
  intro p e s m below meth c s₁ hx hby hml hown hnm X0 e0 hret hlk hZ
  have N0 := Fr.nil n0
  rw [ef_isl1 m x]
  obtain ⟨T1, X1, e1, st1⟩ := getS2 X0 hx hZ hown (host := "") (Or.inl (wd hw 50 rfl)) Via.refl e0 (SC.ext O0.2) (g := (mkF m 0 #[rv x] [])) rfl (hb hby d16_0)
  refine own_st (T' := T1) (g' := (mkF m 3 #[rv x] [(.int cz)])) st1 ?_
  clear st1
  refine own_st (T' := T1) (g' := (mkF m 6 #[rv x] [])) (fun _ k_ => XS.ifNo X1.here hx rfl (hb hby d16_3) rfl ((if0 _ _).trans (feq (hcz : ¬ (cz = (0 : Int32)))).1) k_) ?_
  refine own_st (T' := T1) (g' := (mkF m 7 #[rv x] [(.ref x)])) (fun _ k_ => XS.aloadN X1.here hx rfl (hb hby d16_6) rfl rfl  k_) ?_
  obtain ⟨T2, X2, e2, st2⟩ := getF X1 hx hZ hown (host := "") (Or.inl (wd hw 35 rfl)) Via.refl e1 C_x (g := (mkF m 7 #[rv x] [(.ref x)])) rfl rfl (hb hby d16_7)
  refine own_st (T' := T2) (g' := (mkF m 10 #[rv x] [(.int (1 : Int32))])) st2 ?_
  clear st2
  refine own_st (T' := T2) (g' := (mkF m 17 #[rv x] [])) (fun _ k_ => XS.ifYes X2.here hx rfl (pc0 := 10) (pc' := 17) rfl (hb hby d16_10) rfl ((if0 _ _).trans (feq (by decide : ¬ ((1 : Int32) = (0 : Int32)))).2) (by decide) (by decide) k_) ?_
  refine own_st (T' := T2) (g' := (mkF m 18 #[rv x] [(.int (0 : Int32))])) (fun _ k_ => XS.iconst X2.here hx rfl (hb hby d16_17) k_) ?_
  exact own_retN X2 hx (t := .boolean) hret (by simp) hlk (hb hby d16_18) (by decide) (by decide) ⟨rfl, N0, e2⟩
theorem d8_0 : decode jdk_42_method_54_code 0 = .ok (.aload_n 0, 1) := by decide +kernel
theorem d8_1 : decode jdk_42_method_54_code 1 = .ok (.getfield 9, 3) := by decide +kernel
theorem d8_4 : decode jdk_42_method_54_code 4 = .ok (.arraylength, 1) := by decide +kernel
theorem d8_5 : decode jdk_42_method_54_code 5 = .ok (.aload_n 0, 1) := by decide +kernel
theorem d8_6 : decode jdk_42_method_54_code 6 = .ok (.invokevirtual 335, 3) := by decide +kernel
theorem d8_9 : decode jdk_42_method_54_code 9 = .ok (.ishr, 1) := by decide +kernel
theorem d8_10 : decode jdk_42_method_54_code 10 = .ok (.ireturn, 1) := by decide +kernel
theorem pd___B : parseMethodDescriptor "()B" = some ⟨[], some .byte⟩ := by decide +kernel
theorem ef_slen (m : MethodId) (x0 : Addr) : entryFrame m #[(.ref x0)] 1 = mkF m 0 #[rv x0] [] := by first | (simp [entryFrame, mkF, argsToLocals, Value.category]; done) | rfl
def Q_slen (Z : State) (x : Addr) (cs : List Int32) (cz : Int32) (h0 : Heap) (n0 : Nat) (v : Option Value) (h : Heap) (L : List Loc) : Prop := (v = some (.int (Int32.ofNat cs.length))) ∧ (Fr n0 L) ∧ (h = h0)
set_option maxRecDepth 65536 in
set_option maxHeartbeats 40000000 in
theorem rm_slen (l : Launch) (Z : State) (a0 : Array Value) (hw : ∀ d ∈ tables_1, d.before a0 Z = true) (ws : List Jvm.Cond) (x : Addr) (cs : List Int32) (cz : Int32) (h0 : Heap) (n0 : Nat) (O0 : Old Z n0 h0) (E_x : Exa Z h0 x "java/lang/String") (S : own_S Z h0 x cs) (lcs : cs.length ≤ 4) (SC : Sta Z Z.heap "java/lang/String" "COMPACT_STRINGS" "Z" (.int cz)) (hcz : ¬ cz = (0 : Int32)) :
    own_MF l own_m2 (Jvm.Cond.code own_m2 jdk_42_method_54_code 1 (some .int) :: ws) ({ frames := 1, cells := 0, slots := 0, locals := 13 } : Room) #[(.ref x)] Z h0 (Q_slen Z x cs cz h0 n0) := by
  refine own_met (own := "java/lang/String") (nme := "length") rfl rfl (plainFor_of_name pn_0) ?_
  intro p e s m below meth c s₁ hx hby hml hown hnm X0 e0 hret hlk hZ
  have N0 := Fr.nil n0
  rw [ef_slen m x]
  obtain ⟨t, kt, FV, ⟨FC, VT, hp⟩ | ⟨FC, VT, hp⟩⟩ := S
  · refine own_st (T' := s₁) (g' := (mkF m 1 #[rv x] [(.ref x)])) (fun _ k_ => XS.aloadN X0.here hx rfl (hb hby d8_0) rfl rfl  k_) ?_
    obtain ⟨T1, X1, e1, st1⟩ := getF X0 hx hZ hown (host := "") (Or.inl (wd hw 34 rfl)) Via.refl e0 FV (g := (mkF m 1 #[rv x] [(.ref x)])) rfl rfl (hb hby d8_1)
    refine own_st (T' := T1) (g' := (mkF m 4 #[rv x] [(.ref t)])) st1 ?_
    clear st1
    obtain ⟨cl2, Ar2, -, S2, N2, -, -⟩ := id VT
    refine own_st (T' := T1) (g' := (mkF m 5 #[rv x] [(.int (Int32.ofNat cs.length))])) (fun t_ k_ => X1.arraylength hx (by rw [e1]; exact Ar2.1) (State.isArrayOf_alike hZ.alike Ar2.2.1) (g := (mkF m 4 #[rv x] [(.ref t)])) rfl rfl (hb hby d8_4) _ (by rw [len_of S2 N2]; exact k_)) ?_
    refine own_st (T' := T1) (g' := (mkF m 6 #[rv x] [(.ref x), (.int (Int32.ofNat cs.length))])) (fun _ k_ => XS.aloadN X1.here hx rfl (hb hby d8_5) rfl rfl  k_) ?_
    obtain ⟨cq3, kq3, q3a, q3b, q3c⟩ := isOf hZ e1 E_x
    obtain ⟨_, T3, L3, X3, hQ3, st3⟩ := own_callV X1 hx (y := own_m0) (z := own_m0) hown (mvT hZ (wd hw 45 rfl)) (mvT hZ (wd hw 46 rfl)) (notFace_of_selects (args := #[]) (mvT hZ (wd hw 48 rfl))) (mvT hZ (wd hw 48 rfl)) (mvT hZ (wd hw 47 rfl)) (by decide) (backOf (W := 1) (rm_cod0 l Z a0 hw [] x cz h0 n0 O0 E_x FC SC hcz) hZ (wd hw 49 rfl) (wd hw 17 rfl) (by decide) (by decide)) q3a q3c (g := (mkF m 6 #[rv x] [(.ref x), (.int (Int32.ofNat cs.length))])) rfl (by rw [hml]; rfl) (argsL := []) (rest := [(.int (Int32.ofNat cs.length))]) (lenOf pd___B rfl) rfl (by show 2 * 0 + _ ≤ _; exact Nat.le_of_eq rfl) (hb hby d8_6) rfl e1 (by decide) (by decide) (c' := 0) (s' := 0) rfl rfl
    clear q3a q3b q3c kq3 cq3
    obtain ⟨rfl, Nq3, eq3⟩ := hQ3
    have N3 := Fr.app N0 Nq3
    refine own_st (T' := T3) (g' := (mkF m 9 #[rv x] [(.int (0 : Int32)), (.int (Int32.ofNat cs.length))])) st3 ?_
    clear st3
    refine own_st (T' := T3) (g' := (mkF m 10 #[rv x] [(.int ((Int32.ofNat cs.length) >>> ((0 : Int32) &&& 31)))])) (fun _ k_ => XS.ishr X3.here hx rfl (hb hby d8_9) rfl k_) ?_
    exact own_retI X3 hx hret hlk (hb hby d8_10) (by decide) (by decide) ⟨congrArg (fun z => some (Value.int z)) (own_sh0 _), N3, eq3⟩
  · refine own_st (T' := s₁) (g' := (mkF m 1 #[rv x] [(.ref x)])) (fun _ k_ => XS.aloadN X0.here hx rfl (hb hby d8_0) rfl rfl  k_) ?_
    obtain ⟨T4, X4, e4, st4⟩ := getF X0 hx hZ hown (host := "") (Or.inl (wd hw 34 rfl)) Via.refl e0 FV (g := (mkF m 1 #[rv x] [(.ref x)])) rfl rfl (hb hby d8_1)
    refine own_st (T' := T4) (g' := (mkF m 4 #[rv x] [(.ref t)])) st4 ?_
    clear st4
    obtain ⟨cl5, Ar5, -, S5, N5, -, -⟩ := id VT
    refine own_st (T' := T4) (g' := (mkF m 5 #[rv x] [(.int (Int32.ofNat (2 * cs.length)))])) (fun t_ k_ => X4.arraylength hx (by rw [e4]; exact Ar5.1) (State.isArrayOf_alike hZ.alike Ar5.2.1) (g := (mkF m 4 #[rv x] [(.ref t)])) rfl rfl (hb hby d8_4) _ (by rw [len_of S5 N5]; exact k_)) ?_
    refine own_st (T' := T4) (g' := (mkF m 6 #[rv x] [(.ref x), (.int (Int32.ofNat (2 * cs.length)))])) (fun _ k_ => XS.aloadN X4.here hx rfl (hb hby d8_5) rfl rfl  k_) ?_
    obtain ⟨cq6, kq6, q6a, q6b, q6c⟩ := isOf hZ e4 E_x
    obtain ⟨_, T6, L6, X6, hQ6, st6⟩ := own_callV X4 hx (y := own_m0) (z := own_m0) hown (mvT hZ (wd hw 45 rfl)) (mvT hZ (wd hw 46 rfl)) (notFace_of_selects (args := #[]) (mvT hZ (wd hw 48 rfl))) (mvT hZ (wd hw 48 rfl)) (mvT hZ (wd hw 47 rfl)) (by decide) (backOf (W := 1) (rm_cod1 l Z a0 hw [] x cz h0 n0 O0 E_x FC SC hcz) hZ (wd hw 49 rfl) (wd hw 17 rfl) (by decide) (by decide)) q6a q6c (g := (mkF m 6 #[rv x] [(.ref x), (.int (Int32.ofNat (2 * cs.length)))])) rfl (by rw [hml]; rfl) (argsL := []) (rest := [(.int (Int32.ofNat (2 * cs.length)))]) (lenOf pd___B rfl) rfl (by show 2 * 0 + _ ≤ _; exact Nat.le_of_eq rfl) (hb hby d8_6) rfl e4 (by decide) (by decide) (c' := 0) (s' := 0) rfl rfl
    clear q6a q6b q6c kq6 cq6
    obtain ⟨rfl, Nq6, eq6⟩ := hQ6
    have N6 := Fr.app N0 Nq6
    refine own_st (T' := T6) (g' := (mkF m 9 #[rv x] [(.int (1 : Int32)), (.int (Int32.ofNat (2 * cs.length)))])) st6 ?_
    clear st6
    refine own_st (T' := T6) (g' := (mkF m 10 #[rv x] [(.int ((Int32.ofNat (2 * cs.length)) >>> ((1 : Int32) &&& 31)))])) (fun _ k_ => XS.ishr X6.here hx rfl (hb hby d8_9) rfl k_) ?_
    exact own_retI X6 hx hret hlk (hb hby d8_10) (by decide) (by decide) ⟨congrArg (fun z => some (Value.int z)) (own_shr lcs), N6, eq6⟩
theorem d19_0 : decode jdk_41_method_11_code 0 = .ok (.iload_n 0, 1) := by decide +kernel
theorem d19_1 : decode jdk_41_method_11_code 1 = .ok (.ifCond .lt 8, 3) := by decide +kernel
theorem d19_4 : decode jdk_41_method_11_code 4 = .ok (.iload_n 0, 1) := by decide +kernel
theorem d19_5 : decode jdk_41_method_11_code 5 = .ok (.iload_n 1, 1) := by decide +kernel
theorem d19_6 : decode jdk_41_method_11_code 6 = .ok (.if_icmp .lt 10, 3) := by decide +kernel
theorem d19_16 : decode jdk_41_method_11_code 16 = .ok (.iload_n 0, 1) := by decide +kernel
theorem d19_17 : decode jdk_41_method_11_code 17 = .ok (.ireturn, 1) := by decide +kernel
theorem pn_1 : plainName "jdk/internal/util/Preconditions" = true := by first | (simp [plainName, overriddenIn]; done) | decide +kernel
theorem ef_cki (m : MethodId) (x0 : Int32) (x1 : Int32) (x2 : Value) (hx2 : x2.isRef = true) : entryFrame m #[(.int x0), (.int x1), x2] 3 = mkF m 0 #[iv x0, iv x1, .val x2] [] := by
  rcases ref_cases hx2 with rfl | ⟨_, rfl⟩ <;> (first | (simp [entryFrame, mkF, argsToLocals, Value.category]; done) | rfl)
def Q_cki (Z : State) (fb : Int32) (fe : Int32) (fm : Value) (h0 : Heap) (n0 : Nat) (v : Option Value) (h : Heap) (L : List Loc) : Prop := (v = some (.int fb)) ∧ (Fr n0 L) ∧ (h = h0)
set_option maxRecDepth 65536 in
set_option maxHeartbeats 40000000 in
theorem rm_cki (l : Launch) (Z : State) (a0 : Array Value) (hw : ∀ d ∈ tables_1, d.before a0 Z = true) (ws : List Jvm.Cond) (fb : Int32) (fe : Int32) (fm : Value) (h0 : Heap) (n0 : Nat) (O0 : Old Z n0 h0) (hk0 : ¬ fb < (0 : Int32)) (hk1 : fb < fe) (hfm : fm.isRef = true) :
    own_MF l own_m3 (Jvm.Cond.code own_m3 jdk_41_method_11_code 3 (some .int) :: ws) ({ frames := 0, cells := 0, slots := 0, locals := 0 } : Room) #[(.int fb), (.int fe), fm] Z h0 (Q_cki Z fb fe fm h0 n0) := by
  refine own_met (own := "jdk/internal/util/Preconditions") (nme := "checkIndex") rfl rfl (plainFor_of_name pn_1) ?_
  intro p e s m below meth c s₁ hx hby hml hown hnm X0 e0 hret hlk hZ
  have N0 := Fr.nil n0
  rw [ef_cki m fb fe fm hfm]
  refine own_st (T' := s₁) (g' := (mkF m 1 #[iv fb, iv fe, .val fm] [(.int fb)])) (fun _ k_ => XS.iloadN X0.here hx rfl (hb hby d19_0) rfl  k_) ?_
  refine own_st (T' := s₁) (g' := (mkF m 4 #[iv fb, iv fe, .val fm] [])) (fun _ k_ => XS.ifNo X0.here hx rfl (hb hby d19_1) rfl ((if0 _ _).trans (flt (hk0 : ¬ (fb < (0 : Int32)))).1) k_) ?_
  refine own_st (T' := s₁) (g' := (mkF m 5 #[iv fb, iv fe, .val fm] [(.int fb)])) (fun _ k_ => XS.iloadN X0.here hx rfl (hb hby d19_4) rfl  k_) ?_
  refine own_st (T' := s₁) (g' := (mkF m 6 #[iv fb, iv fe, .val fm] [(.int fe), (.int fb)])) (fun _ k_ => XS.iloadN X0.here hx rfl (hb hby d19_5) rfl  k_) ?_
  refine own_st (T' := s₁) (g' := (mkF m 16 #[iv fb, iv fe, .val fm] [])) (fun _ k_ => XS.icmpYes X0.here hx rfl (pc0 := 6) (pc' := 16) rfl (hb hby d19_6) rfl (tlt (hk1 : fb < fe)).1 (by decide) (by decide) k_) ?_
  refine own_st (T' := s₁) (g' := (mkF m 17 #[iv fb, iv fe, .val fm] [(.int fb)])) (fun _ k_ => XS.iloadN X0.here hx rfl (hb hby d19_16) rfl  k_) ?_
  exact own_retI X0 hx hret hlk (hb hby d19_17) (by decide) (by decide) ⟨rfl, N0, e0⟩
theorem d18_0 : decode jdk_42_method_155_code 0 = .ok (.iload_n 0, 1) := by decide +kernel
theorem d18_1 : decode jdk_42_method_155_code 1 = .ok (.iload_n 1, 1) := by decide +kernel
theorem d18_2 : decode jdk_42_method_155_code 2 = .ok (.getstatic 1053, 3) := by decide +kernel
theorem d18_5 : decode jdk_42_method_155_code 5 = .ok (.invokestatic 1059, 3) := by decide +kernel
theorem d18_8 : decode jdk_42_method_155_code 8 = .ok (.pop, 1) := by decide +kernel
theorem d18_9 : decode jdk_42_method_155_code 9 = .ok (.return_, 1) := by decide +kernel
theorem pd__IILjava_util_function_BiFunction__I : parseMethodDescriptor "(IILjava/util/function/BiFunction;)I" = some ⟨[.int, .int, (.object "java/util/function/BiFunction")], some .int⟩ := by decide +kernel
theorem ef_scki (m : MethodId) (x0 : Int32) (x1 : Int32) : entryFrame m #[(.int x0), (.int x1)] 2 = mkF m 0 #[iv x0, iv x1] [] := by first | (simp [entryFrame, mkF, argsToLocals, Value.category]; done) | rfl
def Q_scki (Z : State) (fb : Int32) (fe : Int32) (fm : Value) (h0 : Heap) (n0 : Nat) (v : Option Value) (h : Heap) (L : List Loc) : Prop := (v = none) ∧ (Fr n0 L) ∧ (h = h0)
set_option maxRecDepth 65536 in
set_option maxHeartbeats 40000000 in
theorem rm_scki (l : Launch) (Z : State) (a0 : Array Value) (hw : ∀ d ∈ tables_1, d.before a0 Z = true) (ws : List Jvm.Cond) (fb : Int32) (fe : Int32) (fm : Value) (h0 : Heap) (n0 : Nat) (O0 : Old Z n0 h0) (hk0 : ¬ fb < (0 : Int32)) (hk1 : fb < fe) (SF : Sta Z Z.heap "jdk/internal/util/Preconditions" "SIOOBE_FORMATTER" "Ljava/util/function/BiFunction;" fm) (hfm : fm.isRef = true) :
    own_MF l own_m4 (Jvm.Cond.code own_m4 jdk_42_method_155_code 2 none :: ws) ({ frames := 1, cells := 0, slots := 0, locals := 14 } : Room) #[(.int fb), (.int fe)] Z h0 (Q_scki Z fb fe fm h0 n0) := by
  refine own_met (own := "java/lang/String") (nme := "checkIndex") rfl rfl (plainFor_of_name pn_0) ?_
  intro p e s m below meth c s₁ hx hby hml hown hnm X0 e0 hret hlk hZ
  have N0 := Fr.nil n0
  rw [ef_scki m fb fe]
  refine own_st (T' := s₁) (g' := (mkF m 1 #[iv fb, iv fe] [(.int fb)])) (fun _ k_ => XS.iloadN X0.here hx rfl (hb hby d18_0) rfl  k_) ?_
  refine own_st (T' := s₁) (g' := (mkF m 2 #[iv fb, iv fe] [(.int fe), (.int fb)])) (fun _ k_ => XS.iloadN X0.here hx rfl (hb hby d18_1) rfl  k_) ?_
  obtain ⟨T1, X1, e1, st1⟩ := getS2 X0 hx hZ hown (host := "") (Or.inl (wd hw 84 rfl)) Via.refl e0 (SF.ext O0.2) (g := (mkF m 2 #[iv fb, iv fe] [(.int fe), (.int fb)])) rfl (hb hby d18_2)
  refine own_st (T' := T1) (g' := (mkF m 5 #[iv fb, iv fe] [fm, (.int fe), (.int fb)])) st1 ?_
  clear st1
  obtain ⟨_, T2, L2, X2, hQ2, st2⟩ := own_callS X1 hx (y := own_m3) hown (mvT hZ (wd hw 86 rfl)) (mvT hZ (wd hw 87 rfl)) (mvT hZ (wd hw 85 rfl)) (mvT hZ (wd hw 88 rfl)) (by decide) (backOf (W := 0) (rm_cki l Z a0 hw [] fb fe fm h0 n0 O0 hk0 hk1 hfm) hZ (wd hw 88 rfl) (wd hw 85 rfl) (by decide) (by decide)) (g := (mkF m 5 #[iv fb, iv fe] [fm, (.int fe), (.int fb)])) rfl (by rw [hml]; rfl) (argsL := [(.int fb), (.int fe), fm]) (rest := []) (lenOf pd__IILjava_util_function_BiFunction__I rfl) rfl (by show 2 * 0 + _ ≤ _; exact Nat.le_of_eq rfl) (hb hby d18_5) rfl e1 (by decide) (by decide) (c' := 0) (s' := 0) rfl rfl
  obtain ⟨rfl, Nq2, eq2⟩ := hQ2
  have N2 := Fr.app N0 Nq2
  refine own_st (T' := T2) (g' := (mkF m 8 #[iv fb, iv fe] [(.int fb)])) st2 ?_
  clear st2
  refine own_st (T' := T2) (g' := (mkF m 9 #[iv fb, iv fe] [])) (fun _ k_ => XS.pop X2.here hx rfl (hb hby d18_8) rfl rfl k_) ?_
  exact own_retV X2 hx hret hlk (hb hby d18_9) (by decide) (by decide) ⟨rfl, N2, eq2⟩
theorem d17_0 : decode jdk_43_method_2_code 0 = .ok (.iload_n 1, 1) := by decide +kernel
theorem d17_1 : decode jdk_43_method_2_code 1 = .ok (.aload_n 0, 1) := by decide +kernel
theorem d17_2 : decode jdk_43_method_2_code 2 = .ok (.arraylength, 1) := by decide +kernel
theorem d17_3 : decode jdk_43_method_2_code 3 = .ok (.invokestatic 9, 3) := by decide +kernel
theorem d17_6 : decode jdk_43_method_2_code 6 = .ok (.aload_n 0, 1) := by decide +kernel
theorem d17_7 : decode jdk_43_method_2_code 7 = .ok (.iload_n 1, 1) := by decide +kernel
theorem d17_8 : decode jdk_43_method_2_code 8 = .ok (.baload, 1) := by decide +kernel
theorem d17_9 : decode jdk_43_method_2_code 9 = .ok (.sipush 255, 3) := by decide +kernel
theorem d17_12 : decode jdk_43_method_2_code 12 = .ok (.iand, 1) := by decide +kernel
theorem d17_13 : decode jdk_43_method_2_code 13 = .ok (.i2c, 1) := by decide +kernel
theorem d17_14 : decode jdk_43_method_2_code 14 = .ok (.ireturn, 1) := by decide +kernel
theorem pd__II_V : parseMethodDescriptor "(II)V" = some ⟨[.int, .int], none⟩ := by decide +kernel
theorem pn_2 : plainName "java/lang/StringLatin1" = true := by first | (simp [plainName, overriddenIn]; done) | decide +kernel
theorem ef_l1ch (m : MethodId) (x0 : Addr) (x1 : Int32) : entryFrame m #[(.ref x0), (.int x1)] 2 = mkF m 0 #[rv x0, iv x1] [] := by first | (simp [entryFrame, mkF, argsToLocals, Value.category]; done) | rfl
def Q_l1ch (Z : State) (t : Addr) (kt : ClassId) (cs : List Int32) (jj : Int32) (ii : Nat) (fm : Value) (h0 : Heap) (n0 : Nat) (v : Option Value) (h : Heap) (L : List Loc) : Prop := (v = some (.int (List.getD cs ii 0))) ∧ (Fr n0 L) ∧ (h = h0)
set_option maxRecDepth 65536 in
set_option maxHeartbeats 40000000 in
theorem rm_l1ch (l : Launch) (Z : State) (a0 : Array Value) (hw : ∀ d ∈ tables_1, d.before a0 Z = true) (ws : List Jvm.Cond) (t : Addr) (kt : ClassId) (cs : List Int32) (jj : Int32) (ii : Nat) (fm : Value) (h0 : Heap) (n0 : Nat) (O0 : Old Z n0 h0) (A_x : Arv Z h0 t kt .byte (Int32.ofNat cs.length) ((cs.map StrChars.lo8).map Value.int) (.int (0 : Int32))) (hjj : jj = Int32.ofNat ii) (hii : ii < cs.length) (lcs : cs.length ≤ 4) (hp : ∀ c ∈ cs, ¬ c < 0 ∧ ¬ (255 : Int32) < c) (SF : Sta Z Z.heap "jdk/internal/util/Preconditions" "SIOOBE_FORMATTER" "Ljava/util/function/BiFunction;" fm) (hfm : fm.isRef = true) :
    own_MF l own_m5 (Jvm.Cond.code own_m5 jdk_43_method_2_code 2 (some .char) :: ws) ({ frames := 2, cells := 0, slots := 0, locals := 27 } : Room) #[(.ref t), (.int jj)] Z h0 (Q_l1ch Z t kt cs jj ii fm h0 n0) := by
  refine own_met (own := "java/lang/StringLatin1") (nme := "charAt") rfl rfl (plainFor_of_name pn_2) ?_
  intro p e s m below meth c s₁ hx hby hml hown hnm X0 e0 hret hlk hZ
  have N0 := Fr.nil n0
  rw [ef_l1ch m t jj]
  subst hjj
  refine own_st (T' := s₁) (g' := (mkF m 1 #[rv t, iv (Int32.ofNat ii)] [(.int (Int32.ofNat ii))])) (fun _ k_ => XS.iloadN X0.here hx rfl (hb hby d17_0) rfl  k_) ?_
  refine own_st (T' := s₁) (g' := (mkF m 2 #[rv t, iv (Int32.ofNat ii)] [(.ref t), (.int (Int32.ofNat ii))])) (fun _ k_ => XS.aloadN X0.here hx rfl (hb hby d17_1) rfl rfl  k_) ?_
  obtain ⟨cl1, Ar1, -, S1, N1, -, -⟩ := id A_x
  refine own_st (T' := s₁) (g' := (mkF m 3 #[rv t, iv (Int32.ofNat ii)] [(.int (Int32.ofNat cs.length)), (.int (Int32.ofNat ii))])) (fun t_ k_ => X0.arraylength hx (by rw [e0]; exact Ar1.1) (State.isArrayOf_alike hZ.alike Ar1.2.1) (g := (mkF m 2 #[rv t, iv (Int32.ofNat ii)] [(.ref t), (.int (Int32.ofNat ii))])) rfl rfl (hb hby d17_2) _ (by rw [len_of S1 N1]; exact k_)) ?_
  obtain ⟨_, T2, L2, X2, hQ2, st2⟩ := own_callS X0 hx (y := own_m4) hown (mvT hZ (wd hw 81 rfl)) (mvT hZ (wd hw 82 rfl)) (mvT hZ (wd hw 17 rfl)) (mvT hZ (wd hw 83 rfl)) (by decide) (backOf (W := 0) (rm_scki l Z a0 hw [] (Int32.ofNat ii) (Int32.ofNat cs.length) fm h0 n0 O0 (own_on0 (by omega)) ((own_olt (by omega) (by omega)).mpr hii) SF hfm) hZ (wd hw 83 rfl) (wd hw 17 rfl) (by decide) (by decide)) (g := (mkF m 3 #[rv t, iv (Int32.ofNat ii)] [(.int (Int32.ofNat cs.length)), (.int (Int32.ofNat ii))])) rfl (by rw [hml]; rfl) (argsL := [(.int (Int32.ofNat ii)), (.int (Int32.ofNat cs.length))]) (rest := []) (lenOf pd__II_V rfl) rfl (by show 2 * 0 + _ ≤ _; exact Nat.le_of_eq rfl) (hb hby d17_3) rfl e0 (by decide) (by decide) (c' := 0) (s' := 0) rfl rfl
  obtain ⟨rfl, Nq2, eq2⟩ := hQ2
  have N2 := Fr.app N0 Nq2
  refine own_st (T' := T2) (g' := (mkF m 6 #[rv t, iv (Int32.ofNat ii)] [])) st2 ?_
  clear st2
  refine own_st (T' := T2) (g' := (mkF m 7 #[rv t, iv (Int32.ofNat ii)] [(.ref t)])) (fun _ k_ => XS.aloadN X2.here hx rfl (hb hby d17_6) rfl rfl  k_) ?_
  refine own_st (T' := T2) (g' := (mkF m 8 #[rv t, iv (Int32.ofNat ii)] [(.int (Int32.ofNat ii)), (.ref t)])) (fun _ k_ => XS.iloadN X2.here hx rfl (hb hby d17_7) rfl  k_) ?_
  obtain ⟨cl3, Ar3, q3, S3, N3, H3, G3⟩ := id A_x
  have hin3 : ¬ ((Int32.ofNat ii) < 0 ∨ cl3.slots.size ≤ ((Int32.ofNat ii)).toNatClampNeg) := inb_of S3 ⟨own_on0 (by omega), (own_olt (by omega) (by omega)).mpr hii⟩
  refine own_st (T' := T2) (g' := (mkF m 9 #[rv t, iv (Int32.ofNat ii)] [(.int (StrChars.lo8 (List.getD cs ii 0)))])) (X2.baloadBytes hx (j := (Int32.ofNat ii)) (v := (.int (StrChars.lo8 (List.getD cs ii 0)))) (by rw [eq2]; exact Ar3.1) (State.isArrayOf_alike hZ.alike Ar3.2.1) Ar3.2.2 hin3 (H3.at hin3 (by rw [own_onN (by omega)]; exact own_chb cs ii hii)) (g := (mkF m 8 #[rv t, iv (Int32.ofNat ii)] [(.int (Int32.ofNat ii)), (.ref t)])) rfl rfl (hb hby d17_8)) ?_
  clear hin3 G3 H3 N3 S3 q3 Ar3 cl3
  refine own_st (T' := T2) (g' := (mkF m 12 #[rv t, iv (Int32.ofNat ii)] [(.int (255 : Int32)), (.int (StrChars.lo8 (List.getD cs ii 0)))])) (fun _ k_ => XS.sipush X2.here hx rfl (hb hby d17_9) k_) ?_
  refine own_st (T' := T2) (g' := (mkF m 13 #[rv t, iv (Int32.ofNat ii)] [(.int ((StrChars.lo8 (List.getD cs ii 0)) &&& (255 : Int32)))])) (fun _ k_ => XS.iand X2.here hx rfl (hb hby d17_12) rfl k_) ?_
  refine own_st (T' := T2) (g' := (mkF m 14 #[rv t, iv (Int32.ofNat ii)] [(.int (((StrChars.lo8 (List.getD cs ii 0)) &&& (255 : Int32)).toUInt32.toUInt16.toUInt32.toInt32))])) (fun _ k_ => XS.i2c X2.here hx rfl (hb hby d17_13) rfl k_) ?_
  exact own_retN X2 hx (t := .char) hret (by simp) hlk (hb hby d17_14) (by decide) (by decide) ⟨congrArg (fun z => some (Value.int z)) ((own_nc _).trans (own_lo255 (hp _ (own_chm cs ii hii)))), N2, eq2⟩
theorem d26_0 : decode jdk_52_method_5_code 0 = .ok (.getstatic 44, 3) := by decide +kernel
theorem d26_3 : decode jdk_52_method_5_code 3 = .ok (.ifCond .ne 25, 3) := by decide +kernel
theorem d26_28 : decode jdk_52_method_5_code 28 = .ok (.iload_n 1, 1) := by decide +kernel
theorem d26_29 : decode jdk_52_method_5_code 29 = .ok (.iconst 1, 1) := by decide +kernel
theorem d26_30 : decode jdk_52_method_5_code 30 = .ok (.ishl, 1) := by decide +kernel
theorem d26_31 : decode jdk_52_method_5_code 31 = .ok (.istore_n 1, 1) := by decide +kernel
theorem d26_32 : decode jdk_52_method_5_code 32 = .ok (.aload_n 0, 1) := by decide +kernel
theorem d26_33 : decode jdk_52_method_5_code 33 = .ok (.iload_n 1, 1) := by decide +kernel
theorem d26_34 : decode jdk_52_method_5_code 34 = .ok (.iinc 1 1, 3) := by decide +kernel
theorem d26_37 : decode jdk_52_method_5_code 37 = .ok (.baload, 1) := by decide +kernel
theorem d26_38 : decode jdk_52_method_5_code 38 = .ok (.sipush 255, 3) := by decide +kernel
theorem d26_41 : decode jdk_52_method_5_code 41 = .ok (.iand, 1) := by decide +kernel
theorem d26_42 : decode jdk_52_method_5_code 42 = .ok (.getstatic 59, 3) := by decide +kernel
theorem d26_45 : decode jdk_52_method_5_code 45 = .ok (.ishl, 1) := by decide +kernel
theorem d26_46 : decode jdk_52_method_5_code 46 = .ok (.aload_n 0, 1) := by decide +kernel
theorem d26_47 : decode jdk_52_method_5_code 47 = .ok (.iload_n 1, 1) := by decide +kernel
theorem d26_48 : decode jdk_52_method_5_code 48 = .ok (.baload, 1) := by decide +kernel
theorem d26_49 : decode jdk_52_method_5_code 49 = .ok (.sipush 255, 3) := by decide +kernel
theorem d26_52 : decode jdk_52_method_5_code 52 = .ok (.iand, 1) := by decide +kernel
theorem d26_53 : decode jdk_52_method_5_code 53 = .ok (.getstatic 63, 3) := by decide +kernel
theorem d26_56 : decode jdk_52_method_5_code 56 = .ok (.ishl, 1) := by decide +kernel
theorem d26_57 : decode jdk_52_method_5_code 57 = .ok (.ior, 1) := by decide +kernel
theorem d26_58 : decode jdk_52_method_5_code 58 = .ok (.i2c, 1) := by decide +kernel
theorem d26_59 : decode jdk_52_method_5_code 59 = .ok (.ireturn, 1) := by decide +kernel
theorem pn_3 : plainName "java/lang/StringUTF16" = true := by first | (simp [plainName, overriddenIn]; done) | decide +kernel
theorem ef_getc (m : MethodId) (x0 : Addr) (x1 : Int32) : entryFrame m #[(.ref x0), (.int x1)] 2 = mkF m 0 #[rv x0, iv x1] [] := by first | (simp [entryFrame, mkF, argsToLocals, Value.category]; done) | rfl
def Q_getc (Z : State) (t : Addr) (kt : ClassId) (cs : List Int32) (jj : Int32) (ii : Nat) (h0 : Heap) (n0 : Nat) (v : Option Value) (h : Heap) (L : List Loc) : Prop := (v = some (.int (List.getD cs ii 0))) ∧ (Fr n0 L) ∧ (h = h0)
set_option maxRecDepth 65536 in
set_option maxHeartbeats 40000000 in
theorem rm_getc (l : Launch) (Z : State) (a0 : Array Value) (hw : ∀ d ∈ tables_1, d.before a0 Z = true) (ws : List Jvm.Cond) (t : Addr) (kt : ClassId) (cs : List Int32) (jj : Int32) (ii : Nat) (h0 : Heap) (n0 : Nat) (O0 : Old Z n0 h0) (A_x : Arv Z h0 t kt .byte (Int32.ofNat (2 * cs.length)) (own_b16 cs) (.int (0 : Int32))) (hjj : jj = Int32.ofNat ii) (hii : ii < cs.length) (lcs : cs.length ≤ 4) (hp : ∀ c ∈ cs, own_R c) (SA : Sta Z Z.heap "java/lang/StringUTF16" "$assertionsDisabled" "Z" (.int (1 : Int32))) (SHI : Sta Z Z.heap "java/lang/StringUTF16" "HI_BYTE_SHIFT" "I" (.int (0 : Int32))) (SLO : Sta Z Z.heap "java/lang/StringUTF16" "LO_BYTE_SHIFT" "I" (.int (8 : Int32))) :
    own_MF l own_m6 (Jvm.Cond.code own_m6 jdk_52_method_5_code 2 (some .char) :: ws) ({ frames := 0, cells := 0, slots := 0, locals := 0 } : Room) #[(.ref t), (.int jj)] Z h0 (Q_getc Z t kt cs jj ii h0 n0) := by
  refine own_met (own := "java/lang/StringUTF16") (nme := "getChar") rfl rfl (plainFor_of_name pn_3) ?_
  intro p e s m below meth c s₁ hx hby hml hown hnm X0 e0 hret hlk hZ
  have N0 := Fr.nil n0
  rw [ef_getc m t jj]
  subst hjj
  obtain ⟨T1, X1, e1, st1⟩ := getS2 X0 hx hZ hown (host := "") (Or.inl (wd hw 112 rfl)) Via.refl e0 (SA.ext O0.2) (g := (mkF m 0 #[rv t, iv (Int32.ofNat ii)] [])) rfl (hb hby d26_0)
  refine own_st (T' := T1) (g' := (mkF m 3 #[rv t, iv (Int32.ofNat ii)] [(.int (1 : Int32))])) st1 ?_
  clear st1
  refine own_st (T' := T1) (g' := (mkF m 28 #[rv t, iv (Int32.ofNat ii)] [])) (fun _ k_ => XS.ifYes X1.here hx rfl (pc0 := 3) (pc' := 28) rfl (hb hby d26_3) rfl ((if0 _ _).trans (feq (by decide : ¬ ((1 : Int32) = (0 : Int32)))).2) (by decide) (by decide) k_) ?_
  refine own_st (T' := T1) (g' := (mkF m 29 #[rv t, iv (Int32.ofNat ii)] [(.int (Int32.ofNat ii))])) (fun _ k_ => XS.iloadN X1.here hx rfl (hb hby d26_28) rfl  k_) ?_
  refine own_st (T' := T1) (g' := (mkF m 30 #[rv t, iv (Int32.ofNat ii)] [(.int (1 : Int32)), (.int (Int32.ofNat ii))])) (fun _ k_ => XS.iconst X1.here hx rfl (hb hby d26_29) k_) ?_
  refine own_st (T' := T1) (g' := (mkF m 31 #[rv t, iv (Int32.ofNat ii)] [(.int ((Int32.ofNat ii) <<< ((1 : Int32) &&& 31)))])) (fun _ k_ => XS.ishl X1.here hx rfl (hb hby d26_30) rfl k_) ?_
  rw [own_sh (by omega)]
  refine own_st (T' := T1) (g' := (mkF m 32 #[rv t, iv (Int32.ofNat (2 * ii))] [])) (fun _ k_ => XS.istoreN X1.here hx rfl (hb hby d26_31) rfl (l' := #[rv t, iv (Int32.ofNat (2 * ii))]) rfl k_) ?_
  refine own_st (T' := T1) (g' := (mkF m 33 #[rv t, iv (Int32.ofNat (2 * ii))] [(.ref t)])) (fun _ k_ => XS.aloadN X1.here hx rfl (hb hby d26_32) rfl rfl  k_) ?_
  refine own_st (T' := T1) (g' := (mkF m 34 #[rv t, iv (Int32.ofNat (2 * ii))] [(.int (Int32.ofNat (2 * ii))), (.ref t)])) (fun _ k_ => XS.iloadN X1.here hx rfl (hb hby d26_33) rfl  k_) ?_
  refine own_st (T' := T1) (g' := (mkF m 37 #[rv t, iv ((Int32.ofNat (2 * ii)) + (1 : Int32))] [(.int (Int32.ofNat (2 * ii))), (.ref t)])) (fun _ k_ => XS.iinc X1.here hx rfl (hb hby d26_34) rfl (l' := #[rv t, iv ((Int32.ofNat (2 * ii)) + (1 : Int32))]) rfl k_) ?_
  obtain ⟨cl2, Ar2, q2, S2, N2, H2, G2⟩ := id A_x
  have hin2 : ¬ ((Int32.ofNat (2 * ii)) < 0 ∨ cl2.slots.size ≤ ((Int32.ofNat (2 * ii))).toNatClampNeg) := inb_of S2 ⟨own_on0 (by omega), (own_olt (by omega) (by omega)).mpr (by omega)⟩
  refine own_st (T' := T1) (g' := (mkF m 38 #[rv t, iv ((Int32.ofNat (2 * ii)) + (1 : Int32))] [(.int (own_l16 (List.getD cs ii 0)))])) (X1.baloadBytes hx (j := (Int32.ofNat (2 * ii))) (v := (.int (own_l16 (List.getD cs ii 0)))) (by rw [e1]; exact Ar2.1) (State.isArrayOf_alike hZ.alike Ar2.2.1) Ar2.2.2 hin2 (H2.at hin2 (by rw [own_onN (by omega)]; exact (own_b16e cs ii hii).1)) (g := (mkF m 37 #[rv t, iv ((Int32.ofNat (2 * ii)) + (1 : Int32))] [(.int (Int32.ofNat (2 * ii))), (.ref t)])) rfl rfl (hb hby d26_37)) ?_
  clear hin2 G2 H2 N2 S2 q2 Ar2 cl2
  refine own_st (T' := T1) (g' := (mkF m 41 #[rv t, iv ((Int32.ofNat (2 * ii)) + (1 : Int32))] [(.int (255 : Int32)), (.int (own_l16 (List.getD cs ii 0)))])) (fun _ k_ => XS.sipush X1.here hx rfl (hb hby d26_38) k_) ?_
  refine own_st (T' := T1) (g' := (mkF m 42 #[rv t, iv ((Int32.ofNat (2 * ii)) + (1 : Int32))] [(.int ((own_l16 (List.getD cs ii 0)) &&& (255 : Int32)))])) (fun _ k_ => XS.iand X1.here hx rfl (hb hby d26_41) rfl k_) ?_
  obtain ⟨T3, X3, e3, st3⟩ := getS2 X1 hx hZ hown (host := "") (Or.inl (wd hw 113 rfl)) Via.refl e1 (SHI.ext O0.2) (g := (mkF m 42 #[rv t, iv ((Int32.ofNat (2 * ii)) + (1 : Int32))] [(.int ((own_l16 (List.getD cs ii 0)) &&& (255 : Int32)))])) rfl (hb hby d26_42)
  refine own_st (T' := T3) (g' := (mkF m 45 #[rv t, iv ((Int32.ofNat (2 * ii)) + (1 : Int32))] [(.int (0 : Int32)), (.int ((own_l16 (List.getD cs ii 0)) &&& (255 : Int32)))])) st3 ?_
  clear st3
  refine own_st (T' := T3) (g' := (mkF m 46 #[rv t, iv ((Int32.ofNat (2 * ii)) + (1 : Int32))] [(.int (((own_l16 (List.getD cs ii 0)) &&& (255 : Int32)) <<< ((0 : Int32) &&& 31)))])) (fun _ k_ => XS.ishl X3.here hx rfl (hb hby d26_45) rfl k_) ?_
  refine own_st (T' := T3) (g' := (mkF m 47 #[rv t, iv ((Int32.ofNat (2 * ii)) + (1 : Int32))] [(.ref t), (.int (((own_l16 (List.getD cs ii 0)) &&& (255 : Int32)) <<< ((0 : Int32) &&& 31)))])) (fun _ k_ => XS.aloadN X3.here hx rfl (hb hby d26_46) rfl rfl  k_) ?_
  refine own_st (T' := T3) (g' := (mkF m 48 #[rv t, iv ((Int32.ofNat (2 * ii)) + (1 : Int32))] [(.int ((Int32.ofNat (2 * ii)) + (1 : Int32))), (.ref t), (.int (((own_l16 (List.getD cs ii 0)) &&& (255 : Int32)) <<< ((0 : Int32) &&& 31)))])) (fun _ k_ => XS.iloadN X3.here hx rfl (hb hby d26_47) rfl  k_) ?_
  rw [own_on1 (by omega)]
  obtain ⟨cl4, Ar4, q4, S4, N4, H4, G4⟩ := id A_x
  have hin4 : ¬ ((Int32.ofNat (2 * ii + 1)) < 0 ∨ cl4.slots.size ≤ ((Int32.ofNat (2 * ii + 1))).toNatClampNeg) := inb_of S4 ⟨own_on0 (by omega), (own_olt (by omega) (by omega)).mpr (by omega)⟩
  refine own_st (T' := T3) (g' := (mkF m 49 #[rv t, iv (Int32.ofNat (2 * ii + 1))] [(.int (own_h16 (List.getD cs ii 0))), (.int (((own_l16 (List.getD cs ii 0)) &&& (255 : Int32)) <<< ((0 : Int32) &&& 31)))])) (X3.baloadBytes hx (j := (Int32.ofNat (2 * ii + 1))) (v := (.int (own_h16 (List.getD cs ii 0)))) (by rw [e3]; exact Ar4.1) (State.isArrayOf_alike hZ.alike Ar4.2.1) Ar4.2.2 hin4 (H4.at hin4 (by rw [own_onN (by omega)]; exact (own_b16e cs ii hii).2)) (g := (mkF m 48 #[rv t, iv (Int32.ofNat (2 * ii + 1))] [(.int (Int32.ofNat (2 * ii + 1))), (.ref t), (.int (((own_l16 (List.getD cs ii 0)) &&& (255 : Int32)) <<< ((0 : Int32) &&& 31)))])) rfl rfl (hb hby d26_48)) ?_
  clear hin4 G4 H4 N4 S4 q4 Ar4 cl4
  refine own_st (T' := T3) (g' := (mkF m 52 #[rv t, iv (Int32.ofNat (2 * ii + 1))] [(.int (255 : Int32)), (.int (own_h16 (List.getD cs ii 0))), (.int (((own_l16 (List.getD cs ii 0)) &&& (255 : Int32)) <<< ((0 : Int32) &&& 31)))])) (fun _ k_ => XS.sipush X3.here hx rfl (hb hby d26_49) k_) ?_
  refine own_st (T' := T3) (g' := (mkF m 53 #[rv t, iv (Int32.ofNat (2 * ii + 1))] [(.int ((own_h16 (List.getD cs ii 0)) &&& (255 : Int32))), (.int (((own_l16 (List.getD cs ii 0)) &&& (255 : Int32)) <<< ((0 : Int32) &&& 31)))])) (fun _ k_ => XS.iand X3.here hx rfl (hb hby d26_52) rfl k_) ?_
  obtain ⟨T5, X5, e5, st5⟩ := getS2 X3 hx hZ hown (host := "") (Or.inl (wd hw 114 rfl)) Via.refl e3 (SLO.ext O0.2) (g := (mkF m 53 #[rv t, iv (Int32.ofNat (2 * ii + 1))] [(.int ((own_h16 (List.getD cs ii 0)) &&& (255 : Int32))), (.int (((own_l16 (List.getD cs ii 0)) &&& (255 : Int32)) <<< ((0 : Int32) &&& 31)))])) rfl (hb hby d26_53)
  refine own_st (T' := T5) (g' := (mkF m 56 #[rv t, iv (Int32.ofNat (2 * ii + 1))] [(.int (8 : Int32)), (.int ((own_h16 (List.getD cs ii 0)) &&& (255 : Int32))), (.int (((own_l16 (List.getD cs ii 0)) &&& (255 : Int32)) <<< ((0 : Int32) &&& 31)))])) st5 ?_
  clear st5
  refine own_st (T' := T5) (g' := (mkF m 57 #[rv t, iv (Int32.ofNat (2 * ii + 1))] [(.int (((own_h16 (List.getD cs ii 0)) &&& (255 : Int32)) <<< ((8 : Int32) &&& 31))), (.int (((own_l16 (List.getD cs ii 0)) &&& (255 : Int32)) <<< ((0 : Int32) &&& 31)))])) (fun _ k_ => XS.ishl X5.here hx rfl (hb hby d26_56) rfl k_) ?_
  refine own_st (T' := T5) (g' := (mkF m 58 #[rv t, iv (Int32.ofNat (2 * ii + 1))] [(.int ((((own_l16 (List.getD cs ii 0)) &&& (255 : Int32)) <<< ((0 : Int32) &&& 31)) ||| (((own_h16 (List.getD cs ii 0)) &&& (255 : Int32)) <<< ((8 : Int32) &&& 31))))])) (fun _ k_ => XS.ior X5.here hx rfl (hb hby d26_57) rfl k_) ?_
  refine own_st (T' := T5) (g' := (mkF m 59 #[rv t, iv (Int32.ofNat (2 * ii + 1))] [(.int (((((own_l16 (List.getD cs ii 0)) &&& (255 : Int32)) <<< ((0 : Int32) &&& 31)) ||| (((own_h16 (List.getD cs ii 0)) &&& (255 : Int32)) <<< ((8 : Int32) &&& 31))).toUInt32.toUInt16.toUInt32.toInt32))])) (fun _ k_ => XS.i2c X5.here hx rfl (hb hby d26_58) rfl k_) ?_
  exact own_retN X5 hx (t := .char) hret (by simp) hlk (hb hby d26_59) (by decide) (by decide) ⟨congrArg (fun z => some (Value.int z)) (own_g16 (hp _ (own_chm cs ii hii))), N0, e5⟩
theorem d29_0 : decode jdk_52_method_6_code 0 = .ok (.aload_n 0, 1) := by decide +kernel
theorem d29_1 : decode jdk_52_method_6_code 1 = .ok (.arraylength, 1) := by decide +kernel
theorem d29_2 : decode jdk_52_method_6_code 2 = .ok (.iconst 1, 1) := by decide +kernel
theorem d29_3 : decode jdk_52_method_6_code 3 = .ok (.ishr, 1) := by decide +kernel
theorem d29_4 : decode jdk_52_method_6_code 4 = .ok (.ireturn, 1) := by decide +kernel
theorem ef_ulen (m : MethodId) (x0 : Addr) : entryFrame m #[(.ref x0)] 1 = mkF m 0 #[rv x0] [] := by first | (simp [entryFrame, mkF, argsToLocals, Value.category]; done) | rfl
def Q_ulen (Z : State) (t : Addr) (kt : ClassId) (cs : List Int32) (h0 : Heap) (n0 : Nat) (v : Option Value) (h : Heap) (L : List Loc) : Prop := (v = some (.int (Int32.ofNat cs.length))) ∧ (Fr n0 L) ∧ (h = h0)
set_option maxRecDepth 65536 in
set_option maxHeartbeats 40000000 in
theorem rm_ulen (l : Launch) (Z : State) (a0 : Array Value) (hw : ∀ d ∈ tables_1, d.before a0 Z = true) (ws : List Jvm.Cond) (t : Addr) (kt : ClassId) (cs : List Int32) (h0 : Heap) (n0 : Nat) (O0 : Old Z n0 h0) (A_x : Arv Z h0 t kt .byte (Int32.ofNat (2 * cs.length)) (own_b16 cs) (.int (0 : Int32))) (lcs : cs.length ≤ 4) :
    own_MF l own_m7 (Jvm.Cond.code own_m7 jdk_52_method_6_code 1 (some .int) :: ws) ({ frames := 0, cells := 0, slots := 0, locals := 0 } : Room) #[(.ref t)] Z h0 (Q_ulen Z t kt cs h0 n0) := by
  refine own_met (own := "java/lang/StringUTF16") (nme := "length") rfl rfl (plainFor_of_name pn_3) ?_
  intro p e s m below meth c s₁ hx hby hml hown hnm X0 e0 hret hlk hZ
  have N0 := Fr.nil n0
  rw [ef_ulen m t]
  refine own_st (T' := s₁) (g' := (mkF m 1 #[rv t] [(.ref t)])) (fun _ k_ => XS.aloadN X0.here hx rfl (hb hby d29_0) rfl rfl  k_) ?_
  obtain ⟨cl1, Ar1, -, S1, N1, -, -⟩ := id A_x
  refine own_st (T' := s₁) (g' := (mkF m 2 #[rv t] [(.int (Int32.ofNat (2 * cs.length)))])) (fun t_ k_ => X0.arraylength hx (by rw [e0]; exact Ar1.1) (State.isArrayOf_alike hZ.alike Ar1.2.1) (g := (mkF m 1 #[rv t] [(.ref t)])) rfl rfl (hb hby d29_1) _ (by rw [len_of S1 N1]; exact k_)) ?_
  refine own_st (T' := s₁) (g' := (mkF m 3 #[rv t] [(.int (1 : Int32)), (.int (Int32.ofNat (2 * cs.length)))])) (fun _ k_ => XS.iconst X0.here hx rfl (hb hby d29_2) k_) ?_
  refine own_st (T' := s₁) (g' := (mkF m 4 #[rv t] [(.int ((Int32.ofNat (2 * cs.length)) >>> ((1 : Int32) &&& 31)))])) (fun _ k_ => XS.ishr X0.here hx rfl (hb hby d29_3) rfl k_) ?_
  exact own_retI X0 hx hret hlk (hb hby d29_4) (by decide) (by decide) ⟨congrArg (fun z => some (Value.int z)) (own_shr lcs), N0, e0⟩
theorem d28_0 : decode jdk_52_method_91_code 0 = .ok (.iload_n 0, 1) := by decide +kernel
theorem d28_1 : decode jdk_52_method_91_code 1 = .ok (.aload_n 1, 1) := by decide +kernel
theorem d28_2 : decode jdk_52_method_91_code 2 = .ok (.invokestatic 48, 3) := by decide +kernel
theorem d28_5 : decode jdk_52_method_91_code 5 = .ok (.invokestatic 414, 3) := by decide +kernel
theorem d28_8 : decode jdk_52_method_91_code 8 = .ok (.return_, 1) := by decide +kernel
theorem pd___B_I : parseMethodDescriptor "([B)I" = some ⟨[(.array .byte)], some .int⟩ := by decide +kernel
theorem ef_ucki (m : MethodId) (x0 : Int32) (x1 : Addr) : entryFrame m #[(.int x0), (.ref x1)] 2 = mkF m 0 #[iv x0, rv x1] [] := by first | (simp [entryFrame, mkF, argsToLocals, Value.category]; done) | rfl
def Q_ucki (Z : State) (t : Addr) (kt : ClassId) (cs : List Int32) (jj : Int32) (ii : Nat) (fm : Value) (h0 : Heap) (n0 : Nat) (v : Option Value) (h : Heap) (L : List Loc) : Prop := (v = none) ∧ (Fr n0 L) ∧ (h = h0)
set_option maxRecDepth 65536 in
set_option maxHeartbeats 40000000 in
theorem rm_ucki (l : Launch) (Z : State) (a0 : Array Value) (hw : ∀ d ∈ tables_1, d.before a0 Z = true) (ws : List Jvm.Cond) (t : Addr) (kt : ClassId) (cs : List Int32) (jj : Int32) (ii : Nat) (fm : Value) (h0 : Heap) (n0 : Nat) (O0 : Old Z n0 h0) (A_x : Arv Z h0 t kt .byte (Int32.ofNat (2 * cs.length)) (own_b16 cs) (.int (0 : Int32))) (hjj : jj = Int32.ofNat ii) (hii : ii < cs.length) (lcs : cs.length ≤ 4) (SF : Sta Z Z.heap "jdk/internal/util/Preconditions" "SIOOBE_FORMATTER" "Ljava/util/function/BiFunction;" fm) (hfm : fm.isRef = true) :
    own_MF l own_m8 (Jvm.Cond.code own_m8 jdk_52_method_91_code 2 none :: ws) ({ frames := 2, cells := 0, slots := 0, locals := 27 } : Room) #[(.int jj), (.ref t)] Z h0 (Q_ucki Z t kt cs jj ii fm h0 n0) := by
  refine own_met (own := "java/lang/StringUTF16") (nme := "checkIndex") rfl rfl (plainFor_of_name pn_3) ?_
  intro p e s m below meth c s₁ hx hby hml hown hnm X0 e0 hret hlk hZ
  have N0 := Fr.nil n0
  rw [ef_ucki m jj t]
  subst hjj
  refine own_st (T' := s₁) (g' := (mkF m 1 #[iv (Int32.ofNat ii), rv t] [(.int (Int32.ofNat ii))])) (fun _ k_ => XS.iloadN X0.here hx rfl (hb hby d28_0) rfl  k_) ?_
  refine own_st (T' := s₁) (g' := (mkF m 2 #[iv (Int32.ofNat ii), rv t] [(.ref t), (.int (Int32.ofNat ii))])) (fun _ k_ => XS.aloadN X0.here hx rfl (hb hby d28_1) rfl rfl  k_) ?_
  obtain ⟨_, T1, L1, X1, hQ1, st1⟩ := own_callS X0 hx (y := own_m7) hown (mvT hZ (wd hw 124 rfl)) (mvT hZ (wd hw 125 rfl)) (mvT hZ (wd hw 59 rfl)) (mvT hZ (wd hw 126 rfl)) (by decide) (backOf (W := 1) (rm_ulen l Z a0 hw [] t kt cs h0 n0 O0 A_x lcs) hZ (wd hw 126 rfl) (wd hw 59 rfl) (by decide) (by decide)) (g := (mkF m 2 #[iv (Int32.ofNat ii), rv t] [(.ref t), (.int (Int32.ofNat ii))])) rfl (by rw [hml]; rfl) (argsL := [(.ref t)]) (rest := [(.int (Int32.ofNat ii))]) (lenOf pd___B_I rfl) rfl (by show 2 * 0 + _ ≤ _; exact Nat.le_of_eq rfl) (hb hby d28_2) rfl e0 (by decide) (by decide) (c' := 0) (s' := 0) rfl rfl
  obtain ⟨rfl, Nq1, eq1⟩ := hQ1
  have N1 := Fr.app N0 Nq1
  refine own_st (T' := T1) (g' := (mkF m 5 #[iv (Int32.ofNat ii), rv t] [(.int (Int32.ofNat cs.length)), (.int (Int32.ofNat ii))])) st1 ?_
  clear st1
  obtain ⟨_, T2, L2, X2, hQ2, st2⟩ := own_callS X1 hx (y := own_m4) hown (mvT hZ (wd hw 127 rfl)) (mvT hZ (wd hw 82 rfl)) (mvT hZ (wd hw 17 rfl)) (mvT hZ (wd hw 83 rfl)) (by decide) (backOf (W := 0) (rm_scki l Z a0 hw [] (Int32.ofNat ii) (Int32.ofNat cs.length) fm h0 n0 O0 (own_on0 (by omega)) ((own_olt (by omega) (by omega)).mpr hii) SF hfm) hZ (wd hw 83 rfl) (wd hw 17 rfl) (by decide) (by decide)) (g := (mkF m 5 #[iv (Int32.ofNat ii), rv t] [(.int (Int32.ofNat cs.length)), (.int (Int32.ofNat ii))])) rfl (by rw [hml]; rfl) (argsL := [(.int (Int32.ofNat ii)), (.int (Int32.ofNat cs.length))]) (rest := []) (lenOf pd__II_V rfl) rfl (by show 2 * 0 + _ ≤ _; exact Nat.le_of_eq rfl) (hb hby d28_5) rfl eq1 (by decide) (by decide) (c' := 0) (s' := 0) rfl rfl
  obtain ⟨rfl, Nq2, eq2⟩ := hQ2
  have N2 := Fr.app N1 Nq2
  refine own_st (T' := T2) (g' := (mkF m 8 #[iv (Int32.ofNat ii), rv t] [])) st2 ?_
  clear st2
  exact own_retV X2 hx hret hlk (hb hby d28_8) (by decide) (by decide) ⟨rfl, N2, eq2⟩
theorem d27_0 : decode jdk_52_method_83_code 0 = .ok (.iload_n 1, 1) := by decide +kernel
theorem d27_1 : decode jdk_52_method_83_code 1 = .ok (.aload_n 0, 1) := by decide +kernel
theorem d27_2 : decode jdk_52_method_83_code 2 = .ok (.invokestatic 67, 3) := by decide +kernel
theorem d27_5 : decode jdk_52_method_83_code 5 = .ok (.aload_n 0, 1) := by decide +kernel
theorem d27_6 : decode jdk_52_method_83_code 6 = .ok (.iload_n 1, 1) := by decide +kernel
theorem d27_7 : decode jdk_52_method_83_code 7 = .ok (.invokestatic 71, 3) := by decide +kernel
theorem d27_10 : decode jdk_52_method_83_code 10 = .ok (.ireturn, 1) := by decide +kernel
theorem pd__I_B_V : parseMethodDescriptor "(I[B)V" = some ⟨[.int, (.array .byte)], none⟩ := by decide +kernel
theorem pd___BI_C : parseMethodDescriptor "([BI)C" = some ⟨[(.array .byte), .int], some .char⟩ := by decide +kernel
theorem ef_u1ch (m : MethodId) (x0 : Addr) (x1 : Int32) : entryFrame m #[(.ref x0), (.int x1)] 2 = mkF m 0 #[rv x0, iv x1] [] := by first | (simp [entryFrame, mkF, argsToLocals, Value.category]; done) | rfl
def Q_u1ch (Z : State) (t : Addr) (kt : ClassId) (cs : List Int32) (jj : Int32) (ii : Nat) (fm : Value) (h0 : Heap) (n0 : Nat) (v : Option Value) (h : Heap) (L : List Loc) : Prop := (v = some (.int (List.getD cs ii 0))) ∧ (Fr n0 L) ∧ (h = h0)
set_option maxRecDepth 65536 in
set_option maxHeartbeats 40000000 in
theorem rm_u1ch (l : Launch) (Z : State) (a0 : Array Value) (hw : ∀ d ∈ tables_1, d.before a0 Z = true) (ws : List Jvm.Cond) (t : Addr) (kt : ClassId) (cs : List Int32) (jj : Int32) (ii : Nat) (fm : Value) (h0 : Heap) (n0 : Nat) (O0 : Old Z n0 h0) (A_x : Arv Z h0 t kt .byte (Int32.ofNat (2 * cs.length)) (own_b16 cs) (.int (0 : Int32))) (hjj : jj = Int32.ofNat ii) (hii : ii < cs.length) (lcs : cs.length ≤ 4) (hp : ∀ c ∈ cs, own_R c) (SA : Sta Z Z.heap "java/lang/StringUTF16" "$assertionsDisabled" "Z" (.int (1 : Int32))) (SHI : Sta Z Z.heap "java/lang/StringUTF16" "HI_BYTE_SHIFT" "I" (.int (0 : Int32))) (SLO : Sta Z Z.heap "java/lang/StringUTF16" "LO_BYTE_SHIFT" "I" (.int (8 : Int32))) (SF : Sta Z Z.heap "jdk/internal/util/Preconditions" "SIOOBE_FORMATTER" "Ljava/util/function/BiFunction;" fm) (hfm : fm.isRef = true) :
    own_MF l own_m9 (Jvm.Cond.code own_m9 jdk_52_method_83_code 2 (some .char) :: ws) ({ frames := 3, cells := 0, slots := 0, locals := 40 } : Room) #[(.ref t), (.int jj)] Z h0 (Q_u1ch Z t kt cs jj ii fm h0 n0) := by
  refine own_met (own := "java/lang/StringUTF16") (nme := "charAt") rfl rfl (plainFor_of_name pn_3) ?_
  intro p e s m below meth c s₁ hx hby hml hown hnm X0 e0 hret hlk hZ
  have N0 := Fr.nil n0
  rw [ef_u1ch m t jj]
  subst hjj
  refine own_st (T' := s₁) (g' := (mkF m 1 #[rv t, iv (Int32.ofNat ii)] [(.int (Int32.ofNat ii))])) (fun _ k_ => XS.iloadN X0.here hx rfl (hb hby d27_0) rfl  k_) ?_
  refine own_st (T' := s₁) (g' := (mkF m 2 #[rv t, iv (Int32.ofNat ii)] [(.ref t), (.int (Int32.ofNat ii))])) (fun _ k_ => XS.aloadN X0.here hx rfl (hb hby d27_1) rfl rfl  k_) ?_
  obtain ⟨_, T1, L1, X1, hQ1, st1⟩ := own_callS X0 hx (y := own_m8) hown (mvT hZ (wd hw 121 rfl)) (mvT hZ (wd hw 122 rfl)) (mvT hZ (wd hw 59 rfl)) (mvT hZ (wd hw 123 rfl)) (by decide) (backOf (W := 0) (rm_ucki l Z a0 hw [] t kt cs (Int32.ofNat ii) ii fm h0 n0 O0 A_x rfl hii lcs SF hfm) hZ (wd hw 123 rfl) (wd hw 59 rfl) (by decide) (by decide)) (g := (mkF m 2 #[rv t, iv (Int32.ofNat ii)] [(.ref t), (.int (Int32.ofNat ii))])) rfl (by rw [hml]; rfl) (argsL := [(.int (Int32.ofNat ii)), (.ref t)]) (rest := []) (lenOf pd__I_B_V rfl) rfl (by show 2 * 0 + _ ≤ _; exact Nat.le_of_eq rfl) (hb hby d27_2) rfl e0 (by decide) (by decide) (c' := 0) (s' := 0) rfl rfl
  obtain ⟨rfl, Nq1, eq1⟩ := hQ1
  have N1 := Fr.app N0 Nq1
  refine own_st (T' := T1) (g' := (mkF m 5 #[rv t, iv (Int32.ofNat ii)] [])) st1 ?_
  clear st1
  refine own_st (T' := T1) (g' := (mkF m 6 #[rv t, iv (Int32.ofNat ii)] [(.ref t)])) (fun _ k_ => XS.aloadN X1.here hx rfl (hb hby d27_5) rfl rfl  k_) ?_
  refine own_st (T' := T1) (g' := (mkF m 7 #[rv t, iv (Int32.ofNat ii)] [(.int (Int32.ofNat ii)), (.ref t)])) (fun _ k_ => XS.iloadN X1.here hx rfl (hb hby d27_6) rfl  k_) ?_
  obtain ⟨_, T2, L2, X2, hQ2, st2⟩ := own_callS X1 hx (y := own_m6) hown (mvT hZ (wd hw 115 rfl)) (mvT hZ (wd hw 116 rfl)) (mvT hZ (wd hw 59 rfl)) (mvT hZ (wd hw 117 rfl)) (by decide) (backOf (W := 0) (rm_getc l Z a0 hw [] t kt cs (Int32.ofNat ii) ii h0 n0 O0 A_x rfl hii lcs hp SA SHI SLO) hZ (wd hw 117 rfl) (wd hw 59 rfl) (by decide) (by decide)) (g := (mkF m 7 #[rv t, iv (Int32.ofNat ii)] [(.int (Int32.ofNat ii)), (.ref t)])) rfl (by rw [hml]; rfl) (argsL := [(.ref t), (.int (Int32.ofNat ii))]) (rest := []) (lenOf pd___BI_C rfl) rfl (by show 2 * 0 + _ ≤ _; exact Nat.le_of_eq rfl) (hb hby d27_7) rfl eq1 (by decide) (by decide) (c' := 0) (s' := 0) rfl rfl
  obtain ⟨rfl, Nq2, eq2⟩ := hQ2
  have N2 := Fr.app N1 Nq2
  refine own_st (T' := T2) (g' := (mkF m 10 #[rv t, iv (Int32.ofNat ii)] [(.int (List.getD cs ii 0))])) st2 ?_
  clear st2
  exact own_retN X2 hx (t := .char) hret (by simp) hlk (hb hby d27_10) (by decide) (by decide) ⟨congrArg (fun z => some (Value.int z)) (own_ncR (hp _ (own_chm cs ii hii))), N2, eq2⟩
theorem d15_0 : decode jdk_42_method_56_code 0 = .ok (.aload_n 0, 1) := by decide +kernel
theorem d15_1 : decode jdk_42_method_56_code 1 = .ok (.invokevirtual 492, 3) := by decide +kernel
theorem d15_4 : decode jdk_42_method_56_code 4 = .ok (.ifCond .eq 12, 3) := by decide +kernel
theorem d15_7 : decode jdk_42_method_56_code 7 = .ok (.aload_n 0, 1) := by decide +kernel
theorem d15_8 : decode jdk_42_method_56_code 8 = .ok (.getfield 9, 3) := by decide +kernel
theorem d15_11 : decode jdk_42_method_56_code 11 = .ok (.iload_n 1, 1) := by decide +kernel
theorem d15_12 : decode jdk_42_method_56_code 12 = .ok (.invokestatic 495, 3) := by decide +kernel
theorem d15_15 : decode jdk_42_method_56_code 15 = .ok (.ireturn, 1) := by decide +kernel
theorem d15_16 : decode jdk_42_method_56_code 16 = .ok (.aload_n 0, 1) := by decide +kernel
theorem d15_17 : decode jdk_42_method_56_code 17 = .ok (.getfield 9, 3) := by decide +kernel
theorem d15_20 : decode jdk_42_method_56_code 20 = .ok (.iload_n 1, 1) := by decide +kernel
theorem d15_21 : decode jdk_42_method_56_code 21 = .ok (.invokestatic 498, 3) := by decide +kernel
theorem d15_24 : decode jdk_42_method_56_code 24 = .ok (.ireturn, 1) := by decide +kernel
theorem pd___Z : parseMethodDescriptor "()Z" = some ⟨[], some .boolean⟩ := by decide +kernel
theorem ef_chat (m : MethodId) (x0 : Addr) (x1 : Int32) : entryFrame m #[(.ref x0), (.int x1)] 2 = mkF m 0 #[rv x0, iv x1] [] := by first | (simp [entryFrame, mkF, argsToLocals, Value.category]; done) | rfl
def Q_chat (Z : State) (x : Addr) (cs : List Int32) (jj : Int32) (ii : Nat) (cz : Int32) (fm : Value) (h0 : Heap) (n0 : Nat) (v : Option Value) (h : Heap) (L : List Loc) : Prop := (v = some (.int (List.getD cs ii 0))) ∧ (Fr n0 L) ∧ (h = h0)
set_option maxRecDepth 65536 in
set_option maxHeartbeats 40000000 in
theorem rm_chat (l : Launch) (Z : State) (a0 : Array Value) (hw : ∀ d ∈ tables_1, d.before a0 Z = true) (ws : List Jvm.Cond) (x : Addr) (cs : List Int32) (jj : Int32) (ii : Nat) (cz : Int32) (fm : Value) (h0 : Heap) (n0 : Nat) (O0 : Old Z n0 h0) (E_x : Exa Z h0 x "java/lang/String") (S : own_S Z h0 x cs) (hjj : jj = Int32.ofNat ii) (hii : ii < cs.length) (lcs : cs.length ≤ 4) (SC : Sta Z Z.heap "java/lang/String" "COMPACT_STRINGS" "Z" (.int cz)) (hcz : ¬ cz = (0 : Int32)) (SA : Sta Z Z.heap "java/lang/StringUTF16" "$assertionsDisabled" "Z" (.int (1 : Int32))) (SHI : Sta Z Z.heap "java/lang/StringUTF16" "HI_BYTE_SHIFT" "I" (.int (0 : Int32))) (SLO : Sta Z Z.heap "java/lang/StringUTF16" "LO_BYTE_SHIFT" "I" (.int (8 : Int32))) (SF : Sta Z Z.heap "jdk/internal/util/Preconditions" "SIOOBE_FORMATTER" "Ljava/util/function/BiFunction;" fm) (hfm : fm.isRef = true) :
    own_MF l own_m10 (Jvm.Cond.code own_m10 jdk_42_method_56_code 2 (some .char) :: ws) ({ frames := 4, cells := 0, slots := 0, locals := 53 } : Room) #[(.ref x), (.int jj)] Z h0 (Q_chat Z x cs jj ii cz fm h0 n0) := by
  refine own_met (own := "java/lang/String") (nme := "charAt") rfl rfl (plainFor_of_name pn_0) ?_
  intro p e s m below meth c s₁ hx hby hml hown hnm X0 e0 hret hlk hZ
  have N0 := Fr.nil n0
  rw [ef_chat m x jj]
  subst hjj
  obtain ⟨t, kt, FV, ⟨FC, VT, hp⟩ | ⟨FC, VT, hp⟩⟩ := S
  · refine own_st (T' := s₁) (g' := (mkF m 1 #[rv x, iv (Int32.ofNat ii)] [(.ref x)])) (fun _ k_ => XS.aloadN X0.here hx rfl (hb hby d15_0) rfl rfl  k_) ?_
    obtain ⟨cq1, kq1, q1a, q1b, q1c⟩ := isOf hZ e0 E_x
    obtain ⟨_, T1, L1, X1, hQ1, st1⟩ := own_callV X0 hx (y := own_m1) (z := own_m1) hown (mvT hZ (wd hw 72 rfl)) (mvT hZ (wd hw 73 rfl)) (notFace_of_selects (args := #[]) (mvT hZ (wd hw 75 rfl))) (mvT hZ (wd hw 75 rfl)) (mvT hZ (wd hw 74 rfl)) (by decide) (backOf (W := 0) (rm_isl0 l Z a0 hw [] x cz h0 n0 O0 E_x FC SC hcz) hZ (wd hw 76 rfl) (wd hw 17 rfl) (by decide) (by decide)) q1a q1c (g := (mkF m 1 #[rv x, iv (Int32.ofNat ii)] [(.ref x)])) rfl (by rw [hml]; rfl) (argsL := []) (rest := []) (lenOf pd___Z rfl) rfl (by show 2 * 0 + _ ≤ _; exact Nat.le_of_eq rfl) (hb hby d15_1) rfl e0 (by decide) (by decide) (c' := 0) (s' := 0) rfl rfl
    clear q1a q1b q1c kq1 cq1
    obtain ⟨rfl, Nq1, eq1⟩ := hQ1
    have N1 := Fr.app N0 Nq1
    refine own_st (T' := T1) (g' := (mkF m 4 #[rv x, iv (Int32.ofNat ii)] [(.int (1 : Int32))])) st1 ?_
    clear st1
    refine own_st (T' := T1) (g' := (mkF m 7 #[rv x, iv (Int32.ofNat ii)] [])) (fun _ k_ => XS.ifNo X1.here hx rfl (hb hby d15_4) rfl ((if0 _ _).trans (feq (by decide : ¬ ((1 : Int32) = (0 : Int32)))).1) k_) ?_
    refine own_st (T' := T1) (g' := (mkF m 8 #[rv x, iv (Int32.ofNat ii)] [(.ref x)])) (fun _ k_ => XS.aloadN X1.here hx rfl (hb hby d15_7) rfl rfl  k_) ?_
    obtain ⟨T2, X2, e2, st2⟩ := getF X1 hx hZ hown (host := "") (Or.inl (wd hw 34 rfl)) Via.refl eq1 FV (g := (mkF m 8 #[rv x, iv (Int32.ofNat ii)] [(.ref x)])) rfl rfl (hb hby d15_8)
    refine own_st (T' := T2) (g' := (mkF m 11 #[rv x, iv (Int32.ofNat ii)] [(.ref t)])) st2 ?_
    clear st2
    refine own_st (T' := T2) (g' := (mkF m 12 #[rv x, iv (Int32.ofNat ii)] [(.int (Int32.ofNat ii)), (.ref t)])) (fun _ k_ => XS.iloadN X2.here hx rfl (hb hby d15_11) rfl  k_) ?_
    obtain ⟨_, T3, L3, X3, hQ3, st3⟩ := own_callS X2 hx (y := own_m5) hown (mvT hZ (wd hw 77 rfl)) (mvT hZ (wd hw 78 rfl)) (mvT hZ (wd hw 79 rfl)) (mvT hZ (wd hw 80 rfl)) (by decide) (backOf (W := 0) (rm_l1ch l Z a0 hw [] t kt cs (Int32.ofNat ii) ii fm h0 n0 O0 VT rfl hii lcs hp SF hfm) hZ (wd hw 80 rfl) (wd hw 79 rfl) (by decide) (by decide)) (g := (mkF m 12 #[rv x, iv (Int32.ofNat ii)] [(.int (Int32.ofNat ii)), (.ref t)])) rfl (by rw [hml]; rfl) (argsL := [(.ref t), (.int (Int32.ofNat ii))]) (rest := []) (lenOf pd___BI_C rfl) rfl (by show 2 * 0 + _ ≤ _; exact Nat.le_of_eq rfl) (hb hby d15_12) rfl e2 (by decide) (by decide) (c' := 0) (s' := 0) rfl rfl
    obtain ⟨rfl, Nq3, eq3⟩ := hQ3
    have N3 := Fr.app N1 Nq3
    refine own_st (T' := T3) (g' := (mkF m 15 #[rv x, iv (Int32.ofNat ii)] [(.int (List.getD cs ii 0))])) st3 ?_
    clear st3
    exact own_retN X3 hx (t := .char) hret (by simp) hlk (hb hby d15_15) (by decide) (by decide) ⟨congrArg (fun z => some (Value.int z)) (own_nch (hp _ (own_chm cs ii hii))), N3, eq3⟩
  · refine own_st (T' := s₁) (g' := (mkF m 1 #[rv x, iv (Int32.ofNat ii)] [(.ref x)])) (fun _ k_ => XS.aloadN X0.here hx rfl (hb hby d15_0) rfl rfl  k_) ?_
    obtain ⟨cq4, kq4, q4a, q4b, q4c⟩ := isOf hZ e0 E_x
    obtain ⟨_, T4, L4, X4, hQ4, st4⟩ := own_callV X0 hx (y := own_m1) (z := own_m1) hown (mvT hZ (wd hw 72 rfl)) (mvT hZ (wd hw 73 rfl)) (notFace_of_selects (args := #[]) (mvT hZ (wd hw 75 rfl))) (mvT hZ (wd hw 75 rfl)) (mvT hZ (wd hw 74 rfl)) (by decide) (backOf (W := 0) (rm_isl1 l Z a0 hw [] x cz h0 n0 O0 E_x FC SC hcz) hZ (wd hw 76 rfl) (wd hw 17 rfl) (by decide) (by decide)) q4a q4c (g := (mkF m 1 #[rv x, iv (Int32.ofNat ii)] [(.ref x)])) rfl (by rw [hml]; rfl) (argsL := []) (rest := []) (lenOf pd___Z rfl) rfl (by show 2 * 0 + _ ≤ _; exact Nat.le_of_eq rfl) (hb hby d15_1) rfl e0 (by decide) (by decide) (c' := 0) (s' := 0) rfl rfl
    clear q4a q4b q4c kq4 cq4
    obtain ⟨rfl, Nq4, eq4⟩ := hQ4
    have N4 := Fr.app N0 Nq4
    refine own_st (T' := T4) (g' := (mkF m 4 #[rv x, iv (Int32.ofNat ii)] [(.int (0 : Int32))])) st4 ?_
    clear st4
    refine own_st (T' := T4) (g' := (mkF m 16 #[rv x, iv (Int32.ofNat ii)] [])) (fun _ k_ => XS.ifYes X4.here hx rfl (pc0 := 4) (pc' := 16) rfl (hb hby d15_4) rfl ((if0 _ _).trans (teq (rfl : (0 : Int32) = (0 : Int32))).1) (by decide) (by decide) k_) ?_
    refine own_st (T' := T4) (g' := (mkF m 17 #[rv x, iv (Int32.ofNat ii)] [(.ref x)])) (fun _ k_ => XS.aloadN X4.here hx rfl (hb hby d15_16) rfl rfl  k_) ?_
    obtain ⟨T5, X5, e5, st5⟩ := getF X4 hx hZ hown (host := "") (Or.inl (wd hw 34 rfl)) Via.refl eq4 FV (g := (mkF m 17 #[rv x, iv (Int32.ofNat ii)] [(.ref x)])) rfl rfl (hb hby d15_17)
    refine own_st (T' := T5) (g' := (mkF m 20 #[rv x, iv (Int32.ofNat ii)] [(.ref t)])) st5 ?_
    clear st5
    refine own_st (T' := T5) (g' := (mkF m 21 #[rv x, iv (Int32.ofNat ii)] [(.int (Int32.ofNat ii)), (.ref t)])) (fun _ k_ => XS.iloadN X5.here hx rfl (hb hby d15_20) rfl  k_) ?_
    obtain ⟨_, T6, L6, X6, hQ6, st6⟩ := own_callS X5 hx (y := own_m9) hown (mvT hZ (wd hw 118 rfl)) (mvT hZ (wd hw 119 rfl)) (mvT hZ (wd hw 59 rfl)) (mvT hZ (wd hw 120 rfl)) (by decide) (backOf (W := 0) (rm_u1ch l Z a0 hw [] t kt cs (Int32.ofNat ii) ii fm h0 n0 O0 VT rfl hii lcs hp SA SHI SLO SF hfm) hZ (wd hw 120 rfl) (wd hw 59 rfl) (by decide) (by decide)) (g := (mkF m 21 #[rv x, iv (Int32.ofNat ii)] [(.int (Int32.ofNat ii)), (.ref t)])) rfl (by rw [hml]; rfl) (argsL := [(.ref t), (.int (Int32.ofNat ii))]) (rest := []) (lenOf pd___BI_C rfl) rfl (by show 2 * 0 + _ ≤ _; exact Nat.le_of_eq rfl) (hb hby d15_21) rfl e5 (by decide) (by decide) (c' := 0) (s' := 0) rfl rfl
    obtain ⟨rfl, Nq6, eq6⟩ := hQ6
    have N6 := Fr.app N4 Nq6
    refine own_st (T' := T6) (g' := (mkF m 24 #[rv x, iv (Int32.ofNat ii)] [(.int (List.getD cs ii 0))])) st6 ?_
    clear st6
    exact own_retN X6 hx (t := .char) hret (by simp) hlk (hb hby d15_24) (by decide) (by decide) ⟨congrArg (fun z => some (Value.int z)) (own_ncR (hp _ (own_chm cs ii hii))), N6, eq6⟩
theorem d25_0 : decode jdk_52_method_4_code 0 = .ok (.getstatic 44, 3) := by decide +kernel
theorem d25_3 : decode jdk_52_method_4_code 3 = .ok (.ifCond .ne 25, 3) := by decide +kernel
theorem d25_28 : decode jdk_52_method_4_code 28 = .ok (.iload_n 1, 1) := by decide +kernel
theorem d25_29 : decode jdk_52_method_4_code 29 = .ok (.iconst 1, 1) := by decide +kernel
theorem d25_30 : decode jdk_52_method_4_code 30 = .ok (.ishl, 1) := by decide +kernel
theorem d25_31 : decode jdk_52_method_4_code 31 = .ok (.istore_n 1, 1) := by decide +kernel
theorem d25_32 : decode jdk_52_method_4_code 32 = .ok (.aload_n 0, 1) := by decide +kernel
theorem d25_33 : decode jdk_52_method_4_code 33 = .ok (.iload_n 1, 1) := by decide +kernel
theorem d25_34 : decode jdk_52_method_4_code 34 = .ok (.iinc 1 1, 3) := by decide +kernel
theorem d25_37 : decode jdk_52_method_4_code 37 = .ok (.iload_n 2, 1) := by decide +kernel
theorem d25_38 : decode jdk_52_method_4_code 38 = .ok (.getstatic 59, 3) := by decide +kernel
theorem d25_41 : decode jdk_52_method_4_code 41 = .ok (.ishr, 1) := by decide +kernel
theorem d25_42 : decode jdk_52_method_4_code 42 = .ok (.i2b, 1) := by decide +kernel
theorem d25_43 : decode jdk_52_method_4_code 43 = .ok (.bastore, 1) := by decide +kernel
theorem d25_44 : decode jdk_52_method_4_code 44 = .ok (.aload_n 0, 1) := by decide +kernel
theorem d25_45 : decode jdk_52_method_4_code 45 = .ok (.iload_n 1, 1) := by decide +kernel
theorem d25_46 : decode jdk_52_method_4_code 46 = .ok (.iload_n 2, 1) := by decide +kernel
theorem d25_47 : decode jdk_52_method_4_code 47 = .ok (.getstatic 63, 3) := by decide +kernel
theorem d25_50 : decode jdk_52_method_4_code 50 = .ok (.ishr, 1) := by decide +kernel
theorem d25_51 : decode jdk_52_method_4_code 51 = .ok (.i2b, 1) := by decide +kernel
theorem d25_52 : decode jdk_52_method_4_code 52 = .ok (.bastore, 1) := by decide +kernel
theorem d25_53 : decode jdk_52_method_4_code 53 = .ok (.return_, 1) := by decide +kernel
theorem ef_putc (m : MethodId) (x0 : Addr) (x1 : Int32) (x2 : Int32) : entryFrame m #[(.ref x0), (.int x1), (.int x2)] 3 = mkF m 0 #[rv x0, iv x1, iv x2] [] := by first | (simp [entryFrame, mkF, argsToLocals, Value.category]; done) | rfl
def Q_putc (Z : State) (t : Addr) (kt : ClassId) (z : Int32) (vs : List Value) (jj : Int32) (j : Nat) (cc : Int32) (h0 : Heap) (n0 : Nat) (v : Option Value) (h : Heap) (L : List Loc) : Prop := (v = none) ∧ (Fr n0 L) ∧ (Keep h0 h [t]) ∧ (Arv Z h t kt .byte z (List.set (List.set vs j (.int (own_l16 cc))) (j + 1) (.int (own_h16 cc))) (.int (0 : Int32)))
set_option maxRecDepth 65536 in
set_option maxHeartbeats 40000000 in
theorem rm_putc (l : Launch) (Z : State) (a0 : Array Value) (hw : ∀ d ∈ tables_1, d.before a0 Z = true) (ws : List Jvm.Cond) (t : Addr) (kt : ClassId) (z : Int32) (vs : List Value) (jj : Int32) (j : Nat) (cc : Int32) (h0 : Heap) (n0 : Nat) (O0 : Old Z n0 h0) (VT : Arv Z h0 t kt .byte z vs (.int (0 : Int32))) (ft : n0 ≤ t) (hs : jj <<< ((1 : Int32) &&& 31) = Int32.ofNat j) (hj : j + 1 < vs.length) (hj8 : j ≤ 8) (hb0 : Int32.ofNat j < z) (hb1 : Int32.ofNat (j + 1) < z) (SA : Sta Z Z.heap "java/lang/StringUTF16" "$assertionsDisabled" "Z" (.int (1 : Int32))) (SHI : Sta Z Z.heap "java/lang/StringUTF16" "HI_BYTE_SHIFT" "I" (.int (0 : Int32))) (SLO : Sta Z Z.heap "java/lang/StringUTF16" "LO_BYTE_SHIFT" "I" (.int (8 : Int32))) :
    own_MF l own_m11 (Jvm.Cond.code own_m11 jdk_52_method_4_code 3 none :: ws) ({ frames := 0, cells := 0, slots := 0, locals := 0 } : Room) #[(.ref t), (.int jj), (.int cc)] Z h0 (Q_putc Z t kt z vs jj j cc h0 n0) := by
  refine own_met (own := "java/lang/StringUTF16") (nme := "putChar") rfl rfl (plainFor_of_name pn_3) ?_
  intro p e s m below meth c s₁ hx hby hml hown hnm X0 e0 hret hlk hZ
  have N0 := Fr.nil n0
  rw [ef_putc m t jj cc]
  obtain ⟨T1, X1, e1, st1⟩ := getS2 X0 hx hZ hown (host := "") (Or.inl (wd hw 112 rfl)) Via.refl e0 (SA.ext O0.2) (g := (mkF m 0 #[rv t, iv jj, iv cc] [])) rfl (hb hby d25_0)
  refine own_st (T' := T1) (g' := (mkF m 3 #[rv t, iv jj, iv cc] [(.int (1 : Int32))])) st1 ?_
  clear st1
  refine own_st (T' := T1) (g' := (mkF m 28 #[rv t, iv jj, iv cc] [])) (fun _ k_ => XS.ifYes X1.here hx rfl (pc0 := 3) (pc' := 28) rfl (hb hby d25_3) rfl ((if0 _ _).trans (feq (by decide : ¬ ((1 : Int32) = (0 : Int32)))).2) (by decide) (by decide) k_) ?_
  refine own_st (T' := T1) (g' := (mkF m 29 #[rv t, iv jj, iv cc] [(.int jj)])) (fun _ k_ => XS.iloadN X1.here hx rfl (hb hby d25_28) rfl  k_) ?_
  refine own_st (T' := T1) (g' := (mkF m 30 #[rv t, iv jj, iv cc] [(.int (1 : Int32)), (.int jj)])) (fun _ k_ => XS.iconst X1.here hx rfl (hb hby d25_29) k_) ?_
  refine own_st (T' := T1) (g' := (mkF m 31 #[rv t, iv jj, iv cc] [(.int (jj <<< ((1 : Int32) &&& 31)))])) (fun _ k_ => XS.ishl X1.here hx rfl (hb hby d25_30) rfl k_) ?_
  rw [hs]
  refine own_st (T' := T1) (g' := (mkF m 32 #[rv t, iv (Int32.ofNat j), iv cc] [])) (fun _ k_ => XS.istoreN X1.here hx rfl (hb hby d25_31) rfl (l' := #[rv t, iv (Int32.ofNat j), iv cc]) rfl k_) ?_
  refine own_st (T' := T1) (g' := (mkF m 33 #[rv t, iv (Int32.ofNat j), iv cc] [(.ref t)])) (fun _ k_ => XS.aloadN X1.here hx rfl (hb hby d25_32) rfl rfl  k_) ?_
  refine own_st (T' := T1) (g' := (mkF m 34 #[rv t, iv (Int32.ofNat j), iv cc] [(.int (Int32.ofNat j)), (.ref t)])) (fun _ k_ => XS.iloadN X1.here hx rfl (hb hby d25_33) rfl  k_) ?_
  refine own_st (T' := T1) (g' := (mkF m 37 #[rv t, iv ((Int32.ofNat j) + (1 : Int32)), iv cc] [(.int (Int32.ofNat j)), (.ref t)])) (fun _ k_ => XS.iinc X1.here hx rfl (hb hby d25_34) rfl (l' := #[rv t, iv ((Int32.ofNat j) + (1 : Int32)), iv cc]) rfl k_) ?_
  refine own_st (T' := T1) (g' := (mkF m 38 #[rv t, iv ((Int32.ofNat j) + (1 : Int32)), iv cc] [(.int cc), (.int (Int32.ofNat j)), (.ref t)])) (fun _ k_ => XS.iloadN X1.here hx rfl (hb hby d25_37) rfl  k_) ?_
  obtain ⟨T2, X2, e2, st2⟩ := getS2 X1 hx hZ hown (host := "") (Or.inl (wd hw 113 rfl)) Via.refl e1 (SHI.ext O0.2) (g := (mkF m 38 #[rv t, iv ((Int32.ofNat j) + (1 : Int32)), iv cc] [(.int cc), (.int (Int32.ofNat j)), (.ref t)])) rfl (hb hby d25_38)
  refine own_st (T' := T2) (g' := (mkF m 41 #[rv t, iv ((Int32.ofNat j) + (1 : Int32)), iv cc] [(.int (0 : Int32)), (.int cc), (.int (Int32.ofNat j)), (.ref t)])) st2 ?_
  clear st2
  refine own_st (T' := T2) (g' := (mkF m 42 #[rv t, iv ((Int32.ofNat j) + (1 : Int32)), iv cc] [(.int (cc >>> ((0 : Int32) &&& 31))), (.int (Int32.ofNat j)), (.ref t)])) (fun _ k_ => XS.ishr X2.here hx rfl (hb hby d25_41) rfl k_) ?_
  refine own_st (T' := T2) (g' := (mkF m 43 #[rv t, iv ((Int32.ofNat j) + (1 : Int32)), iv cc] [(.int ((cc >>> ((0 : Int32) &&& 31)).toInt8.toInt32)), (.int (Int32.ofNat j)), (.ref t)])) (fun _ k_ => XS.i2b X2.here hx rfl (hb hby d25_42) rfl k_) ?_
  obtain ⟨cl3, Ar3, q3, S3, N3, H3, G3⟩ := id VT
  have hin3 : ¬ ((Int32.ofNat j) < 0 ∨ cl3.slots.size ≤ ((Int32.ofNat j)).toNatClampNeg) := inb_of S3 ⟨own_on0 (by omega), hb0⟩
  obtain ⟨T4, h4, X4, e4, W4, st4⟩ := stB X2 hx hZ e2 Ar3 (j := (Int32.ofNat j)) hin3 (g := (mkF m 43 #[rv t, iv ((Int32.ofNat j) + (1 : Int32)), iv cc] [(.int ((cc >>> ((0 : Int32) &&& 31)).toInt8.toInt32)), (.int (Int32.ofNat j)), (.ref t)])) rfl rfl (hb hby d25_43)
  have V4 : Arv Z h4 t kt .byte z (List.set vs j (.int (own_l16 cc))) (.int (0 : Int32)) := id (Arv.set Ar3 q3 S3 N3 H3 G3 (fits_nar_byte _) W4 j (own_onN (by omega)) (by omega))
  have Nx4 := Fr.snoc X4 N0 ft
  refine own_st (T' := T4) (g' := (mkF m 44 #[rv t, iv ((Int32.ofNat j) + (1 : Int32)), iv cc] [])) st4 ?_
  clear hin3 G3 H3 N3 S3 q3 Ar3 cl3 st4
  refine own_st (T' := T4) (g' := (mkF m 45 #[rv t, iv ((Int32.ofNat j) + (1 : Int32)), iv cc] [(.ref t)])) (fun _ k_ => XS.aloadN X4.here hx rfl (hb hby d25_44) rfl rfl  k_) ?_
  refine own_st (T' := T4) (g' := (mkF m 46 #[rv t, iv ((Int32.ofNat j) + (1 : Int32)), iv cc] [(.int ((Int32.ofNat j) + (1 : Int32))), (.ref t)])) (fun _ k_ => XS.iloadN X4.here hx rfl (hb hby d25_45) rfl  k_) ?_
  rw [own_on1 (by omega)]
  refine own_st (T' := T4) (g' := (mkF m 47 #[rv t, iv (Int32.ofNat (j + 1)), iv cc] [(.int cc), (.int (Int32.ofNat (j + 1))), (.ref t)])) (fun _ k_ => XS.iloadN X4.here hx rfl (hb hby d25_46) rfl  k_) ?_
  have f5 := O0.wr W4 ft
  obtain ⟨T6, X6, e6, st6⟩ := getS2 X4 hx hZ hown (host := "") (Or.inl (wd hw 114 rfl)) Via.refl e4 (SLO.ext f5.2) (g := (mkF m 47 #[rv t, iv (Int32.ofNat (j + 1)), iv cc] [(.int cc), (.int (Int32.ofNat (j + 1))), (.ref t)])) rfl (hb hby d25_47)
  refine own_st (T' := T6) (g' := (mkF m 50 #[rv t, iv (Int32.ofNat (j + 1)), iv cc] [(.int (8 : Int32)), (.int cc), (.int (Int32.ofNat (j + 1))), (.ref t)])) st6 ?_
  clear st6
  refine own_st (T' := T6) (g' := (mkF m 51 #[rv t, iv (Int32.ofNat (j + 1)), iv cc] [(.int (cc >>> ((8 : Int32) &&& 31))), (.int (Int32.ofNat (j + 1))), (.ref t)])) (fun _ k_ => XS.ishr X6.here hx rfl (hb hby d25_50) rfl k_) ?_
  refine own_st (T' := T6) (g' := (mkF m 52 #[rv t, iv (Int32.ofNat (j + 1)), iv cc] [(.int ((cc >>> ((8 : Int32) &&& 31)).toInt8.toInt32)), (.int (Int32.ofNat (j + 1))), (.ref t)])) (fun _ k_ => XS.i2b X6.here hx rfl (hb hby d25_51) rfl k_) ?_
  obtain ⟨cl7, Ar7, q7, S7, N7, H7, G7⟩ := id V4
  have hin7 : ¬ ((Int32.ofNat (j + 1)) < 0 ∨ cl7.slots.size ≤ ((Int32.ofNat (j + 1))).toNatClampNeg) := inb_of S7 ⟨own_on0 (by omega), hb1⟩
  obtain ⟨T8, h8, X8, e8, W8, st8⟩ := stB X6 hx hZ e6 Ar7 (j := (Int32.ofNat (j + 1))) hin7 (g := (mkF m 52 #[rv t, iv (Int32.ofNat (j + 1)), iv cc] [(.int ((cc >>> ((8 : Int32) &&& 31)).toInt8.toInt32)), (.int (Int32.ofNat (j + 1))), (.ref t)])) rfl rfl (hb hby d25_52)
  have V8 : Arv Z h8 t kt .byte z (List.set (List.set vs j (.int (own_l16 cc))) (j + 1) (.int (own_h16 cc))) (.int (0 : Int32)) := id (Arv.set Ar7 q7 S7 N7 H7 G7 (fits_nar_byte _) W8 (j + 1) (own_onN (by omega)) (by rw [List.length_set]; omega))
  have Nx8 := Fr.snoc X8 Nx4 ft
  refine own_st (T' := T8) (g' := (mkF m 53 #[rv t, iv (Int32.ofNat (j + 1)), iv cc] [])) st8 ?_
  clear hin7 G7 H7 N7 S7 q7 Ar7 cl7 st8
  have f9 := (Keep.refl h0 [t]).wr W4 (Or.inl (List.mem_of_getElem? (i := 0) rfl))
  have f10 := f9.wr W8 (Or.inl (List.mem_of_getElem? (i := 0) rfl))
  exact own_retV X8 hx hret hlk (hb hby d25_53) (by decide) (by decide) (by rw [e8]; exact ⟨rfl, Nx8, f10, V8⟩)
theorem d5_0 : decode jdk_42_method_149_code 0 = .ok (.aload_n 0, 1) := by decide +kernel
theorem d5_1 : decode jdk_42_method_149_code 1 = .ok (.invokespecial 1, 3) := by decide +kernel
theorem d5_4 : decode jdk_42_method_149_code 4 = .ok (.iload_n 3, 1) := by decide +kernel
theorem d5_5 : decode jdk_42_method_149_code 5 = .ok (.ifCond .ne 22, 3) := by decide +kernel
theorem d5_8 : decode jdk_42_method_149_code 8 = .ok (.aload_n 0, 1) := by decide +kernel
theorem d5_9 : decode jdk_42_method_149_code 9 = .ok (.ldc 7, 2) := by decide +kernel
theorem d5_11 : decode jdk_42_method_149_code 11 = .ok (.getfield 9, 3) := by decide +kernel
theorem d5_14 : decode jdk_42_method_149_code 14 = .ok (.putfield 9, 3) := by decide +kernel
theorem d5_17 : decode jdk_42_method_149_code 17 = .ok (.aload_n 0, 1) := by decide +kernel
theorem d5_18 : decode jdk_42_method_149_code 18 = .ok (.ldc 7, 2) := by decide +kernel
theorem d5_20 : decode jdk_42_method_149_code 20 = .ok (.getfield 15, 3) := by decide +kernel
theorem d5_23 : decode jdk_42_method_149_code 23 = .ok (.putfield 15, 3) := by decide +kernel
theorem d5_26 : decode jdk_42_method_149_code 26 = .ok (.return_, 1) := by decide +kernel
theorem ef_ini4_0 (m : MethodId) (x0 : Addr) (x1 : Addr) (x2 : Int32) (x3 : Int32) : entryFrame m #[(.ref x0), (.ref x1), (.int x2), (.int x3), .null] 6 = mkF m 0 #[rv x0, rv x1, iv x2, iv x3, .val .null, .unset] [] := by first | (simp [entryFrame, mkF, argsToLocals, Value.category]; done) | rfl
def Q_ini4_0 (Z : State) (a : Addr) (va : Addr) (kc : ClassId) (h0 : Heap) (n0 : Nat) (v : Option Value) (h : Heap) (L : List Loc) : Prop := ∃ (t : Addr) (kb : ClassId), (v = none) ∧ (Fr n0 L) ∧ (Keep h0 h [a]) ∧ (Exa Z h a "java/lang/String") ∧ (Fld Z h a "java/lang/String" "coder" "B" (.int (0 : Int32))) ∧ (Fld Z h a "java/lang/String" "value" "[B" (.ref t)) ∧ (Arv Z h t kb .byte (0 : Int32) [] (.int (0 : Int32)))
set_option maxRecDepth 65536 in
set_option maxHeartbeats 40000000 in
theorem rm_ini4_0 (l : Launch) (Z : State) (a0 : Array Value) (hw : ∀ d ∈ tables_1, d.before a0 Z = true) (ws : List Jvm.Cond) (a : Addr) (va : Addr) (kc : ClassId) (h0 : Heap) (n0 : Nat) (O0 : Old Z n0 h0) (EA : Exa Z h0 a "java/lang/String") (FV : Fld Z h0 a "java/lang/String" "value" "[B" .null) (FC : Fld Z h0 a "java/lang/String" "coder" "B" (.int (0 : Int32))) (fa : n0 ≤ a) (VA : Arv Z h0 va kc .char (0 : Int32) [] (.int (0 : Int32))) :
    MetFree l own_m12 (head1 (Jvm.Cond.code own_m12 jdk_42_method_149_code 6 none :: ws) ({ frames := 1, cells := 4, slots := 8, locals := 12 } : Room)) (fun ar_ U => ar_ = #[(.ref a), (.ref va), (.int (0 : Int32)), (.int (0 : Int32)), .null] ∧ Z.Warmed39 U.vm ∧ U.heap = h0 ∧ CHv Z consts_1 U.vm h0 ∧ ∀ x ∈ ([a] : List Addr), Safe Z consts_1 U.vm h0 x) (fun _ _ _ _ _ => True) (fun _ U o U' => ∃ v L, o = .returned v ∧ Q_ini4_0 Z a va kc h0 n0 v U'.heap L ∧ CHr Z consts_1 U.vm U.heap U'.vm U'.heap ∧ ReturnedEndW U o U' L ({ frames := 1, cells := 4, slots := 8, locals := 12 } : Room).cells ({ frames := 1, cells := 4, slots := 8, locals := 12 } : Room).slots) := by
  refine MetFree.of_bodySF (plainFor_of_name pn_0) hisR ?_
  intro p e s m args below meth c s₁ Bd hml0 hP hK
  obtain ⟨rfl, hZ, hh, CH0, SF0⟩ := hP
  have hx := Bd.exec
  have hby := Bd.bytes
  have hml : c.maxLocals = 6 := hml0
  have hown : s.vm.findClass "java/lang/String" = some m.cls := findClass_of_methodNamed Bd.named
  have hnm := (name_of_methodNamed Bd.named Bd.method).1
  have X0 : Stand p l e ({ frames := 1, cells := 4, slots := 8, locals := 12 } : Room) (s.setVm s.vm) m #[(.ref a), (.ref va), (.int (0 : Int32)), (.int (0 : Int32)), .null] below meth c s₁ [] 0 0 := Stand.of_body Bd
  have e0 : s₁.heap = h0 := by rw [← hh, Bd.state]; rfl
  have N0 := Fr.nil n0
  have hret := Bd.returns
  have hlk : meth.locks = false := Bd.notSynchronized
  have hEL := own_EW hw
  have hZs := hZ
  have howns := hown
  have hS0 : s.Since s.vm s.heap.size := (State.WarmedH.refl s).since _
  have hk0 : s.heap.size ≤ h0.size := Nat.le_of_eq (by rw [hh])
  have CR0 := CHr.refl CH0
  have sf_a := SF0 _ (List.mem_of_getElem? (i := 0) rfl)
  refine own_W0 hh ?_
  show own_W p e below s ({ frames := 1, cells := 4, slots := 8, locals := 12 } : Room).cells ({ frames := 1, cells := 4, slots := 8, locals := 12 } : Room).slots Z consts_1 h0 (Q_ini4_0 Z a va kc h0 n0) s₁ (entryFrame m #[(.ref a), (.ref va), (.int (0 : Int32)), (.int (0 : Int32)), .null] 6)
  rw [ef_ini4_0 m a va (0 : Int32) (0 : Int32)]
  refine own_stW (T' := s₁) (g' := (mkF m 1 #[rv a, rv va, iv (0 : Int32), iv (0 : Int32), .val .null, .unset] [(.ref a)])) (fun _ k_ => XS.aloadN X0.here hx rfl (hb hby d5_0) rfl rfl  k_) ?_
  obtain ⟨T1, X1, e1, st1⟩ := initO X0 hx hZ hown (wd hw 25 rfl) (wd hw 26 rfl) (wd hw 27 rfl) e0 (g := (mkF m 1 #[rv a, rv va, iv (0 : Int32), iv (0 : Int32), .val .null, .unset] [(.ref a)])) rfl (by rw [hml]; rfl) rfl (hb hby d5_1) (by decide) (W := 0) (by show 2 * 0 + _ ≤ _; exact Nat.le_of_eq rfl) (by decide)
  refine own_stW (T' := T1) (g' := (mkF m 4 #[rv a, rv va, iv (0 : Int32), iv (0 : Int32), .val .null, .unset] [])) st1 ?_
  clear st1
  refine own_stW (T' := T1) (g' := (mkF m 5 #[rv a, rv va, iv (0 : Int32), iv (0 : Int32), .val .null, .unset] [(.int (0 : Int32))])) (fun _ k_ => XS.iloadN X1.here hx rfl (hb hby d5_4) rfl  k_) ?_
  refine own_stW (T' := T1) (g' := (mkF m 8 #[rv a, rv va, iv (0 : Int32), iv (0 : Int32), .val .null, .unset] [])) (fun _ k_ => XS.ifNo X1.here hx rfl (hb hby d5_5) rfl ((if0 _ _).trans (teq (rfl : (0 : Int32) = (0 : Int32))).2) k_) ?_
  refine own_stW (T' := T1) (g' := (mkF m 9 #[rv a, rv va, iv (0 : Int32), iv (0 : Int32), .val .null, .unset] [(.ref a)])) (fun _ k_ => XS.aloadN X1.here hx rfl (hb hby d5_8) rfl rfl  k_) ?_
  obtain ⟨a2, T2, h2, k2, b2, kb2, X2, e2, E2, hS2, hk2, hZ2, hown2, A2, C2, V2, R2, la2, lb2, ch2, Lt2, nl2, st2⟩ := ldcCH X1 hx hZ hown (wd hw 28 rfl) (own_wS hw) e1 hS0 hk0 hEL (List.mem_of_getElem? (i := 0) rfl) CR0.1 (vs := []) (z := (0 : Int32)) ⟨by decide, by decide⟩ (by decide) (by decide) (g := (mkF m 9 #[rv a, rv va, iv (0 : Int32), iv (0 : Int32), .val .null, .unset] [(.ref a)])) rfl (hb hby d5_9) (n := 0) (by decide) (by decide) (by decide) (by decide)
  have CR3 := CR0.trans ch2
  have sf4 : Safe Z consts_1 T2.vm h2 a := ch2.safe EA.lt sf_a
  refine own_stW (T' := T2) (g' := (mkF m 11 #[rv a, rv va, iv (0 : Int32), iv (0 : Int32), .val .null, .unset] [(.ref a2), (.ref a)])) st2 ?_
  clear st2
  obtain ⟨T5, X5, e5, st5⟩ := getF X2 hx hZ2 hown2 (host := "") (Or.inl (wd hw 34 rfl)) Via.refl e2 V2 (g := (mkF m 11 #[rv a, rv va, iv (0 : Int32), iv (0 : Int32), .val .null, .unset] [(.ref a2), (.ref a)])) rfl rfl (hb hby d5_11)
  refine own_stW (T' := T5) (g' := (mkF m 14 #[rv a, rv va, iv (0 : Int32), iv (0 : Int32), .val .null, .unset] [(.ref b2), (.ref a)])) st5 ?_
  clear st5
  have f6 := EA.ext E2
  have f7 := FV.ext E2
  obtain ⟨T8, h8, X8, e8, W8, st8⟩ := putF X5 hx hZ2 hown2 (host := "") (Or.inl (wd hw 34 rfl)) Via.refl e5 f7 f6 (Or.inr ⟨(wd hw 30 rfl), rfl, hnm⟩) (wd hw 16 rfl) (ty := (.array .byte)) (by decide) rfl rfl (g := (mkF m 14 #[rv a, rv va, iv (0 : Int32), iv (0 : Int32), .val .null, .unset] [(.ref b2), (.ref a)])) rfl rfl (hb hby d5_14)
  have CR9 := CR3.trans (CHr.wr W8 sf4 CR3.1)
  have sf10 : Safe Z consts_1 T2.vm h8 a := Safe.wr W8 sf4 CR3.1 sf4
  have Fw8 : Fld Z h8 a "java/lang/String" "value" "[B" (.ref b2) := Fld.same W8 f7
  have N8 := Fr.snoc X8 N0 fa
  refine own_stW (T' := T8) (g' := (mkF m 17 #[rv a, rv va, iv (0 : Int32), iv (0 : Int32), .val .null, .unset] [])) st8 ?_
  clear st8
  refine own_stW (T' := T8) (g' := (mkF m 18 #[rv a, rv va, iv (0 : Int32), iv (0 : Int32), .val .null, .unset] [(.ref a)])) (fun _ k_ => XS.aloadN X8.here hx rfl (hb hby d5_17) rfl rfl  k_) ?_
  obtain ⟨a11, T11, h11, k11, b11, kb11, X11, e11, E11, hS11, hk11, hZ11, hown11, A11, C11, V11, R11, la11, lb11, ch11, Lt11, nl11, st11⟩ := ldcCH X8 hx hZ2 hown2 (wd hw 28 rfl) (own_wS hw) e8 hS2 (Nat.le_trans hk2 (Nat.le_of_eq (Wr.size W8).symm)) hEL (List.mem_of_getElem? (i := 0) rfl) CR9.1 (vs := []) (z := (0 : Int32)) ⟨by decide, by decide⟩ (by decide) (by decide) (g := (mkF m 18 #[rv a, rv va, iv (0 : Int32), iv (0 : Int32), .val .null, .unset] [(.ref a)])) rfl (hb hby d5_18) (n := 0) (by decide) (by decide) (by decide) (by decide)
  have CR12 := CR9.trans ch11
  have sf13 : Safe Z consts_1 T11.vm h11 a := ch11.safe (Nat.lt_of_lt_of_le (Nat.lt_of_lt_of_le EA.lt E2.1) (Nat.le_of_eq (Wr.size W8).symm)) sf10
  refine own_stW (T' := T11) (g' := (mkF m 20 #[rv a, rv va, iv (0 : Int32), iv (0 : Int32), .val .null, .unset] [(.ref a11), (.ref a)])) st11 ?_
  clear st11
  obtain ⟨T14, X14, e14, st14⟩ := getF X11 hx hZ11 hown11 (host := "") (Or.inl (wd hw 35 rfl)) Via.refl e11 C11 (g := (mkF m 20 #[rv a, rv va, iv (0 : Int32), iv (0 : Int32), .val .null, .unset] [(.ref a11), (.ref a)])) rfl rfl (hb hby d5_20)
  refine own_stW (T' := T14) (g' := (mkF m 23 #[rv a, rv va, iv (0 : Int32), iv (0 : Int32), .val .null, .unset] [(.int (0 : Int32)), (.ref a)])) st14 ?_
  clear st14
  have f15 := f6.wr W8
  have f16 := f15.ext E11
  have f17 := FC.ext E2
  have f18 := f17.other W8 (Or.inr (slot_ne (Or.inr (wd hw 31 rfl)) (Or.inr (wd hw 30 rfl)) (by decide) (t := .byte) (t' := (.array .byte)) (by decide) (by decide)))
  have f19 := f18.ext E11
  obtain ⟨T20, h20, X20, e20, W20, st20⟩ := putFN X14 hx hZ11 hown11 (wd hw 35 rfl) Via.refl e14 f19 f16 (Or.inr ⟨(wd hw 31 rfl), rfl, hnm⟩) (wd hw 16 rfl) (ty := .byte) (v' := (.int (0 : Int32))) (by decide) rfl (by decide) (g := (mkF m 23 #[rv a, rv va, iv (0 : Int32), iv (0 : Int32), .val .null, .unset] [(.int (0 : Int32)), (.ref a)])) rfl rfl (hb hby d5_23)
  have CR21 := CR12.trans (CHr.wr W20 sf13 CR12.1)
  have sf22 : Safe Z consts_1 T11.vm h20 a := Safe.wr W20 sf13 CR12.1 sf13
  have Fw20 : Fld Z h20 a "java/lang/String" "coder" "B" (.int (0 : Int32)) := Fld.same W20 f19
  have N20 := Fr.snoc X20 N8 fa
  refine own_stW (T' := T20) (g' := (mkF m 26 #[rv a, rv va, iv (0 : Int32), iv (0 : Int32), .val .null, .unset] [])) st20 ?_
  clear st20
  have f23 := (Keep.refl h0 [a]).ext E2
  have f24 := f23.wr W8 (Or.inl (List.mem_of_getElem? (i := 0) rfl))
  have f25 := f24.ext E11
  have f26 := f25.wr W20 (Or.inl (List.mem_of_getElem? (i := 0) rfl))
  have f27 := f16.wr W20
  have f28 := Fw8.ext E11
  have f29 := f28.other W20 (Or.inr (slot_ne (Or.inr (wd hw 30 rfl)) (Or.inr (wd hw 31 rfl)) (by decide) (t := (.array .byte)) (t' := .byte) (by decide) (by decide)))
  have f30 := R2.other W8 (Ne.symm (nl2 _ sf4).2)
  have f31 := f30.ext E11
  have f32 := f31.other W20 (Ne.symm (nl2 _ sf4).2)
  exact own_retVW X20 hZ11 hS11 (by rw [e20]; exact (Nat.le_trans hk11 (Nat.le_of_eq (Wr.size W20).symm))) hEL (by rw [e20]; exact CR21) hx hret hlk (hb hby d5_26) (by decide) (by decide) (by rw [e20]; exact ⟨b2, kb2, rfl, N20, f26, f27, Fw20, f29, f32⟩)
theorem d4_0 : decode jdk_42_method_3_code 0 = .ok (.aload_n 0, 1) := by decide +kernel
theorem d4_1 : decode jdk_42_method_3_code 1 = .ok (.aload_n 1, 1) := by decide +kernel
theorem d4_2 : decode jdk_42_method_3_code 2 = .ok (.iconst 0, 1) := by decide +kernel
theorem d4_3 : decode jdk_42_method_3_code 3 = .ok (.aload_n 1, 1) := by decide +kernel
theorem d4_4 : decode jdk_42_method_3_code 4 = .ok (.arraylength, 1) := by decide +kernel
theorem d4_5 : decode jdk_42_method_3_code 5 = .ok (.aconst_null, 1) := by decide +kernel
theorem d4_6 : decode jdk_42_method_3_code 6 = .ok (.invokespecial 27, 3) := by decide +kernel
theorem d4_9 : decode jdk_42_method_3_code 9 = .ok (.return_, 1) := by decide +kernel
theorem pd___CIILjava_lang_Void__V : parseMethodDescriptor "([CIILjava/lang/Void;)V" = some ⟨[(.array .char), .int, .int, (.object "java/lang/Void")], none⟩ := by decide +kernel
theorem ef_ini1_0 (m : MethodId) (x0 : Addr) (x1 : Addr) : entryFrame m #[(.ref x0), (.ref x1)] 2 = mkF m 0 #[rv x0, rv x1] [] := by first | (simp [entryFrame, mkF, argsToLocals, Value.category]; done) | rfl
def Q_ini1_0 (Z : State) (a : Addr) (va : Addr) (kc : ClassId) (h0 : Heap) (n0 : Nat) (v : Option Value) (h : Heap) (L : List Loc) : Prop := ∃ (t : Addr) (kb : ClassId), (v = none) ∧ (Fr n0 L) ∧ (Keep h0 h [a]) ∧ (Exa Z h a "java/lang/String") ∧ (Fld Z h a "java/lang/String" "coder" "B" (.int (0 : Int32))) ∧ (Fld Z h a "java/lang/String" "value" "[B" (.ref t)) ∧ (Arv Z h t kb .byte (0 : Int32) [] (.int (0 : Int32)))
set_option maxRecDepth 65536 in
set_option maxHeartbeats 40000000 in
theorem rm_ini1_0 (l : Launch) (Z : State) (a0 : Array Value) (hw : ∀ d ∈ tables_1, d.before a0 Z = true) (ws : List Jvm.Cond) (a : Addr) (va : Addr) (kc : ClassId) (h0 : Heap) (n0 : Nat) (O0 : Old Z n0 h0) (EA : Exa Z h0 a "java/lang/String") (FV : Fld Z h0 a "java/lang/String" "value" "[B" .null) (FC : Fld Z h0 a "java/lang/String" "coder" "B" (.int (0 : Int32))) (fa : n0 ≤ a) (VA : Arv Z h0 va kc .char (0 : Int32) [] (.int (0 : Int32))) :
    MetFree l own_m13 (head1 (Jvm.Cond.code own_m13 jdk_42_method_3_code 2 none :: ws) ({ frames := 2, cells := 4, slots := 8, locals := 29 } : Room)) (fun ar_ U => ar_ = #[(.ref a), (.ref va)] ∧ Z.Warmed39 U.vm ∧ U.heap = h0 ∧ CHv Z consts_1 U.vm h0 ∧ ∀ x ∈ ([a] : List Addr), Safe Z consts_1 U.vm h0 x) (fun _ _ _ _ _ => True) (fun _ U o U' => ∃ v L, o = .returned v ∧ Q_ini1_0 Z a va kc h0 n0 v U'.heap L ∧ CHr Z consts_1 U.vm U.heap U'.vm U'.heap ∧ ReturnedEndW U o U' L ({ frames := 2, cells := 4, slots := 8, locals := 29 } : Room).cells ({ frames := 2, cells := 4, slots := 8, locals := 29 } : Room).slots) := by
  refine MetFree.of_bodySF (plainFor_of_name pn_0) hisR ?_
  intro p e s m args below meth c s₁ Bd hml0 hP hK
  obtain ⟨rfl, hZ, hh, CH0, SF0⟩ := hP
  have hx := Bd.exec
  have hby := Bd.bytes
  have hml : c.maxLocals = 2 := hml0
  have hown : s.vm.findClass "java/lang/String" = some m.cls := findClass_of_methodNamed Bd.named
  have hnm := (name_of_methodNamed Bd.named Bd.method).1
  have X0 : Stand p l e ({ frames := 2, cells := 4, slots := 8, locals := 29 } : Room) (s.setVm s.vm) m #[(.ref a), (.ref va)] below meth c s₁ [] 0 0 := Stand.of_body Bd
  have e0 : s₁.heap = h0 := by rw [← hh, Bd.state]; rfl
  have N0 := Fr.nil n0
  have hret := Bd.returns
  have hlk : meth.locks = false := Bd.notSynchronized
  have hEL := own_EW hw
  have hZs := hZ
  have howns := hown
  have hS0 : s.Since s.vm s.heap.size := (State.WarmedH.refl s).since _
  have hk0 : s.heap.size ≤ h0.size := Nat.le_of_eq (by rw [hh])
  have CR0 := CHr.refl CH0
  have sf_a := SF0 _ (List.mem_of_getElem? (i := 0) rfl)
  refine own_W0 hh ?_
  show own_W p e below s ({ frames := 2, cells := 4, slots := 8, locals := 29 } : Room).cells ({ frames := 2, cells := 4, slots := 8, locals := 29 } : Room).slots Z consts_1 h0 (Q_ini1_0 Z a va kc h0 n0) s₁ (entryFrame m #[(.ref a), (.ref va)] 2)
  rw [ef_ini1_0 m a va]
  refine own_stW (T' := s₁) (g' := (mkF m 1 #[rv a, rv va] [(.ref a)])) (fun _ k_ => XS.aloadN X0.here hx rfl (hb hby d4_0) rfl rfl  k_) ?_
  refine own_stW (T' := s₁) (g' := (mkF m 2 #[rv a, rv va] [(.ref va), (.ref a)])) (fun _ k_ => XS.aloadN X0.here hx rfl (hb hby d4_1) rfl rfl  k_) ?_
  refine own_stW (T' := s₁) (g' := (mkF m 3 #[rv a, rv va] [(.int (0 : Int32)), (.ref va), (.ref a)])) (fun _ k_ => XS.iconst X0.here hx rfl (hb hby d4_2) k_) ?_
  refine own_stW (T' := s₁) (g' := (mkF m 4 #[rv a, rv va] [(.ref va), (.int (0 : Int32)), (.ref va), (.ref a)])) (fun _ k_ => XS.aloadN X0.here hx rfl (hb hby d4_3) rfl rfl  k_) ?_
  obtain ⟨cl1, Ar1, -, S1, N1, -, -⟩ := id VA
  refine own_stW (T' := s₁) (g' := (mkF m 5 #[rv a, rv va] [(.int (0 : Int32)), (.int (0 : Int32)), (.ref va), (.ref a)])) (fun t_ k_ => X0.arraylength hx (by rw [e0]; exact Ar1.1) (State.isArrayOf_alike hZ.alike Ar1.2.1) (g := (mkF m 4 #[rv a, rv va] [(.ref va), (.int (0 : Int32)), (.ref va), (.ref a)])) rfl rfl (hb hby d4_4) _ (by rw [len_of S1 N1]; exact k_)) ?_
  refine own_stW (T' := s₁) (g' := (mkF m 6 #[rv a, rv va] [.null, (.int (0 : Int32)), (.int (0 : Int32)), (.ref va), (.ref a)])) (fun _ k_ => XS.aconstNull X0.here hx rfl (hb hby d4_5) k_) ?_
  obtain ⟨_, T2, L2, X2, hS2, hQ2, ch2, st2⟩ := own_callIW X0 hx (y := own_m12) rfl hown (mvT hZ (wd hw 21 rfl)) (mvT hZ (wd hw 22 rfl)) (mvT hZ (wd hw 24 rfl)) (by decide) (own_backW (W := 0) (rm_ini4_0 l Z a0 hw [] a va kc h0 n0 O0 EA FV FC fa VA) hZ (wd hw 24 rfl) (wd hw 17 rfl) (by decide) (by decide) hEL CR0.1 (sfS sf_a sf0) (allS EA.lt all0)) (g := (mkF m 6 #[rv a, rv va] [.null, (.int (0 : Int32)), (.int (0 : Int32)), (.ref va), (.ref a)])) rfl (by rw [hml]; rfl) (a := a) (argsL := [(.ref va), (.int (0 : Int32)), (.int (0 : Int32)), .null]) (rest := []) (lenOf pd___CIILjava_lang_Void__V rfl) rfl (by show 2 * 0 + _ ≤ _; exact Nat.le_of_eq rfl) (hb hby d4_6) rfl e0 (by decide) (by decide) (c' := 4) (s' := 8) rfl rfl hS0 hk0
  obtain ⟨t2, kb2, rfl, Nq2, K2, fq2_0, fq2_1, fq2_2, fq2_3⟩ := hQ2
  have N2 := Fr.app N0 Nq2
  have CR3 := CR0.trans ch2
  have sf4 : Safe Z consts_1 T2.vm T2.heap a := ch2.safe EA.lt sf_a
  have hZ2 : Z.Warmed39 (s.setVm T2.vm).vm := own_hZ hZs hS2
  have hown2 : (s.setVm T2.vm).vm.findClass "java/lang/String" = some m.cls := own_hown howns hS2
  refine own_stW (T' := T2) (g' := (mkF m 9 #[rv a, rv va] [])) st2 ?_
  clear st2
  have f5 := (Keep.refl h0 [a]).trans K2 (allS (Or.inl (List.mem_of_getElem? (i := 0) rfl)) all0)
  exact own_retVW X2 hZ2 hS2 (Nat.le_refl _) hEL CR3 hx hret hlk (hb hby d4_9) (by decide) (by decide) ⟨t2, kb2, rfl, N2, f5, fq2_0, fq2_1, fq2_2, fq2_3⟩
def own_nd1 (c0 : Int32) : Int32 := if (255 : Int32) < c0 then (0 : Int32) else 1
theorem own_ndA1 {c0 : Int32} (h : own_nd1 c0 = (1 : Int32)) : ¬ (255 : Int32) < c0 ∧ True := by
  unfold own_nd1 at h
  by_cases h0 : (255 : Int32) < c0
  · rw [if_pos h0] at h; exact absurd h (by decide)
  exact ⟨h0, trivial⟩
theorem own_ndB1 {c0 : Int32} (h : ¬ own_nd1 c0 = (1 : Int32)) : (own_nd1 c0 = (0 : Int32) ∧ (255 : Int32) < c0) := by
  unfold own_nd1 at h ⊢
  by_cases h0 : (255 : Int32) < c0
  · exact ⟨by rw [if_pos h0], h0⟩
  exact absurd (by rw [if_neg h0]) h
theorem own_ndC1 {c0 : Int32} (h0 : ¬ (255 : Int32) < c0) : own_nd1 c0 = (1 : Int32) := by unfold own_nd1; rw [if_neg h0]
theorem d13_0 : decode jdk_52_method_21_code 0 = .ok (.iconst 0, 1) := by decide +kernel
theorem d13_1 : decode jdk_52_method_21_code 1 = .ok (.istore 5, 2) := by decide +kernel
theorem d13_3 : decode jdk_52_method_21_code 3 = .ok (.iload 5, 2) := by decide +kernel
theorem d13_5 : decode jdk_52_method_21_code 5 = .ok (.iload 4, 2) := by decide +kernel
theorem d13_7 : decode jdk_52_method_21_code 7 = .ok (.if_icmp .ge 37, 3) := by decide +kernel
theorem d13_10 : decode jdk_52_method_21_code 10 = .ok (.aload_n 0, 1) := by decide +kernel
theorem d13_11 : decode jdk_52_method_21_code 11 = .ok (.iload_n 1, 1) := by decide +kernel
theorem d13_12 : decode jdk_52_method_21_code 12 = .ok (.caload, 1) := by decide +kernel
theorem d13_13 : decode jdk_52_method_21_code 13 = .ok (.istore 6, 2) := by decide +kernel
theorem d13_15 : decode jdk_52_method_21_code 15 = .ok (.iload 6, 2) := by decide +kernel
theorem d13_17 : decode jdk_52_method_21_code 17 = .ok (.sipush 255, 3) := by decide +kernel
theorem d13_20 : decode jdk_52_method_21_code 20 = .ok (.if_icmp .le 6, 3) := by decide +kernel
theorem d13_23 : decode jdk_52_method_21_code 23 = .ok (.iload 5, 2) := by decide +kernel
theorem d13_25 : decode jdk_52_method_21_code 25 = .ok (.ireturn, 1) := by decide +kernel
theorem d13_26 : decode jdk_52_method_21_code 26 = .ok (.aload_n 2, 1) := by decide +kernel
theorem d13_27 : decode jdk_52_method_21_code 27 = .ok (.iload_n 3, 1) := by decide +kernel
theorem d13_28 : decode jdk_52_method_21_code 28 = .ok (.iload 6, 2) := by decide +kernel
theorem d13_30 : decode jdk_52_method_21_code 30 = .ok (.i2b, 1) := by decide +kernel
theorem d13_31 : decode jdk_52_method_21_code 31 = .ok (.bastore, 1) := by decide +kernel
theorem d13_32 : decode jdk_52_method_21_code 32 = .ok (.iinc 1 1, 3) := by decide +kernel
theorem d13_35 : decode jdk_52_method_21_code 35 = .ok (.iinc 3 1, 3) := by decide +kernel
theorem d13_38 : decode jdk_52_method_21_code 38 = .ok (.iinc 5 1, 3) := by decide +kernel
theorem d13_41 : decode jdk_52_method_21_code 41 = .ok (.goto (-38), 3) := by decide +kernel
theorem d13_44 : decode jdk_52_method_21_code 44 = .ok (.iload 4, 2) := by decide +kernel
theorem d13_46 : decode jdk_52_method_21_code 46 = .ok (.ireturn, 1) := by decide +kernel
theorem ef_c5u_1 (m : MethodId) (x0 : Addr) (x1 : Int32) (x2 : Addr) (x3 : Int32) (x4 : Int32) : entryFrame m #[(.ref x0), (.int x1), (.ref x2), (.int x3), (.int x4)] 7 = mkF m 0 #[rv x0, iv x1, rv x2, iv x3, iv x4, .unset, .unset] [] := by first | (simp [entryFrame, mkF, argsToLocals, Value.category]; done) | rfl
def Q_c5u_1 (Z : State) (va : Addr) (da : Addr) (kc : ClassId) (kd : ClassId) (c0 : Int32) (h0 : Heap) (n0 : Nat) (v : Option Value) (h : Heap) (L : List Loc) : Prop := (v = some (.int (own_nd1 c0))) ∧ (Fr n0 L) ∧ (Keep h0 h [da]) ∧ ((own_nd1 c0) = (1 : Int32) → Arv Z h da kd .byte (1 : Int32) [(.int (c0.toInt8.toInt32))] (.int (0 : Int32)))
set_option maxRecDepth 65536 in
set_option maxHeartbeats 40000000 in
theorem rm_c5u_1 (l : Launch) (Z : State) (a0 : Array Value) (hw : ∀ d ∈ tables_1, d.before a0 Z = true) (ws : List Jvm.Cond) (va : Addr) (da : Addr) (kc : ClassId) (kd : ClassId) (c0 : Int32) (h0 : Heap) (n0 : Nat) (O0 : Old Z n0 h0) (VA : Arv Z h0 va kc .char (1 : Int32) [(.int c0)] (.int (0 : Int32))) (VD : Arv Z h0 da kd .byte (1 : Int32) [(.int (0 : Int32))] (.int (0 : Int32))) (nad : va ≠ da) (fda : n0 ≤ da) :
    own_MF l own_m14 (Jvm.Cond.code own_m14 jdk_52_method_21_code 7 (some .int) :: ws) ({ frames := 0, cells := 0, slots := 0, locals := 0 } : Room) #[(.ref va), (.int (0 : Int32)), (.ref da), (.int (0 : Int32)), (.int (1 : Int32))] Z h0 (Q_c5u_1 Z va da kc kd c0 h0 n0) := by
  refine own_met (own := "java/lang/StringUTF16") (nme := "compress") rfl rfl (plainFor_of_name pn_3) ?_
  intro p e s m below meth c s₁ hx hby hml hown hnm X0 e0 hret hlk hZ
  have N0 := Fr.nil n0
  rw [ef_c5u_1 m va (0 : Int32) da (0 : Int32) (1 : Int32)]
  refine own_st (T' := s₁) (g' := (mkF m 1 #[rv va, iv (0 : Int32), rv da, iv (0 : Int32), iv (1 : Int32), .unset, .unset] [(.int (0 : Int32))])) (fun _ k_ => XS.iconst X0.here hx rfl (hb hby d13_0) k_) ?_
  refine own_st (T' := s₁) (g' := (mkF m 3 #[rv va, iv (0 : Int32), rv da, iv (0 : Int32), iv (1 : Int32), iv (0 : Int32), .unset] [])) (fun _ k_ => XS.istore X0.here hx rfl (hb hby d13_1) rfl (l' := #[rv va, iv (0 : Int32), rv da, iv (0 : Int32), iv (1 : Int32), iv (0 : Int32), .unset]) rfl k_) ?_
  refine own_st (T' := s₁) (g' := (mkF m 5 #[rv va, iv (0 : Int32), rv da, iv (0 : Int32), iv (1 : Int32), iv (0 : Int32), .unset] [(.int (0 : Int32))])) (fun _ k_ => XS.iload X0.here hx rfl (hb hby d13_3) rfl  k_) ?_
  refine own_st (T' := s₁) (g' := (mkF m 7 #[rv va, iv (0 : Int32), rv da, iv (0 : Int32), iv (1 : Int32), iv (0 : Int32), .unset] [(.int (1 : Int32)), (.int (0 : Int32))])) (fun _ k_ => XS.iload X0.here hx rfl (hb hby d13_5) rfl  k_) ?_
  refine own_st (T' := s₁) (g' := (mkF m 10 #[rv va, iv (0 : Int32), rv da, iv (0 : Int32), iv (1 : Int32), iv (0 : Int32), .unset] [])) (fun _ k_ => XS.icmpNo X0.here hx rfl (hb hby d13_7) rfl (tlt (by decide : (0 : Int32) < (1 : Int32))).2.1 k_) ?_
  refine own_st (T' := s₁) (g' := (mkF m 11 #[rv va, iv (0 : Int32), rv da, iv (0 : Int32), iv (1 : Int32), iv (0 : Int32), .unset] [(.ref va)])) (fun _ k_ => XS.aloadN X0.here hx rfl (hb hby d13_10) rfl rfl  k_) ?_
  refine own_st (T' := s₁) (g' := (mkF m 12 #[rv va, iv (0 : Int32), rv da, iv (0 : Int32), iv (1 : Int32), iv (0 : Int32), .unset] [(.int (0 : Int32)), (.ref va)])) (fun _ k_ => XS.iloadN X0.here hx rfl (hb hby d13_11) rfl  k_) ?_
  obtain ⟨cl1, Ar1, q1, S1, N1, H1, G1⟩ := id VA
  have hin1 : ¬ ((0 : Int32) < 0 ∨ cl1.slots.size ≤ ((0 : Int32)).toNatClampNeg) := inb_of S1 ⟨by decide, by decide⟩
  refine own_st (T' := s₁) (g' := (mkF m 13 #[rv va, iv (0 : Int32), rv da, iv (0 : Int32), iv (1 : Int32), iv (0 : Int32), .unset] [(.int c0)])) (X0.caload hx (j := (0 : Int32)) (v := (.int c0)) (by rw [e0]; exact Ar1.1) (State.isArrayOf_alike hZ.alike Ar1.2.1) Ar1.2.2 hin1 (H1.at hin1 rfl) (g := (mkF m 12 #[rv va, iv (0 : Int32), rv da, iv (0 : Int32), iv (1 : Int32), iv (0 : Int32), .unset] [(.int (0 : Int32)), (.ref va)])) rfl rfl (hb hby d13_12)) ?_
  clear hin1 G1 H1 N1 S1 q1 Ar1 cl1
  refine own_st (T' := s₁) (g' := (mkF m 15 #[rv va, iv (0 : Int32), rv da, iv (0 : Int32), iv (1 : Int32), iv (0 : Int32), iv c0] [])) (fun _ k_ => XS.istore X0.here hx rfl (hb hby d13_13) rfl (l' := #[rv va, iv (0 : Int32), rv da, iv (0 : Int32), iv (1 : Int32), iv (0 : Int32), iv c0]) rfl k_) ?_
  refine own_st (T' := s₁) (g' := (mkF m 17 #[rv va, iv (0 : Int32), rv da, iv (0 : Int32), iv (1 : Int32), iv (0 : Int32), iv c0] [(.int c0)])) (fun _ k_ => XS.iload X0.here hx rfl (hb hby d13_15) rfl  k_) ?_
  refine own_st (T' := s₁) (g' := (mkF m 20 #[rv va, iv (0 : Int32), rv da, iv (0 : Int32), iv (1 : Int32), iv (0 : Int32), iv c0] [(.int (255 : Int32)), (.int c0)])) (fun _ k_ => XS.sipush X0.here hx rfl (hb hby d13_17) k_) ?_
  by_cases hc2 : (255 : Int32) < c0
  · refine own_st (T' := s₁) (g' := (mkF m 23 #[rv va, iv (0 : Int32), rv da, iv (0 : Int32), iv (1 : Int32), iv (0 : Int32), iv c0] [])) (fun _ k_ => XS.icmpNo X0.here hx rfl (hb hby d13_20) rfl (tlt hc2).2.2.2 k_) ?_
    refine own_st (T' := s₁) (g' := (mkF m 25 #[rv va, iv (0 : Int32), rv da, iv (0 : Int32), iv (1 : Int32), iv (0 : Int32), iv c0] [(.int (0 : Int32))])) (fun _ k_ => XS.iload X0.here hx rfl (hb hby d13_23) rfl  k_) ?_
    exact own_retI X0 hx hret hlk (hb hby d13_25) (by decide) (by decide) (by rw [e0]; exact ⟨(by unfold own_nd1; rw [if_pos hc2]), N0, (Keep.refl h0 [da]), (fun q => absurd q (by unfold own_nd1; rw [if_pos hc2]; decide))⟩)
  · refine own_st (T' := s₁) (g' := (mkF m 26 #[rv va, iv (0 : Int32), rv da, iv (0 : Int32), iv (1 : Int32), iv (0 : Int32), iv c0] [])) (fun _ k_ => XS.icmpYes X0.here hx rfl (pc0 := 20) (pc' := 26) rfl (hb hby d13_20) rfl (flt hc2).2.2.2 (by decide) (by decide) k_) ?_
    refine own_st (T' := s₁) (g' := (mkF m 27 #[rv va, iv (0 : Int32), rv da, iv (0 : Int32), iv (1 : Int32), iv (0 : Int32), iv c0] [(.ref da)])) (fun _ k_ => XS.aloadN X0.here hx rfl (hb hby d13_26) rfl rfl  k_) ?_
    refine own_st (T' := s₁) (g' := (mkF m 28 #[rv va, iv (0 : Int32), rv da, iv (0 : Int32), iv (1 : Int32), iv (0 : Int32), iv c0] [(.int (0 : Int32)), (.ref da)])) (fun _ k_ => XS.iloadN X0.here hx rfl (hb hby d13_27) rfl  k_) ?_
    refine own_st (T' := s₁) (g' := (mkF m 30 #[rv va, iv (0 : Int32), rv da, iv (0 : Int32), iv (1 : Int32), iv (0 : Int32), iv c0] [(.int c0), (.int (0 : Int32)), (.ref da)])) (fun _ k_ => XS.iload X0.here hx rfl (hb hby d13_28) rfl  k_) ?_
    refine own_st (T' := s₁) (g' := (mkF m 31 #[rv va, iv (0 : Int32), rv da, iv (0 : Int32), iv (1 : Int32), iv (0 : Int32), iv c0] [(.int (c0.toInt8.toInt32)), (.int (0 : Int32)), (.ref da)])) (fun _ k_ => XS.i2b X0.here hx rfl (hb hby d13_30) rfl k_) ?_
    obtain ⟨cl3, Ar3, q3, S3, N3, H3, G3⟩ := id VD
    have hin3 : ¬ ((0 : Int32) < 0 ∨ cl3.slots.size ≤ ((0 : Int32)).toNatClampNeg) := inb_of S3 ⟨by decide, by decide⟩
    obtain ⟨T4, h4, X4, e4, W4, st4⟩ := stB X0 hx hZ e0 Ar3 (j := (0 : Int32)) hin3 (g := (mkF m 31 #[rv va, iv (0 : Int32), rv da, iv (0 : Int32), iv (1 : Int32), iv (0 : Int32), iv c0] [(.int (c0.toInt8.toInt32)), (.int (0 : Int32)), (.ref da)])) rfl rfl (hb hby d13_31)
    have V4 : Arv Z h4 da kd .byte (1 : Int32) [(.int (nar .byte (c0.toInt8.toInt32)))] (.int (0 : Int32)) := Arv.set Ar3 q3 S3 N3 H3 G3 (fits_nar_byte _) W4 0 rfl (Nat.le_of_ble_eq_true rfl)
    have Vn4 : Arv Z h4 da kd .byte (1 : Int32) [(.int (c0.toInt8.toInt32))] (.int (0 : Int32)) := by simpa only [own_bb] using V4
    have Nx4 := Fr.snoc X4 N0 fda
    refine own_st (T' := T4) (g' := (mkF m 32 #[rv va, iv (0 : Int32), rv da, iv (0 : Int32), iv (1 : Int32), iv (0 : Int32), iv c0] [])) st4 ?_
    clear hin3 G3 H3 N3 S3 q3 Ar3 cl3 st4
    refine own_st (T' := T4) (g' := (mkF m 35 #[rv va, iv (1 : Int32), rv da, iv (0 : Int32), iv (1 : Int32), iv (0 : Int32), iv c0] [])) (fun _ k_ => XS.iinc X4.here hx rfl (hb hby d13_32) rfl (l' := #[rv va, iv (1 : Int32), rv da, iv (0 : Int32), iv (1 : Int32), iv (0 : Int32), iv c0]) rfl k_) ?_
    refine own_st (T' := T4) (g' := (mkF m 38 #[rv va, iv (1 : Int32), rv da, iv (1 : Int32), iv (1 : Int32), iv (0 : Int32), iv c0] [])) (fun _ k_ => XS.iinc X4.here hx rfl (hb hby d13_35) rfl (l' := #[rv va, iv (1 : Int32), rv da, iv (1 : Int32), iv (1 : Int32), iv (0 : Int32), iv c0]) rfl k_) ?_
    refine own_st (T' := T4) (g' := (mkF m 41 #[rv va, iv (1 : Int32), rv da, iv (1 : Int32), iv (1 : Int32), iv (1 : Int32), iv c0] [])) (fun _ k_ => XS.iinc X4.here hx rfl (hb hby d13_38) rfl (l' := #[rv va, iv (1 : Int32), rv da, iv (1 : Int32), iv (1 : Int32), iv (1 : Int32), iv c0]) rfl k_) ?_
    refine own_st (T' := T4) (g' := (mkF m 3 #[rv va, iv (1 : Int32), rv da, iv (1 : Int32), iv (1 : Int32), iv (1 : Int32), iv c0] [])) (fun _ k_ => XS.goto X4.here hx rfl (pc0 := 41) (pc' := 3) rfl (hb hby d13_41) (by decide) (by decide) k_) ?_
    refine own_st (T' := T4) (g' := (mkF m 5 #[rv va, iv (1 : Int32), rv da, iv (1 : Int32), iv (1 : Int32), iv (1 : Int32), iv c0] [(.int (1 : Int32))])) (fun _ k_ => XS.iload X4.here hx rfl (hb hby d13_3) rfl  k_) ?_
    refine own_st (T' := T4) (g' := (mkF m 7 #[rv va, iv (1 : Int32), rv da, iv (1 : Int32), iv (1 : Int32), iv (1 : Int32), iv c0] [(.int (1 : Int32)), (.int (1 : Int32))])) (fun _ k_ => XS.iload X4.here hx rfl (hb hby d13_5) rfl  k_) ?_
    refine own_st (T' := T4) (g' := (mkF m 44 #[rv va, iv (1 : Int32), rv da, iv (1 : Int32), iv (1 : Int32), iv (1 : Int32), iv c0] [])) (fun _ k_ => XS.icmpYes X4.here hx rfl (pc0 := 7) (pc' := 44) rfl (hb hby d13_7) rfl (flt (by decide : ¬ ((1 : Int32) < (1 : Int32)))).2.1 (by decide) (by decide) k_) ?_
    refine own_st (T' := T4) (g' := (mkF m 46 #[rv va, iv (1 : Int32), rv da, iv (1 : Int32), iv (1 : Int32), iv (1 : Int32), iv c0] [(.int (1 : Int32))])) (fun _ k_ => XS.iload X4.here hx rfl (hb hby d13_44) rfl  k_) ?_
    have f5 := (Keep.refl h0 [da]).wr W4 (Or.inl (List.mem_of_getElem? (i := 0) rfl))
    exact own_retI X4 hx hret hlk (hb hby d13_46) (by decide) (by decide) (by rw [e4]; exact ⟨(by unfold own_nd1; rw [if_neg hc2]), Nx4, f5, (fun _ => Vn4)⟩)
theorem d24_0 : decode jdk_52_method_3_code 0 = .ok (.iload_n 0, 1) := by decide +kernel
theorem d24_1 : decode jdk_52_method_3_code 1 = .ok (.ifCond .ge 11, 3) := by decide +kernel
theorem d24_12 : decode jdk_52_method_3_code 12 = .ok (.iload_n 0, 1) := by decide +kernel
theorem d24_13 : decode jdk_52_method_3_code 13 = .ok (.ldc 20, 2) := by decide +kernel
theorem d24_15 : decode jdk_52_method_3_code 15 = .ok (.if_icmp .lt 40, 3) := by decide +kernel
theorem d24_55 : decode jdk_52_method_3_code 55 = .ok (.iload_n 0, 1) := by decide +kernel
theorem d24_56 : decode jdk_52_method_3_code 56 = .ok (.iconst 1, 1) := by decide +kernel
theorem d24_57 : decode jdk_52_method_3_code 57 = .ok (.ishl, 1) := by decide +kernel
theorem d24_58 : decode jdk_52_method_3_code 58 = .ok (.ireturn, 1) := by decide +kernel
theorem ef_nbl_1 (m : MethodId) (x0 : Int32) : entryFrame m #[(.int x0)] 1 = mkF m 0 #[iv x0] [] := by first | (simp [entryFrame, mkF, argsToLocals, Value.category]; done) | rfl
def Q_nbl_1 (Z : State)  (h0 : Heap) (n0 : Nat) (v : Option Value) (h : Heap) (L : List Loc) : Prop := (v = some (.int (2 : Int32))) ∧ (Fr n0 L) ∧ (h = h0)
set_option maxRecDepth 65536 in
set_option maxHeartbeats 40000000 in
theorem rm_nbl_1 (l : Launch) (Z : State) (a0 : Array Value) (hw : ∀ d ∈ tables_1, d.before a0 Z = true) (ws : List Jvm.Cond)  (h0 : Heap) (n0 : Nat) (O0 : Old Z n0 h0) :
    own_MF l own_m15 (Jvm.Cond.code own_m15 jdk_52_method_3_code 1 (some .int) :: ws) ({ frames := 0, cells := 0, slots := 0, locals := 0 } : Room) #[(.int (1 : Int32))] Z h0 (Q_nbl_1 Z  h0 n0) := by
  refine own_met (own := "java/lang/StringUTF16") (nme := "newBytesLength") rfl rfl (plainFor_of_name pn_3) ?_
  intro p e s m below meth c s₁ hx hby hml hown hnm X0 e0 hret hlk hZ
  have N0 := Fr.nil n0
  rw [ef_nbl_1 m (1 : Int32)]
  refine own_st (T' := s₁) (g' := (mkF m 1 #[iv (1 : Int32)] [(.int (1 : Int32))])) (fun _ k_ => XS.iloadN X0.here hx rfl (hb hby d24_0) rfl  k_) ?_
  refine own_st (T' := s₁) (g' := (mkF m 12 #[iv (1 : Int32)] [])) (fun _ k_ => XS.ifYes X0.here hx rfl (pc0 := 1) (pc' := 12) rfl (hb hby d24_1) rfl ((if0 _ _).trans (flt (by decide : ¬ ((1 : Int32) < (0 : Int32)))).2.1) (by decide) (by decide) k_) ?_
  refine own_st (T' := s₁) (g' := (mkF m 13 #[iv (1 : Int32)] [(.int (1 : Int32))])) (fun _ k_ => XS.iloadN X0.here hx rfl (hb hby d24_12) rfl  k_) ?_
  refine own_st (T' := s₁) (g' := (mkF m 15 #[iv (1 : Int32)] [(.int (1073741823 : Int32)), (.int (1 : Int32))])) (X0.ldcInt hx hown (mvT hZ (wd hw 108 rfl)) (g := (mkF m 13 #[iv (1 : Int32)] [(.int (1 : Int32))])) rfl (hb hby d24_13)) ?_
  refine own_st (T' := s₁) (g' := (mkF m 55 #[iv (1 : Int32)] [])) (fun _ k_ => XS.icmpYes X0.here hx rfl (pc0 := 15) (pc' := 55) rfl (hb hby d24_15) rfl (tlt (by decide : (1 : Int32) < (1073741823 : Int32))).1 (by decide) (by decide) k_) ?_
  refine own_st (T' := s₁) (g' := (mkF m 56 #[iv (1 : Int32)] [(.int (1 : Int32))])) (fun _ k_ => XS.iloadN X0.here hx rfl (hb hby d24_55) rfl  k_) ?_
  refine own_st (T' := s₁) (g' := (mkF m 57 #[iv (1 : Int32)] [(.int (1 : Int32)), (.int (1 : Int32))])) (fun _ k_ => XS.iconst X0.here hx rfl (hb hby d24_56) k_) ?_
  refine own_st (T' := s₁) (g' := (mkF m 58 #[iv (1 : Int32)] [(.int (2 : Int32))])) (fun _ k_ => XS.ishl X0.here hx rfl (hb hby d24_57) rfl k_) ?_
  exact own_retI X0 hx hret hlk (hb hby d24_58) (by decide) (by decide) ⟨rfl, N0, e0⟩
theorem d23_0 : decode jdk_52_method_2_code 0 = .ok (.iload_n 0, 1) := by decide +kernel
theorem d23_1 : decode jdk_52_method_2_code 1 = .ok (.invokestatic 11, 3) := by decide +kernel
theorem d23_4 : decode jdk_52_method_2_code 4 = .ok (.newarray .byte, 2) := by decide +kernel
theorem d23_6 : decode jdk_52_method_2_code 6 = .ok (.areturn, 1) := by decide +kernel
theorem pd__I_I : parseMethodDescriptor "(I)I" = some ⟨[.int], some .int⟩ := by decide +kernel
theorem ef_nbf_1 (m : MethodId) (x0 : Int32) : entryFrame m #[(.int x0)] 1 = mkF m 0 #[iv x0] [] := by first | (simp [entryFrame, mkF, argsToLocals, Value.category]; done) | rfl
def Q_nbf_1 (Z : State)  (h0 : Heap) (n0 : Nat) (v : Option Value) (h : Heap) (L : List Loc) : Prop := ∃ (t : Addr) (kb : ClassId), (v = some (.ref t)) ∧ (Fr n0 L) ∧ (Keep h0 h []) ∧ (Arv Z h t kb .byte (2 : Int32) [(.int (0 : Int32)), (.int (0 : Int32))] (.int (0 : Int32))) ∧ (h0.size ≤ t)
set_option maxRecDepth 65536 in
set_option maxHeartbeats 40000000 in
theorem rm_nbf_1 (l : Launch) (Z : State) (a0 : Array Value) (hw : ∀ d ∈ tables_1, d.before a0 Z = true) (ws : List Jvm.Cond)  (h0 : Heap) (n0 : Nat) (O0 : Old Z n0 h0) :
    own_MF l own_m16 (Jvm.Cond.code own_m16 jdk_52_method_2_code 1 (some (.array .byte)) :: ws) ({ frames := 1, cells := 1, slots := 2, locals := 12 } : Room) #[(.int (1 : Int32))] Z h0 (Q_nbf_1 Z  h0 n0) := by
  refine own_met (own := "java/lang/StringUTF16") (nme := "newBytesFor") rfl rfl (plainFor_of_name pn_3) ?_
  intro p e s m below meth c s₁ hx hby hml hown hnm X0 e0 hret hlk hZ
  have N0 := Fr.nil n0
  rw [ef_nbf_1 m (1 : Int32)]
  refine own_st (T' := s₁) (g' := (mkF m 1 #[iv (1 : Int32)] [(.int (1 : Int32))])) (fun _ k_ => XS.iloadN X0.here hx rfl (hb hby d23_0) rfl  k_) ?_
  obtain ⟨_, T1, L1, X1, hQ1, st1⟩ := own_callS X0 hx (y := own_m15) hown (mvT hZ (wd hw 105 rfl)) (mvT hZ (wd hw 106 rfl)) (mvT hZ (wd hw 59 rfl)) (mvT hZ (wd hw 107 rfl)) (by decide) (backOf (W := 0) (rm_nbl_1 l Z a0 hw []  h0 n0 O0) hZ (wd hw 107 rfl) (wd hw 59 rfl) (by decide) (by decide)) (g := (mkF m 1 #[iv (1 : Int32)] [(.int (1 : Int32))])) rfl (by rw [hml]; rfl) (argsL := [(.int (1 : Int32))]) (rest := []) (lenOf pd__I_I rfl) rfl (by show 2 * 0 + _ ≤ _; exact Nat.le_of_eq rfl) (hb hby d23_1) rfl e0 (by decide) (by decide) (c' := 0) (s' := 0) rfl rfl
  obtain ⟨rfl, Nq1, eq1⟩ := hQ1
  have N1 := Fr.app N0 Nq1
  refine own_st (T' := T1) (g' := (mkF m 4 #[iv (1 : Int32)] [(.int (2 : Int32))])) st1 ?_
  clear st1
  obtain ⟨T2, h2, k2, X2, e2, E2, A2, st2⟩ := newP X1 hx hZ (wd hw 29 rfl) eq1 (g := (mkF m 4 #[iv (1 : Int32)] [(.int (2 : Int32))])) rfl (hb hby d23_4) rfl (by decide) (cap := 2) (by decide) (by decide) (by decide) (by decide)
  obtain ⟨b2, g2⟩ : ∃ z, z = h0.size := ⟨_, rfl⟩
  rw [← g2] at A2 st2
  have fr2 : n0 ≤ b2 := Nat.le_trans (own_z O0) (Nat.le_of_eq g2.symm)
  have sz2 : h0.size ≤ b2 := Nat.le_trans (Keep.refl h0 []).1 (Nat.le_of_eq g2.symm)
  have V2 : Arv Z h2 b2 k2 .byte (2 : Int32) [(.int (0 : Int32)), (.int (0 : Int32))] (.int (0 : Int32)) := (Arv.new A2 (by decide)).pad (pad_rep [] (.int (0 : Int32)) 2)
  refine own_st (T' := T2) (g' := (mkF m 6 #[iv (1 : Int32)] [(.ref b2)])) st2 ?_
  clear st2
  have f3 := (Keep.refl h0 []).ext E2
  exact own_retA X2 hx hret rfl rfl hlk (hb hby d23_6) (by decide) (by decide) (by rw [e2]; exact ⟨b2, k2, rfl, N1, f3, V2, sz2⟩)
theorem d22_0 : decode jdk_52_method_14_code 0 = .ok (.iload_n 2, 1) := by decide +kernel
theorem d22_1 : decode jdk_52_method_14_code 1 = .ok (.invokestatic 107, 3) := by decide +kernel
theorem d22_4 : decode jdk_52_method_14_code 4 = .ok (.astore_n 3, 1) := by decide +kernel
theorem d22_5 : decode jdk_52_method_14_code 5 = .ok (.iconst 0, 1) := by decide +kernel
theorem d22_6 : decode jdk_52_method_14_code 6 = .ok (.istore 4, 2) := by decide +kernel
theorem d22_8 : decode jdk_52_method_14_code 8 = .ok (.iload 4, 2) := by decide +kernel
theorem d22_10 : decode jdk_52_method_14_code 10 = .ok (.iload_n 2, 1) := by decide +kernel
theorem d22_11 : decode jdk_52_method_14_code 11 = .ok (.if_icmp .ge 21, 3) := by decide +kernel
theorem d22_14 : decode jdk_52_method_14_code 14 = .ok (.aload_n 3, 1) := by decide +kernel
theorem d22_15 : decode jdk_52_method_14_code 15 = .ok (.iload 4, 2) := by decide +kernel
theorem d22_17 : decode jdk_52_method_14_code 17 = .ok (.aload_n 0, 1) := by decide +kernel
theorem d22_18 : decode jdk_52_method_14_code 18 = .ok (.iload_n 1, 1) := by decide +kernel
theorem d22_19 : decode jdk_52_method_14_code 19 = .ok (.caload, 1) := by decide +kernel
theorem d22_20 : decode jdk_52_method_14_code 20 = .ok (.invokestatic 111, 3) := by decide +kernel
theorem d22_23 : decode jdk_52_method_14_code 23 = .ok (.iinc 1 1, 3) := by decide +kernel
theorem d22_26 : decode jdk_52_method_14_code 26 = .ok (.iinc 4 1, 3) := by decide +kernel
theorem d22_29 : decode jdk_52_method_14_code 29 = .ok (.goto (-21), 3) := by decide +kernel
theorem d22_32 : decode jdk_52_method_14_code 32 = .ok (.aload_n 3, 1) := by decide +kernel
theorem d22_33 : decode jdk_52_method_14_code 33 = .ok (.areturn, 1) := by decide +kernel
theorem pd__I__B : parseMethodDescriptor "(I)[B" = some ⟨[.int], some (.array .byte)⟩ := by decide +kernel
theorem pd___BII_V : parseMethodDescriptor "([BII)V" = some ⟨[(.array .byte), .int, .int], none⟩ := by decide +kernel
theorem ef_tby_1 (m : MethodId) (x0 : Addr) (x1 : Int32) (x2 : Int32) : entryFrame m #[(.ref x0), (.int x1), (.int x2)] 5 = mkF m 0 #[rv x0, iv x1, iv x2, .unset, .unset] [] := by first | (simp [entryFrame, mkF, argsToLocals, Value.category]; done) | rfl
def Q_tby_1 (Z : State) (va : Addr) (kc : ClassId) (c0 : Int32) (h0 : Heap) (n0 : Nat) (v : Option Value) (h : Heap) (L : List Loc) : Prop := ∃ (t : Addr) (kb : ClassId), (v = some (.ref t)) ∧ (Fr n0 L) ∧ (Keep h0 h []) ∧ (Arv Z h t kb .byte (2 : Int32) [(.int (own_l16 c0)), (.int (own_h16 c0))] (.int (0 : Int32))) ∧ (h0.size ≤ t)
set_option maxRecDepth 65536 in
set_option maxHeartbeats 40000000 in
theorem rm_tby_1 (l : Launch) (Z : State) (a0 : Array Value) (hw : ∀ d ∈ tables_1, d.before a0 Z = true) (ws : List Jvm.Cond) (va : Addr) (kc : ClassId) (c0 : Int32) (h0 : Heap) (n0 : Nat) (O0 : Old Z n0 h0) (VA : Arv Z h0 va kc .char (1 : Int32) [(.int c0)] (.int (0 : Int32))) (SA : Sta Z Z.heap "java/lang/StringUTF16" "$assertionsDisabled" "Z" (.int (1 : Int32))) (SHI : Sta Z Z.heap "java/lang/StringUTF16" "HI_BYTE_SHIFT" "I" (.int (0 : Int32))) (SLO : Sta Z Z.heap "java/lang/StringUTF16" "LO_BYTE_SHIFT" "I" (.int (8 : Int32))) :
    own_MF l own_m17 (Jvm.Cond.code own_m17 jdk_52_method_14_code 5 (some (.array .byte)) :: ws) ({ frames := 2, cells := 1, slots := 2, locals := 24 } : Room) #[(.ref va), (.int (0 : Int32)), (.int (1 : Int32))] Z h0 (Q_tby_1 Z va kc c0 h0 n0) := by
  refine own_met (own := "java/lang/StringUTF16") (nme := "toBytes") rfl rfl (plainFor_of_name pn_3) ?_
  intro p e s m below meth c s₁ hx hby hml hown hnm X0 e0 hret hlk hZ
  have N0 := Fr.nil n0
  rw [ef_tby_1 m va (0 : Int32) (1 : Int32)]
  refine own_st (T' := s₁) (g' := (mkF m 1 #[rv va, iv (0 : Int32), iv (1 : Int32), .unset, .unset] [(.int (1 : Int32))])) (fun _ k_ => XS.iloadN X0.here hx rfl (hb hby d22_0) rfl  k_) ?_
  obtain ⟨_, T1, L1, X1, hQ1, st1⟩ := own_callS X0 hx (y := own_m16) hown (mvT hZ (wd hw 102 rfl)) (mvT hZ (wd hw 103 rfl)) (mvT hZ (wd hw 59 rfl)) (mvT hZ (wd hw 104 rfl)) (by decide) (backOf (W := 0) (rm_nbf_1 l Z a0 hw []  h0 n0 O0) hZ (wd hw 104 rfl) (wd hw 59 rfl) (by decide) (by decide)) (g := (mkF m 1 #[rv va, iv (0 : Int32), iv (1 : Int32), .unset, .unset] [(.int (1 : Int32))])) rfl (by rw [hml]; rfl) (argsL := [(.int (1 : Int32))]) (rest := []) (lenOf pd__I__B rfl) rfl (by show 2 * 0 + _ ≤ _; exact Nat.le_of_eq rfl) (hb hby d22_1) rfl e0 (by decide) (by decide) (c' := 1) (s' := 2) rfl rfl
  obtain ⟨t1, kb1, rfl, Nq1, K1, fq1_0, xq1_fresh_t⟩ := hQ1
  have N1 := Fr.app N0 Nq1
  refine own_st (T' := T1) (g' := (mkF m 4 #[rv va, iv (0 : Int32), iv (1 : Int32), .unset, .unset] [(.ref t1)])) st1 ?_
  clear st1
  refine own_st (T' := T1) (g' := (mkF m 5 #[rv va, iv (0 : Int32), iv (1 : Int32), rv t1, .unset] [])) (fun _ k_ => XS.astoreN X1.here hx rfl (hb hby d22_4) rfl rfl (l' := #[rv va, iv (0 : Int32), iv (1 : Int32), rv t1, .unset]) rfl k_) ?_
  refine own_st (T' := T1) (g' := (mkF m 6 #[rv va, iv (0 : Int32), iv (1 : Int32), rv t1, .unset] [(.int (0 : Int32))])) (fun _ k_ => XS.iconst X1.here hx rfl (hb hby d22_5) k_) ?_
  refine own_st (T' := T1) (g' := (mkF m 8 #[rv va, iv (0 : Int32), iv (1 : Int32), rv t1, iv (0 : Int32)] [])) (fun _ k_ => XS.istore X1.here hx rfl (hb hby d22_6) rfl (l' := #[rv va, iv (0 : Int32), iv (1 : Int32), rv t1, iv (0 : Int32)]) rfl k_) ?_
  refine own_st (T' := T1) (g' := (mkF m 10 #[rv va, iv (0 : Int32), iv (1 : Int32), rv t1, iv (0 : Int32)] [(.int (0 : Int32))])) (fun _ k_ => XS.iload X1.here hx rfl (hb hby d22_8) rfl  k_) ?_
  refine own_st (T' := T1) (g' := (mkF m 11 #[rv va, iv (0 : Int32), iv (1 : Int32), rv t1, iv (0 : Int32)] [(.int (1 : Int32)), (.int (0 : Int32))])) (fun _ k_ => XS.iloadN X1.here hx rfl (hb hby d22_10) rfl  k_) ?_
  refine own_st (T' := T1) (g' := (mkF m 14 #[rv va, iv (0 : Int32), iv (1 : Int32), rv t1, iv (0 : Int32)] [])) (fun _ k_ => XS.icmpNo X1.here hx rfl (hb hby d22_11) rfl (tlt (by decide : (0 : Int32) < (1 : Int32))).2.1 k_) ?_
  refine own_st (T' := T1) (g' := (mkF m 15 #[rv va, iv (0 : Int32), iv (1 : Int32), rv t1, iv (0 : Int32)] [(.ref t1)])) (fun _ k_ => XS.aloadN X1.here hx rfl (hb hby d22_14) rfl rfl  k_) ?_
  refine own_st (T' := T1) (g' := (mkF m 17 #[rv va, iv (0 : Int32), iv (1 : Int32), rv t1, iv (0 : Int32)] [(.int (0 : Int32)), (.ref t1)])) (fun _ k_ => XS.iload X1.here hx rfl (hb hby d22_15) rfl  k_) ?_
  refine own_st (T' := T1) (g' := (mkF m 18 #[rv va, iv (0 : Int32), iv (1 : Int32), rv t1, iv (0 : Int32)] [(.ref va), (.int (0 : Int32)), (.ref t1)])) (fun _ k_ => XS.aloadN X1.here hx rfl (hb hby d22_17) rfl rfl  k_) ?_
  refine own_st (T' := T1) (g' := (mkF m 19 #[rv va, iv (0 : Int32), iv (1 : Int32), rv t1, iv (0 : Int32)] [(.int (0 : Int32)), (.ref va), (.int (0 : Int32)), (.ref t1)])) (fun _ k_ => XS.iloadN X1.here hx rfl (hb hby d22_18) rfl  k_) ?_
  have f2 := VA.keep K1 nin0
  obtain ⟨cl3, Ar3, q3, S3, N3, H3, G3⟩ := id f2
  have hin3 : ¬ ((0 : Int32) < 0 ∨ cl3.slots.size ≤ ((0 : Int32)).toNatClampNeg) := inb_of S3 ⟨by decide, by decide⟩
  refine own_st (T' := T1) (g' := (mkF m 20 #[rv va, iv (0 : Int32), iv (1 : Int32), rv t1, iv (0 : Int32)] [(.int c0), (.int (0 : Int32)), (.ref t1)])) (X1.caload hx (j := (0 : Int32)) (v := (.int c0)) Ar3.1 (State.isArrayOf_alike hZ.alike Ar3.2.1) Ar3.2.2 hin3 (H3.at hin3 rfl) (g := (mkF m 19 #[rv va, iv (0 : Int32), iv (1 : Int32), rv t1, iv (0 : Int32)] [(.int (0 : Int32)), (.ref va), (.int (0 : Int32)), (.ref t1)])) rfl rfl (hb hby d22_19)) ?_
  clear hin3 G3 H3 N3 S3 q3 Ar3 cl3
  have f4 := O0.keep K1 all0
  obtain ⟨_, T5, L5, X5, hQ5, st5⟩ := own_callS X1 hx (y := own_m11) hown (mvT hZ (wd hw 109 rfl)) (mvT hZ (wd hw 110 rfl)) (mvT hZ (wd hw 59 rfl)) (mvT hZ (wd hw 111 rfl)) (by decide) (backOf (W := 0) (rm_putc l Z a0 hw [] t1 kb1 (2 : Int32) [(.int (0 : Int32)), (.int (0 : Int32))] (0 : Int32) 0 c0 T1.heap n0 f4 fq1_0 (Nat.le_trans (own_z O0) xq1_fresh_t) rfl (Nat.le_of_ble_eq_true rfl) (by decide) (by decide) (by decide) SA SHI SLO) hZ (wd hw 111 rfl) (wd hw 59 rfl) (by decide) (by decide)) (g := (mkF m 20 #[rv va, iv (0 : Int32), iv (1 : Int32), rv t1, iv (0 : Int32)] [(.int c0), (.int (0 : Int32)), (.ref t1)])) rfl (by rw [hml]; rfl) (argsL := [(.ref t1), (.int (0 : Int32)), (.int c0)]) (rest := []) (lenOf pd___BII_V rfl) rfl (by show 2 * 0 + _ ≤ _; exact Nat.le_of_eq rfl) (hb hby d22_20) rfl rfl (by decide) (by decide) (c' := 1) (s' := 2) rfl rfl
  obtain ⟨rfl, Nq5, K5, fq5_0⟩ := hQ5
  have N5 := Fr.app N1 Nq5
  refine own_st (T' := T5) (g' := (mkF m 23 #[rv va, iv (0 : Int32), iv (1 : Int32), rv t1, iv (0 : Int32)] [])) st5 ?_
  clear st5
  have Vp5 : Arv Z T5.heap t1 kb1 .byte (2 : Int32) [(.int (own_l16 c0)), (.int (own_h16 c0))] (.int (0 : Int32)) := fq5_0
  refine own_st (T' := T5) (g' := (mkF m 26 #[rv va, iv (1 : Int32), iv (1 : Int32), rv t1, iv (0 : Int32)] [])) (fun _ k_ => XS.iinc X5.here hx rfl (hb hby d22_23) rfl (l' := #[rv va, iv (1 : Int32), iv (1 : Int32), rv t1, iv (0 : Int32)]) rfl k_) ?_
  refine own_st (T' := T5) (g' := (mkF m 29 #[rv va, iv (1 : Int32), iv (1 : Int32), rv t1, iv (1 : Int32)] [])) (fun _ k_ => XS.iinc X5.here hx rfl (hb hby d22_26) rfl (l' := #[rv va, iv (1 : Int32), iv (1 : Int32), rv t1, iv (1 : Int32)]) rfl k_) ?_
  refine own_st (T' := T5) (g' := (mkF m 8 #[rv va, iv (1 : Int32), iv (1 : Int32), rv t1, iv (1 : Int32)] [])) (fun _ k_ => XS.goto X5.here hx rfl (pc0 := 29) (pc' := 8) rfl (hb hby d22_29) (by decide) (by decide) k_) ?_
  refine own_st (T' := T5) (g' := (mkF m 10 #[rv va, iv (1 : Int32), iv (1 : Int32), rv t1, iv (1 : Int32)] [(.int (1 : Int32))])) (fun _ k_ => XS.iload X5.here hx rfl (hb hby d22_8) rfl  k_) ?_
  refine own_st (T' := T5) (g' := (mkF m 11 #[rv va, iv (1 : Int32), iv (1 : Int32), rv t1, iv (1 : Int32)] [(.int (1 : Int32)), (.int (1 : Int32))])) (fun _ k_ => XS.iloadN X5.here hx rfl (hb hby d22_10) rfl  k_) ?_
  refine own_st (T' := T5) (g' := (mkF m 32 #[rv va, iv (1 : Int32), iv (1 : Int32), rv t1, iv (1 : Int32)] [])) (fun _ k_ => XS.icmpYes X5.here hx rfl (pc0 := 11) (pc' := 32) rfl (hb hby d22_11) rfl (flt (by decide : ¬ ((1 : Int32) < (1 : Int32)))).2.1 (by decide) (by decide) k_) ?_
  refine own_st (T' := T5) (g' := (mkF m 33 #[rv va, iv (1 : Int32), iv (1 : Int32), rv t1, iv (1 : Int32)] [(.ref t1)])) (fun _ k_ => XS.aloadN X5.here hx rfl (hb hby d22_32) rfl rfl  k_) ?_
  have f6 := (Keep.refl h0 []).trans K1 all0
  have f7 := f6.trans K5 (allS (Or.inr (Nat.le_trans (Keep.refl h0 []).1 xq1_fresh_t)) all0)
  exact own_retA X5 hx hret rfl rfl hlk (hb hby d22_33) (by decide) (by decide) ⟨t1, kb1, rfl, N5, f7, Vp5, (Nat.le_trans (Keep.refl h0 []).1 xq1_fresh_t)⟩
theorem d12_0 : decode jdk_52_method_16_code 0 = .ok (.iload_n 2, 1) := by decide +kernel
theorem d12_1 : decode jdk_52_method_16_code 1 = .ok (.newarray .byte, 2) := by decide +kernel
theorem d12_3 : decode jdk_52_method_16_code 3 = .ok (.astore_n 3, 1) := by decide +kernel
theorem d12_4 : decode jdk_52_method_16_code 4 = .ok (.aload_n 0, 1) := by decide +kernel
theorem d12_5 : decode jdk_52_method_16_code 5 = .ok (.iload_n 1, 1) := by decide +kernel
theorem d12_6 : decode jdk_52_method_16_code 6 = .ok (.aload_n 3, 1) := by decide +kernel
theorem d12_7 : decode jdk_52_method_16_code 7 = .ok (.iconst 0, 1) := by decide +kernel
theorem d12_8 : decode jdk_52_method_16_code 8 = .ok (.iload_n 2, 1) := by decide +kernel
theorem d12_9 : decode jdk_52_method_16_code 9 = .ok (.invokestatic 115, 3) := by decide +kernel
theorem d12_12 : decode jdk_52_method_16_code 12 = .ok (.istore 4, 2) := by decide +kernel
theorem d12_14 : decode jdk_52_method_16_code 14 = .ok (.iload 4, 2) := by decide +kernel
theorem d12_16 : decode jdk_52_method_16_code 16 = .ok (.iload_n 2, 1) := by decide +kernel
theorem d12_17 : decode jdk_52_method_16_code 17 = .ok (.if_icmp .eq 40, 3) := by decide +kernel
theorem d12_20 : decode jdk_52_method_16_code 20 = .ok (.aload_n 0, 1) := by decide +kernel
theorem d12_21 : decode jdk_52_method_16_code 21 = .ok (.iload_n 1, 1) := by decide +kernel
theorem d12_22 : decode jdk_52_method_16_code 22 = .ok (.iload_n 2, 1) := by decide +kernel
theorem d12_23 : decode jdk_52_method_16_code 23 = .ok (.invokestatic 119, 3) := by decide +kernel
theorem d12_26 : decode jdk_52_method_16_code 26 = .ok (.astore 5, 2) := by decide +kernel
theorem d12_28 : decode jdk_52_method_16_code 28 = .ok (.aload 5, 2) := by decide +kernel
theorem d12_30 : decode jdk_52_method_16_code 30 = .ok (.iload 4, 2) := by decide +kernel
theorem d12_32 : decode jdk_52_method_16_code 32 = .ok (.invokestatic 71, 3) := by decide +kernel
theorem d12_35 : decode jdk_52_method_16_code 35 = .ok (.sipush 255, 3) := by decide +kernel
theorem d12_38 : decode jdk_52_method_16_code 38 = .ok (.if_icmp .gt 16, 3) := by decide +kernel
theorem d12_54 : decode jdk_52_method_16_code 54 = .ok (.aload 5, 2) := by decide +kernel
theorem d12_56 : decode jdk_52_method_16_code 56 = .ok (.areturn, 1) := by decide +kernel
theorem pd___CI_BII_I : parseMethodDescriptor "([CI[BII)I" = some ⟨[(.array .char), .int, (.array .byte), .int, .int], some .int⟩ := by decide +kernel
theorem pd___CII__B : parseMethodDescriptor "([CII)[B" = some ⟨[(.array .char), .int, .int], some (.array .byte)⟩ := by decide +kernel
theorem ef_c3u_1 (m : MethodId) (x0 : Addr) (x1 : Int32) (x2 : Int32) : entryFrame m #[(.ref x0), (.int x1), (.int x2)] 6 = mkF m 0 #[rv x0, iv x1, iv x2, .unset, .unset, .unset] [] := by first | (simp [entryFrame, mkF, argsToLocals, Value.category]; done) | rfl
def Q_c3u_1 (Z : State) (va : Addr) (kc : ClassId) (c0 : Int32) (h0 : Heap) (n0 : Nat) (v : Option Value) (h : Heap) (L : List Loc) : Prop := ∃ (t : Addr) (kb : ClassId), (v = some (.ref t)) ∧ (Fr n0 L) ∧ (Keep h0 h []) ∧ (Arv Z h t kb .byte (2 : Int32) [(.int (own_l16 c0)), (.int (own_h16 c0))] (.int (0 : Int32))) ∧ (h0.size ≤ t)
set_option maxRecDepth 65536 in
set_option maxHeartbeats 40000000 in
theorem rm_c3u_1 (l : Launch) (Z : State) (a0 : Array Value) (hw : ∀ d ∈ tables_1, d.before a0 Z = true) (ws : List Jvm.Cond) (va : Addr) (kc : ClassId) (c0 : Int32) (h0 : Heap) (n0 : Nat) (O0 : Old Z n0 h0) (VA : Arv Z h0 va kc .char (1 : Int32) [(.int c0)] (.int (0 : Int32))) (hr0 : own_R c0) (hU : ¬ (own_nd1 c0) = (1 : Int32)) (SA : Sta Z Z.heap "java/lang/StringUTF16" "$assertionsDisabled" "Z" (.int (1 : Int32))) (SHI : Sta Z Z.heap "java/lang/StringUTF16" "HI_BYTE_SHIFT" "I" (.int (0 : Int32))) (SLO : Sta Z Z.heap "java/lang/StringUTF16" "LO_BYTE_SHIFT" "I" (.int (8 : Int32))) :
    own_MF l own_m18 (Jvm.Cond.code own_m18 jdk_52_method_16_code 6 (some (.array .byte)) :: ws) ({ frames := 3, cells := 2, slots := 3, locals := 40 } : Room) #[(.ref va), (.int (0 : Int32)), (.int (1 : Int32))] Z h0 (Q_c3u_1 Z va kc c0 h0 n0) := by
  refine own_met (own := "java/lang/StringUTF16") (nme := "compress") rfl rfl (plainFor_of_name pn_3) ?_
  intro p e s m below meth c s₁ hx hby hml hown hnm X0 e0 hret hlk hZ
  have N0 := Fr.nil n0
  rw [ef_c3u_1 m va (0 : Int32) (1 : Int32)]
  refine own_st (T' := s₁) (g' := (mkF m 1 #[rv va, iv (0 : Int32), iv (1 : Int32), .unset, .unset, .unset] [(.int (1 : Int32))])) (fun _ k_ => XS.iloadN X0.here hx rfl (hb hby d12_0) rfl  k_) ?_
  obtain ⟨T1, h1, k1, X1, e1, E1, A1, st1⟩ := newP X0 hx hZ (wd hw 29 rfl) e0 (g := (mkF m 1 #[rv va, iv (0 : Int32), iv (1 : Int32), .unset, .unset, .unset] [(.int (1 : Int32))])) rfl (hb hby d12_1) rfl (by decide) (cap := 1) (by decide) (by decide) (by decide) (by decide)
  obtain ⟨b1, g1⟩ : ∃ z, z = h0.size := ⟨_, rfl⟩
  rw [← g1] at A1 st1
  have fr1 : n0 ≤ b1 := Nat.le_trans (own_z O0) (Nat.le_of_eq g1.symm)
  have sz1 : h0.size ≤ b1 := Nat.le_trans (Keep.refl h0 []).1 (Nat.le_of_eq g1.symm)
  have V1 : Arv Z h1 b1 k1 .byte (1 : Int32) [(.int (0 : Int32))] (.int (0 : Int32)) := (Arv.new A1 (by decide)).pad (pad_rep [] (.int (0 : Int32)) 1)
  refine own_st (T' := T1) (g' := (mkF m 3 #[rv va, iv (0 : Int32), iv (1 : Int32), .unset, .unset, .unset] [(.ref b1)])) st1 ?_
  clear st1
  refine own_st (T' := T1) (g' := (mkF m 4 #[rv va, iv (0 : Int32), iv (1 : Int32), rv b1, .unset, .unset] [])) (fun _ k_ => XS.astoreN X1.here hx rfl (hb hby d12_3) rfl rfl (l' := #[rv va, iv (0 : Int32), iv (1 : Int32), rv b1, .unset, .unset]) rfl k_) ?_
  refine own_st (T' := T1) (g' := (mkF m 5 #[rv va, iv (0 : Int32), iv (1 : Int32), rv b1, .unset, .unset] [(.ref va)])) (fun _ k_ => XS.aloadN X1.here hx rfl (hb hby d12_4) rfl rfl  k_) ?_
  refine own_st (T' := T1) (g' := (mkF m 6 #[rv va, iv (0 : Int32), iv (1 : Int32), rv b1, .unset, .unset] [(.int (0 : Int32)), (.ref va)])) (fun _ k_ => XS.iloadN X1.here hx rfl (hb hby d12_5) rfl  k_) ?_
  refine own_st (T' := T1) (g' := (mkF m 7 #[rv va, iv (0 : Int32), iv (1 : Int32), rv b1, .unset, .unset] [(.ref b1), (.int (0 : Int32)), (.ref va)])) (fun _ k_ => XS.aloadN X1.here hx rfl (hb hby d12_6) rfl rfl  k_) ?_
  refine own_st (T' := T1) (g' := (mkF m 8 #[rv va, iv (0 : Int32), iv (1 : Int32), rv b1, .unset, .unset] [(.int (0 : Int32)), (.ref b1), (.int (0 : Int32)), (.ref va)])) (fun _ k_ => XS.iconst X1.here hx rfl (hb hby d12_7) k_) ?_
  refine own_st (T' := T1) (g' := (mkF m 9 #[rv va, iv (0 : Int32), iv (1 : Int32), rv b1, .unset, .unset] [(.int (1 : Int32)), (.int (0 : Int32)), (.ref b1), (.int (0 : Int32)), (.ref va)])) (fun _ k_ => XS.iloadN X1.here hx rfl (hb hby d12_8) rfl  k_) ?_
  have f2 := VA.ext E1
  have ne3 : va ≠ b1 := Nat.ne_of_lt (Nat.lt_of_lt_of_le VA.lt (Nat.le_of_eq g1.symm))
  have f4 := O0.ext E1
  obtain ⟨_, T5, L5, X5, hQ5, st5⟩ := own_callS X1 hx (y := own_m14) hown (mvT hZ (wd hw 61 rfl)) (mvT hZ (wd hw 62 rfl)) (mvT hZ (wd hw 59 rfl)) (mvT hZ (wd hw 63 rfl)) (by decide) (backOf (W := 0) (rm_c5u_1 l Z a0 hw [] va b1 kc k1 c0 h1 n0 f4 f2 V1 ne3 fr1) hZ (wd hw 63 rfl) (wd hw 59 rfl) (by decide) (by decide)) (g := (mkF m 9 #[rv va, iv (0 : Int32), iv (1 : Int32), rv b1, .unset, .unset] [(.int (1 : Int32)), (.int (0 : Int32)), (.ref b1), (.int (0 : Int32)), (.ref va)])) rfl (by rw [hml]; rfl) (argsL := [(.ref va), (.int (0 : Int32)), (.ref b1), (.int (0 : Int32)), (.int (1 : Int32))]) (rest := []) (lenOf pd___CI_BII_I rfl) rfl (by show 2 * 0 + _ ≤ _; exact Nat.le_of_eq rfl) (hb hby d12_9) rfl e1 (by decide) (by decide) (c' := 1) (s' := 1) rfl rfl
  obtain ⟨rfl, Nq5, K5, xq5_full⟩ := hQ5
  have N5 := Fr.app N0 Nq5
  refine own_st (T' := T5) (g' := (mkF m 12 #[rv va, iv (0 : Int32), iv (1 : Int32), rv b1, .unset, .unset] [(.int (own_nd1 c0))])) st5 ?_
  clear st5
  refine own_st (T' := T5) (g' := (mkF m 14 #[rv va, iv (0 : Int32), iv (1 : Int32), rv b1, iv (own_nd1 c0), .unset] [])) (fun _ k_ => XS.istore X5.here hx rfl (hb hby d12_12) rfl (l' := #[rv va, iv (0 : Int32), iv (1 : Int32), rv b1, iv (own_nd1 c0), .unset]) rfl k_) ?_
  refine own_st (T' := T5) (g' := (mkF m 16 #[rv va, iv (0 : Int32), iv (1 : Int32), rv b1, iv (own_nd1 c0), .unset] [(.int (own_nd1 c0))])) (fun _ k_ => XS.iload X5.here hx rfl (hb hby d12_14) rfl  k_) ?_
  refine own_st (T' := T5) (g' := (mkF m 17 #[rv va, iv (0 : Int32), iv (1 : Int32), rv b1, iv (own_nd1 c0), .unset] [(.int (1 : Int32)), (.int (own_nd1 c0))])) (fun _ k_ => XS.iloadN X5.here hx rfl (hb hby d12_16) rfl  k_) ?_
  refine own_st (T' := T5) (g' := (mkF m 20 #[rv va, iv (0 : Int32), iv (1 : Int32), rv b1, iv (own_nd1 c0), .unset] [])) (fun _ k_ => XS.icmpNo X5.here hx rfl (hb hby d12_17) rfl (feq (hU : ¬ ((own_nd1 c0) = (1 : Int32)))).1 k_) ?_
  refine own_st (T' := T5) (g' := (mkF m 21 #[rv va, iv (0 : Int32), iv (1 : Int32), rv b1, iv (own_nd1 c0), .unset] [(.ref va)])) (fun _ k_ => XS.aloadN X5.here hx rfl (hb hby d12_20) rfl rfl  k_) ?_
  refine own_st (T' := T5) (g' := (mkF m 22 #[rv va, iv (0 : Int32), iv (1 : Int32), rv b1, iv (own_nd1 c0), .unset] [(.int (0 : Int32)), (.ref va)])) (fun _ k_ => XS.iloadN X5.here hx rfl (hb hby d12_21) rfl  k_) ?_
  refine own_st (T' := T5) (g' := (mkF m 23 #[rv va, iv (0 : Int32), iv (1 : Int32), rv b1, iv (own_nd1 c0), .unset] [(.int (1 : Int32)), (.int (0 : Int32)), (.ref va)])) (fun _ k_ => XS.iloadN X5.here hx rfl (hb hby d12_22) rfl  k_) ?_
  have f6 := f2.keep K5 (ninS ne3 nin0)
  have f7 := f4.keep K5 (allS fr1 all0)
  have f8 := (Keep.refl h0 []).ext E1
  have f9 := f8.trans K5 (allS (Or.inr sz1) all0)
  obtain ⟨_, T10, L10, X10, hQ10, st10⟩ := own_callS X5 hx (y := own_m17) hown (mvT hZ (wd hw 99 rfl)) (mvT hZ (wd hw 100 rfl)) (mvT hZ (wd hw 59 rfl)) (mvT hZ (wd hw 101 rfl)) (by decide) (backOf (W := 0) (rm_tby_1 l Z a0 hw [] va kc c0 T5.heap n0 f7 f6 SA SHI SLO) hZ (wd hw 101 rfl) (wd hw 59 rfl) (by decide) (by decide)) (g := (mkF m 23 #[rv va, iv (0 : Int32), iv (1 : Int32), rv b1, iv (own_nd1 c0), .unset] [(.int (1 : Int32)), (.int (0 : Int32)), (.ref va)])) rfl (by rw [hml]; rfl) (argsL := [(.ref va), (.int (0 : Int32)), (.int (1 : Int32))]) (rest := []) (lenOf pd___CII__B rfl) rfl (by show 2 * 0 + _ ≤ _; exact Nat.le_of_eq rfl) (hb hby d12_23) rfl rfl (by decide) (by decide) (c' := 2) (s' := 3) rfl rfl
  obtain ⟨t10, kb10, rfl, Nq10, K10, fq10_0, xq10_fresh_t⟩ := hQ10
  have N10 := Fr.app N5 Nq10
  refine own_st (T' := T10) (g' := (mkF m 26 #[rv va, iv (0 : Int32), iv (1 : Int32), rv b1, iv (own_nd1 c0), .unset] [(.ref t10)])) st10 ?_
  clear st10
  refine own_st (T' := T10) (g' := (mkF m 28 #[rv va, iv (0 : Int32), iv (1 : Int32), rv b1, iv (own_nd1 c0), rv t10] [])) (fun _ k_ => XS.astore X10.here hx rfl (hb hby d12_26) rfl rfl (l' := #[rv va, iv (0 : Int32), iv (1 : Int32), rv b1, iv (own_nd1 c0), rv t10]) rfl k_) ?_
  refine own_st (T' := T10) (g' := (mkF m 30 #[rv va, iv (0 : Int32), iv (1 : Int32), rv b1, iv (own_nd1 c0), rv t10] [(.ref t10)])) (fun _ k_ => XS.aload X10.here hx rfl (hb hby d12_28) rfl rfl  k_) ?_
  refine own_st (T' := T10) (g' := (mkF m 32 #[rv va, iv (0 : Int32), iv (1 : Int32), rv b1, iv (own_nd1 c0), rv t10] [(.int (own_nd1 c0)), (.ref t10)])) (fun _ k_ => XS.iload X10.here hx rfl (hb hby d12_30) rfl  k_) ?_
  rcases own_ndB1 hU with hq
  rw [hq.1]
  have f11 := f7.keep K10 all0
  obtain ⟨_, T12, L12, X12, hQ12, st12⟩ := own_callS X10 hx (y := own_m6) hown (mvT hZ (wd hw 115 rfl)) (mvT hZ (wd hw 116 rfl)) (mvT hZ (wd hw 59 rfl)) (mvT hZ (wd hw 117 rfl)) (by decide) (backOf (W := 0) (rm_getc l Z a0 hw [] t10 kb10 [c0] (0 : Int32) 0 T10.heap n0 f11 fq10_0 rfl (Nat.le_of_ble_eq_true rfl : 0 < List.length [c0]) (Nat.le_of_ble_eq_true rfl) (own_aS hr0 own_a0) SA SHI SLO) hZ (wd hw 117 rfl) (wd hw 59 rfl) (by decide) (by decide)) (g := (mkF m 32 #[rv va, iv (0 : Int32), iv (1 : Int32), rv b1, iv (0 : Int32), rv t10] [(.int (0 : Int32)), (.ref t10)])) rfl (by rw [hml]; rfl) (argsL := [(.ref t10), (.int (0 : Int32))]) (rest := []) (lenOf pd___BI_C rfl) rfl (by show 2 * 0 + _ ≤ _; exact Nat.le_of_eq rfl) (hb hby d12_32) rfl rfl (by decide) (by decide) (c' := 2) (s' := 3) rfl rfl
  obtain ⟨rfl, Nq12, eq12⟩ := hQ12
  have N12 := Fr.app N10 Nq12
  refine own_st (T' := T12) (g' := (mkF m 35 #[rv va, iv (0 : Int32), iv (1 : Int32), rv b1, iv (0 : Int32), rv t10] [(.int c0)])) st12 ?_
  clear st12
  refine own_st (T' := T12) (g' := (mkF m 38 #[rv va, iv (0 : Int32), iv (1 : Int32), rv b1, iv (0 : Int32), rv t10] [(.int (255 : Int32)), (.int c0)])) (fun _ k_ => XS.sipush X12.here hx rfl (hb hby d12_35) k_) ?_
  refine own_st (T' := T12) (g' := (mkF m 54 #[rv va, iv (0 : Int32), iv (1 : Int32), rv b1, iv (0 : Int32), rv t10] [])) (fun _ k_ => XS.icmpYes X12.here hx rfl (pc0 := 38) (pc' := 54) rfl (hb hby d12_38) rfl (tlt (hq.2 : (255 : Int32) < c0)).2.2.1 (by decide) (by decide) k_) ?_
  refine own_st (T' := T12) (g' := (mkF m 56 #[rv va, iv (0 : Int32), iv (1 : Int32), rv b1, iv (0 : Int32), rv t10] [(.ref t10)])) (fun _ k_ => XS.aload X12.here hx rfl (hb hby d12_54) rfl rfl  k_) ?_
  have f13 := f9.trans K10 all0
  exact own_retA X12 hx hret rfl rfl hlk (hb hby d12_56) (by decide) (by decide) (by rw [eq12]; exact ⟨t10, kb10, rfl, N12, f13, fq10_0, (Nat.le_trans f9.1 xq10_fresh_t)⟩)
theorem d14_0 : decode jdk_52_method_15_code 0 = .ok (.iload_n 1, 1) := by decide +kernel
theorem d14_1 : decode jdk_52_method_15_code 1 = .ok (.aload_n 0, 1) := by decide +kernel
theorem d14_2 : decode jdk_52_method_15_code 2 = .ok (.arraylength, 1) := by decide +kernel
theorem d14_3 : decode jdk_52_method_15_code 3 = .ok (.isub, 1) := by decide +kernel
theorem d14_4 : decode jdk_52_method_15_code 4 = .ok (.bipush 31, 2) := by decide +kernel
theorem d14_6 : decode jdk_52_method_15_code 6 = .ok (.iushr, 1) := by decide +kernel
theorem d14_7 : decode jdk_52_method_15_code 7 = .ok (.i2b, 1) := by decide +kernel
theorem d14_8 : decode jdk_52_method_15_code 8 = .ok (.ireturn, 1) := by decide +kernel
theorem ef_cdu_1 (m : MethodId) (x0 : Addr) (x1 : Int32) : entryFrame m #[(.ref x0), (.int x1)] 2 = mkF m 0 #[rv x0, iv x1] [] := by first | (simp [entryFrame, mkF, argsToLocals, Value.category]; done) | rfl
def Q_cdu_1 (Z : State) (t : Addr) (kb : ClassId) (vs : List Value) (h0 : Heap) (n0 : Nat) (v : Option Value) (h : Heap) (L : List Loc) : Prop := (v = some (.int (1 : Int32))) ∧ (Fr n0 L) ∧ (h = h0)
set_option maxRecDepth 65536 in
set_option maxHeartbeats 40000000 in
theorem rm_cdu_1 (l : Launch) (Z : State) (a0 : Array Value) (hw : ∀ d ∈ tables_1, d.before a0 Z = true) (ws : List Jvm.Cond) (t : Addr) (kb : ClassId) (vs : List Value) (h0 : Heap) (n0 : Nat) (O0 : Old Z n0 h0) (VT : Arv Z h0 t kb .byte (2 : Int32) vs (.int (0 : Int32))) :
    own_MF l own_m19 (Jvm.Cond.code own_m19 jdk_52_method_15_code 2 (some .byte) :: ws) ({ frames := 0, cells := 0, slots := 0, locals := 0 } : Room) #[(.ref t), (.int (1 : Int32))] Z h0 (Q_cdu_1 Z t kb vs h0 n0) := by
  refine own_met (own := "java/lang/StringUTF16") (nme := "coderFromArrayLen") rfl rfl (plainFor_of_name pn_3) ?_
  intro p e s m below meth c s₁ hx hby hml hown hnm X0 e0 hret hlk hZ
  have N0 := Fr.nil n0
  rw [ef_cdu_1 m t (1 : Int32)]
  refine own_st (T' := s₁) (g' := (mkF m 1 #[rv t, iv (1 : Int32)] [(.int (1 : Int32))])) (fun _ k_ => XS.iloadN X0.here hx rfl (hb hby d14_0) rfl  k_) ?_
  refine own_st (T' := s₁) (g' := (mkF m 2 #[rv t, iv (1 : Int32)] [(.ref t), (.int (1 : Int32))])) (fun _ k_ => XS.aloadN X0.here hx rfl (hb hby d14_1) rfl rfl  k_) ?_
  obtain ⟨cl1, Ar1, -, S1, N1, -, -⟩ := id VT
  refine own_st (T' := s₁) (g' := (mkF m 3 #[rv t, iv (1 : Int32)] [(.int (2 : Int32)), (.int (1 : Int32))])) (fun t_ k_ => X0.arraylength hx (by rw [e0]; exact Ar1.1) (State.isArrayOf_alike hZ.alike Ar1.2.1) (g := (mkF m 2 #[rv t, iv (1 : Int32)] [(.ref t), (.int (1 : Int32))])) rfl rfl (hb hby d14_2) _ (by rw [len_of S1 N1]; exact k_)) ?_
  refine own_st (T' := s₁) (g' := (mkF m 4 #[rv t, iv (1 : Int32)] [(.int (-1 : Int32))])) (fun _ k_ => XS.isub X0.here hx rfl (hb hby d14_3) rfl k_) ?_
  refine own_st (T' := s₁) (g' := (mkF m 6 #[rv t, iv (1 : Int32)] [(.int (31 : Int32)), (.int (-1 : Int32))])) (fun _ k_ => XS.bipush X0.here hx rfl (hb hby d14_4) k_) ?_
  refine own_st (T' := s₁) (g' := (mkF m 7 #[rv t, iv (1 : Int32)] [(.int (((-1 : Int32).toUInt32 >>> ((31 : Int32) &&& 31).toUInt32).toInt32))])) (fun _ k_ => XS.iushr X0.here hx rfl (hb hby d14_6) rfl k_) ?_
  refine own_st (T' := s₁) (g' := (mkF m 8 #[rv t, iv (1 : Int32)] [(.int ((((-1 : Int32).toUInt32 >>> ((31 : Int32) &&& 31).toUInt32).toInt32).toInt8.toInt32))])) (fun _ k_ => XS.i2b X0.here hx rfl (hb hby d14_7) rfl k_) ?_
  exact own_retN X0 hx (t := .byte) hret (by simp) hlk (hb hby d14_8) (by decide) (by decide) ⟨(by decide), N0, e0⟩
theorem d5_27 : decode jdk_42_method_149_code 27 = .ok (.getstatic 38, 3) := by decide +kernel
theorem d5_30 : decode jdk_42_method_149_code 30 = .ok (.ifCond .eq 28, 3) := by decide +kernel
theorem d5_33 : decode jdk_42_method_149_code 33 = .ok (.aload_n 1, 1) := by decide +kernel
theorem d5_34 : decode jdk_42_method_149_code 34 = .ok (.iload_n 2, 1) := by decide +kernel
theorem d5_35 : decode jdk_42_method_149_code 35 = .ok (.iload_n 3, 1) := by decide +kernel
theorem d5_36 : decode jdk_42_method_149_code 36 = .ok (.invokestatic 177, 3) := by decide +kernel
theorem d5_39 : decode jdk_42_method_149_code 39 = .ok (.astore 5, 2) := by decide +kernel
theorem d5_41 : decode jdk_42_method_149_code 41 = .ok (.aload_n 0, 1) := by decide +kernel
theorem d5_42 : decode jdk_42_method_149_code 42 = .ok (.aload 5, 2) := by decide +kernel
theorem d5_44 : decode jdk_42_method_149_code 44 = .ok (.iload_n 3, 1) := by decide +kernel
theorem d5_45 : decode jdk_42_method_149_code 45 = .ok (.invokestatic 47, 3) := by decide +kernel
theorem d5_48 : decode jdk_42_method_149_code 48 = .ok (.putfield 15, 3) := by decide +kernel
theorem d5_51 : decode jdk_42_method_149_code 51 = .ok (.aload_n 0, 1) := by decide +kernel
theorem d5_52 : decode jdk_42_method_149_code 52 = .ok (.aload 5, 2) := by decide +kernel
theorem d5_54 : decode jdk_42_method_149_code 54 = .ok (.putfield 9, 3) := by decide +kernel
theorem d5_57 : decode jdk_42_method_149_code 57 = .ok (.return_, 1) := by decide +kernel
theorem pd___BI_B : parseMethodDescriptor "([BI)B" = some ⟨[(.array .byte), .int], some .byte⟩ := by decide +kernel
theorem ef_in4u_1 (m : MethodId) (x0 : Addr) (x1 : Addr) (x2 : Int32) (x3 : Int32) : entryFrame m #[(.ref x0), (.ref x1), (.int x2), (.int x3), .null] 6 = mkF m 0 #[rv x0, rv x1, iv x2, iv x3, .val .null, .unset] [] := by first | (simp [entryFrame, mkF, argsToLocals, Value.category]; done) | rfl
def Q_in4u_1 (Z : State) (a : Addr) (va : Addr) (kc : ClassId) (cz : Int32) (c0 : Int32) (h0 : Heap) (n0 : Nat) (v : Option Value) (h : Heap) (L : List Loc) : Prop := ∃ (t : Addr) (kb : ClassId), (v = none) ∧ (Fr n0 L) ∧ (Keep h0 h [a]) ∧ (Exa Z h a "java/lang/String") ∧ (Fld Z h a "java/lang/String" "coder" "B" (.int (1 : Int32))) ∧ (Fld Z h a "java/lang/String" "value" "[B" (.ref t)) ∧ (Arv Z h t kb .byte (2 : Int32) [(.int (own_l16 c0)), (.int (own_h16 c0))] (.int (0 : Int32))) ∧ (h0.size ≤ t)
set_option maxRecDepth 65536 in
set_option maxHeartbeats 40000000 in
theorem rm_in4u_1 (l : Launch) (Z : State) (a0 : Array Value) (hw : ∀ d ∈ tables_1, d.before a0 Z = true) (ws : List Jvm.Cond) (a : Addr) (va : Addr) (kc : ClassId) (cz : Int32) (c0 : Int32) (h0 : Heap) (n0 : Nat) (O0 : Old Z n0 h0) (EA : Exa Z h0 a "java/lang/String") (FV : Fld Z h0 a "java/lang/String" "value" "[B" .null) (FC : Fld Z h0 a "java/lang/String" "coder" "B" (.int (0 : Int32))) (fa : n0 ≤ a) (VA : Arv Z h0 va kc .char (1 : Int32) [(.int c0)] (.int (0 : Int32))) (SC : Sta Z Z.heap "java/lang/String" "COMPACT_STRINGS" "Z" (.int cz)) (hcz : ¬ cz = (0 : Int32)) (hr0 : own_R c0) (hU : ¬ (own_nd1 c0) = (1 : Int32)) (SA : Sta Z Z.heap "java/lang/StringUTF16" "$assertionsDisabled" "Z" (.int (1 : Int32))) (SHI : Sta Z Z.heap "java/lang/StringUTF16" "HI_BYTE_SHIFT" "I" (.int (0 : Int32))) (SLO : Sta Z Z.heap "java/lang/StringUTF16" "LO_BYTE_SHIFT" "I" (.int (8 : Int32))) :
    own_MF l own_m12 (Jvm.Cond.code own_m12 jdk_42_method_149_code 6 none :: ws) ({ frames := 4, cells := 2, slots := 3, locals := 57 } : Room) #[(.ref a), (.ref va), (.int (0 : Int32)), (.int (1 : Int32)), .null] Z h0 (Q_in4u_1 Z a va kc cz c0 h0 n0) := by
  refine own_met (own := "java/lang/String") (nme := "<init>") rfl rfl (plainFor_of_name pn_0) ?_
  intro p e s m below meth c s₁ hx hby hml hown hnm X0 e0 hret hlk hZ
  have N0 := Fr.nil n0
  rw [ef_in4u_1 m a va (0 : Int32) (1 : Int32)]
  refine own_st (T' := s₁) (g' := (mkF m 1 #[rv a, rv va, iv (0 : Int32), iv (1 : Int32), .val .null, .unset] [(.ref a)])) (fun _ k_ => XS.aloadN X0.here hx rfl (hb hby d5_0) rfl rfl  k_) ?_
  obtain ⟨T1, X1, e1, st1⟩ := initO X0 hx hZ hown (wd hw 25 rfl) (wd hw 26 rfl) (wd hw 27 rfl) e0 (g := (mkF m 1 #[rv a, rv va, iv (0 : Int32), iv (1 : Int32), .val .null, .unset] [(.ref a)])) rfl (by rw [hml]; rfl) rfl (hb hby d5_1) (by decide) (W := 0) (by show 2 * 0 + _ ≤ _; exact Nat.le_of_eq rfl) (by decide)
  refine own_st (T' := T1) (g' := (mkF m 4 #[rv a, rv va, iv (0 : Int32), iv (1 : Int32), .val .null, .unset] [])) st1 ?_
  clear st1
  refine own_st (T' := T1) (g' := (mkF m 5 #[rv a, rv va, iv (0 : Int32), iv (1 : Int32), .val .null, .unset] [(.int (1 : Int32))])) (fun _ k_ => XS.iloadN X1.here hx rfl (hb hby d5_4) rfl  k_) ?_
  refine own_st (T' := T1) (g' := (mkF m 27 #[rv a, rv va, iv (0 : Int32), iv (1 : Int32), .val .null, .unset] [])) (fun _ k_ => XS.ifYes X1.here hx rfl (pc0 := 5) (pc' := 27) rfl (hb hby d5_5) rfl ((if0 _ _).trans (feq (by decide : ¬ ((1 : Int32) = (0 : Int32)))).2) (by decide) (by decide) k_) ?_
  obtain ⟨T2, X2, e2, st2⟩ := getS2 X1 hx hZ hown (host := "") (Or.inl (wd hw 50 rfl)) Via.refl e1 (SC.ext O0.2) (g := (mkF m 27 #[rv a, rv va, iv (0 : Int32), iv (1 : Int32), .val .null, .unset] [])) rfl (hb hby d5_27)
  refine own_st (T' := T2) (g' := (mkF m 30 #[rv a, rv va, iv (0 : Int32), iv (1 : Int32), .val .null, .unset] [(.int cz)])) st2 ?_
  clear st2
  refine own_st (T' := T2) (g' := (mkF m 33 #[rv a, rv va, iv (0 : Int32), iv (1 : Int32), .val .null, .unset] [])) (fun _ k_ => XS.ifNo X2.here hx rfl (hb hby d5_30) rfl ((if0 _ _).trans (feq (hcz : ¬ (cz = (0 : Int32)))).1) k_) ?_
  refine own_st (T' := T2) (g' := (mkF m 34 #[rv a, rv va, iv (0 : Int32), iv (1 : Int32), .val .null, .unset] [(.ref va)])) (fun _ k_ => XS.aloadN X2.here hx rfl (hb hby d5_33) rfl rfl  k_) ?_
  refine own_st (T' := T2) (g' := (mkF m 35 #[rv a, rv va, iv (0 : Int32), iv (1 : Int32), .val .null, .unset] [(.int (0 : Int32)), (.ref va)])) (fun _ k_ => XS.iloadN X2.here hx rfl (hb hby d5_34) rfl  k_) ?_
  refine own_st (T' := T2) (g' := (mkF m 36 #[rv a, rv va, iv (0 : Int32), iv (1 : Int32), .val .null, .unset] [(.int (1 : Int32)), (.int (0 : Int32)), (.ref va)])) (fun _ k_ => XS.iloadN X2.here hx rfl (hb hby d5_35) rfl  k_) ?_
  obtain ⟨_, T3, L3, X3, hQ3, st3⟩ := own_callS X2 hx (y := own_m18) hown (mvT hZ (wd hw 57 rfl)) (mvT hZ (wd hw 58 rfl)) (mvT hZ (wd hw 59 rfl)) (mvT hZ (wd hw 60 rfl)) (by decide) (backOf (W := 0) (rm_c3u_1 l Z a0 hw [] va kc c0 h0 n0 O0 VA hr0 hU SA SHI SLO) hZ (wd hw 60 rfl) (wd hw 59 rfl) (by decide) (by decide)) (g := (mkF m 36 #[rv a, rv va, iv (0 : Int32), iv (1 : Int32), .val .null, .unset] [(.int (1 : Int32)), (.int (0 : Int32)), (.ref va)])) rfl (by rw [hml]; rfl) (argsL := [(.ref va), (.int (0 : Int32)), (.int (1 : Int32))]) (rest := []) (lenOf pd___CII__B rfl) rfl (by show 2 * 0 + _ ≤ _; exact Nat.le_of_eq rfl) (hb hby d5_36) rfl e2 (by decide) (by decide) (c' := 2) (s' := 3) rfl rfl
  obtain ⟨t3, kb3, rfl, Nq3, K3, fq3_0, xq3_fresh_t⟩ := hQ3
  have N3 := Fr.app N0 Nq3
  refine own_st (T' := T3) (g' := (mkF m 39 #[rv a, rv va, iv (0 : Int32), iv (1 : Int32), .val .null, .unset] [(.ref t3)])) st3 ?_
  clear st3
  refine own_st (T' := T3) (g' := (mkF m 41 #[rv a, rv va, iv (0 : Int32), iv (1 : Int32), .val .null, rv t3] [])) (fun _ k_ => XS.astore X3.here hx rfl (hb hby d5_39) rfl rfl (l' := #[rv a, rv va, iv (0 : Int32), iv (1 : Int32), .val .null, rv t3]) rfl k_) ?_
  refine own_st (T' := T3) (g' := (mkF m 42 #[rv a, rv va, iv (0 : Int32), iv (1 : Int32), .val .null, rv t3] [(.ref a)])) (fun _ k_ => XS.aloadN X3.here hx rfl (hb hby d5_41) rfl rfl  k_) ?_
  refine own_st (T' := T3) (g' := (mkF m 44 #[rv a, rv va, iv (0 : Int32), iv (1 : Int32), .val .null, rv t3] [(.ref t3), (.ref a)])) (fun _ k_ => XS.aload X3.here hx rfl (hb hby d5_42) rfl rfl  k_) ?_
  refine own_st (T' := T3) (g' := (mkF m 45 #[rv a, rv va, iv (0 : Int32), iv (1 : Int32), .val .null, rv t3] [(.int (1 : Int32)), (.ref t3), (.ref a)])) (fun _ k_ => XS.iloadN X3.here hx rfl (hb hby d5_44) rfl  k_) ?_
  have f4 := O0.keep K3 all0
  obtain ⟨_, T5, L5, X5, hQ5, st5⟩ := own_callS X3 hx (y := own_m19) hown (mvT hZ (wd hw 64 rfl)) (mvT hZ (wd hw 65 rfl)) (mvT hZ (wd hw 59 rfl)) (mvT hZ (wd hw 66 rfl)) (by decide) (backOf (W := 1) (rm_cdu_1 l Z a0 hw [] t3 kb3 [(.int (own_l16 c0)), (.int (own_h16 c0))] T3.heap n0 f4 fq3_0) hZ (wd hw 66 rfl) (wd hw 59 rfl) (by decide) (by decide)) (g := (mkF m 45 #[rv a, rv va, iv (0 : Int32), iv (1 : Int32), .val .null, rv t3] [(.int (1 : Int32)), (.ref t3), (.ref a)])) rfl (by rw [hml]; rfl) (argsL := [(.ref t3), (.int (1 : Int32))]) (rest := [(.ref a)]) (lenOf pd___BI_B rfl) rfl (by show 2 * 0 + _ ≤ _; exact Nat.le_of_eq rfl) (hb hby d5_45) rfl rfl (by decide) (by decide) (c' := 2) (s' := 3) rfl rfl
  obtain ⟨rfl, Nq5, eq5⟩ := hQ5
  have N5 := Fr.app N3 Nq5
  refine own_st (T' := T5) (g' := (mkF m 48 #[rv a, rv va, iv (0 : Int32), iv (1 : Int32), .val .null, rv t3] [(.int (1 : Int32)), (.ref a)])) st5 ?_
  clear st5
  have f6 := EA.keep K3
  have f7 := FC.keep K3 nin0
  obtain ⟨T8, h8, X8, e8, W8, st8⟩ := putFN X5 hx hZ hown (wd hw 35 rfl) Via.refl eq5 f7 f6 (Or.inr ⟨(wd hw 31 rfl), rfl, hnm⟩) (wd hw 16 rfl) (ty := .byte) (v' := (.int (1 : Int32))) (by decide) rfl (by decide) (g := (mkF m 48 #[rv a, rv va, iv (0 : Int32), iv (1 : Int32), .val .null, rv t3] [(.int (1 : Int32)), (.ref a)])) rfl rfl (hb hby d5_48)
  have Fw8 : Fld Z h8 a "java/lang/String" "coder" "B" (.int (1 : Int32)) := Fld.same W8 f7
  have N8 := Fr.snoc X8 N5 fa
  refine own_st (T' := T8) (g' := (mkF m 51 #[rv a, rv va, iv (0 : Int32), iv (1 : Int32), .val .null, rv t3] [])) st8 ?_
  clear st8
  refine own_st (T' := T8) (g' := (mkF m 52 #[rv a, rv va, iv (0 : Int32), iv (1 : Int32), .val .null, rv t3] [(.ref a)])) (fun _ k_ => XS.aloadN X8.here hx rfl (hb hby d5_51) rfl rfl  k_) ?_
  refine own_st (T' := T8) (g' := (mkF m 54 #[rv a, rv va, iv (0 : Int32), iv (1 : Int32), .val .null, rv t3] [(.ref t3), (.ref a)])) (fun _ k_ => XS.aload X8.here hx rfl (hb hby d5_52) rfl rfl  k_) ?_
  have f9 := f6.wr W8
  have f10 := FV.keep K3 nin0
  have f11 := f10.other W8 (Or.inr (slot_ne (Or.inr (wd hw 30 rfl)) (Or.inr (wd hw 31 rfl)) (by decide) (t := (.array .byte)) (t' := .byte) (by decide) (by decide)))
  obtain ⟨T12, h12, X12, e12, W12, st12⟩ := putF X8 hx hZ hown (host := "") (Or.inl (wd hw 34 rfl)) Via.refl e8 f11 f9 (Or.inr ⟨(wd hw 30 rfl), rfl, hnm⟩) (wd hw 16 rfl) (ty := (.array .byte)) (by decide) rfl rfl (g := (mkF m 54 #[rv a, rv va, iv (0 : Int32), iv (1 : Int32), .val .null, rv t3] [(.ref t3), (.ref a)])) rfl rfl (hb hby d5_54)
  have Fw12 : Fld Z h12 a "java/lang/String" "value" "[B" (.ref t3) := Fld.same W12 f11
  have N12 := Fr.snoc X12 N8 fa
  refine own_st (T' := T12) (g' := (mkF m 57 #[rv a, rv va, iv (0 : Int32), iv (1 : Int32), .val .null, rv t3] [])) st12 ?_
  clear st12
  have f13 := (Keep.refl h0 [a]).trans K3 all0
  have f14 := f13.wr W8 (Or.inl (List.mem_of_getElem? (i := 0) rfl))
  have f15 := f14.wr W12 (Or.inl (List.mem_of_getElem? (i := 0) rfl))
  have f16 := f9.wr W12
  have f17 := Fw8.other W12 (Or.inr (slot_ne (Or.inr (wd hw 31 rfl)) (Or.inr (wd hw 30 rfl)) (by decide) (t := .byte) (t' := (.array .byte)) (by decide) (by decide)))
  have ne18 : a ≠ t3 := Nat.ne_of_lt (Nat.lt_of_lt_of_le EA.lt xq3_fresh_t)
  have f19 := fq3_0.other W8 (Ne.symm ne18)
  have f20 := f19.other W12 (Ne.symm ne18)
  exact own_retV X12 hx hret hlk (hb hby d5_57) (by decide) (by decide) (by rw [e12]; exact ⟨t3, kb3, rfl, N12, f15, f16, f17, Fw12, f20, (Nat.le_trans (Keep.refl h0 [a]).1 xq3_fresh_t)⟩)
theorem ef_in1u_1 (m : MethodId) (x0 : Addr) (x1 : Addr) : entryFrame m #[(.ref x0), (.ref x1)] 2 = mkF m 0 #[rv x0, rv x1] [] := by first | (simp [entryFrame, mkF, argsToLocals, Value.category]; done) | rfl
def Q_in1u_1 (Z : State) (a : Addr) (va : Addr) (kc : ClassId) (cz : Int32) (c0 : Int32) (h0 : Heap) (n0 : Nat) (v : Option Value) (h : Heap) (L : List Loc) : Prop := ∃ (t : Addr) (kb : ClassId), (v = none) ∧ (Fr n0 L) ∧ (Keep h0 h [a]) ∧ (Exa Z h a "java/lang/String") ∧ (Fld Z h a "java/lang/String" "coder" "B" (.int (1 : Int32))) ∧ (Fld Z h a "java/lang/String" "value" "[B" (.ref t)) ∧ (Arv Z h t kb .byte (2 : Int32) [(.int (own_l16 c0)), (.int (own_h16 c0))] (.int (0 : Int32))) ∧ (h0.size ≤ t)
set_option maxRecDepth 65536 in
set_option maxHeartbeats 40000000 in
theorem rm_in1u_1 (l : Launch) (Z : State) (a0 : Array Value) (hw : ∀ d ∈ tables_1, d.before a0 Z = true) (ws : List Jvm.Cond) (a : Addr) (va : Addr) (kc : ClassId) (cz : Int32) (c0 : Int32) (h0 : Heap) (n0 : Nat) (O0 : Old Z n0 h0) (EA : Exa Z h0 a "java/lang/String") (FV : Fld Z h0 a "java/lang/String" "value" "[B" .null) (FC : Fld Z h0 a "java/lang/String" "coder" "B" (.int (0 : Int32))) (fa : n0 ≤ a) (VA : Arv Z h0 va kc .char (1 : Int32) [(.int c0)] (.int (0 : Int32))) (SC : Sta Z Z.heap "java/lang/String" "COMPACT_STRINGS" "Z" (.int cz)) (hcz : ¬ cz = (0 : Int32)) (hr0 : own_R c0) (hU : ¬ (own_nd1 c0) = (1 : Int32)) (SA : Sta Z Z.heap "java/lang/StringUTF16" "$assertionsDisabled" "Z" (.int (1 : Int32))) (SHI : Sta Z Z.heap "java/lang/StringUTF16" "HI_BYTE_SHIFT" "I" (.int (0 : Int32))) (SLO : Sta Z Z.heap "java/lang/StringUTF16" "LO_BYTE_SHIFT" "I" (.int (8 : Int32))) :
    own_MF l own_m13 (Jvm.Cond.code own_m13 jdk_42_method_3_code 2 none :: ws) ({ frames := 5, cells := 2, slots := 3, locals := 74 } : Room) #[(.ref a), (.ref va)] Z h0 (Q_in1u_1 Z a va kc cz c0 h0 n0) := by
  refine own_met (own := "java/lang/String") (nme := "<init>") rfl rfl (plainFor_of_name pn_0) ?_
  intro p e s m below meth c s₁ hx hby hml hown hnm X0 e0 hret hlk hZ
  have N0 := Fr.nil n0
  rw [ef_in1u_1 m a va]
  refine own_st (T' := s₁) (g' := (mkF m 1 #[rv a, rv va] [(.ref a)])) (fun _ k_ => XS.aloadN X0.here hx rfl (hb hby d4_0) rfl rfl  k_) ?_
  refine own_st (T' := s₁) (g' := (mkF m 2 #[rv a, rv va] [(.ref va), (.ref a)])) (fun _ k_ => XS.aloadN X0.here hx rfl (hb hby d4_1) rfl rfl  k_) ?_
  refine own_st (T' := s₁) (g' := (mkF m 3 #[rv a, rv va] [(.int (0 : Int32)), (.ref va), (.ref a)])) (fun _ k_ => XS.iconst X0.here hx rfl (hb hby d4_2) k_) ?_
  refine own_st (T' := s₁) (g' := (mkF m 4 #[rv a, rv va] [(.ref va), (.int (0 : Int32)), (.ref va), (.ref a)])) (fun _ k_ => XS.aloadN X0.here hx rfl (hb hby d4_3) rfl rfl  k_) ?_
  obtain ⟨cl1, Ar1, -, S1, N1, -, -⟩ := id VA
  refine own_st (T' := s₁) (g' := (mkF m 5 #[rv a, rv va] [(.int (1 : Int32)), (.int (0 : Int32)), (.ref va), (.ref a)])) (fun t_ k_ => X0.arraylength hx (by rw [e0]; exact Ar1.1) (State.isArrayOf_alike hZ.alike Ar1.2.1) (g := (mkF m 4 #[rv a, rv va] [(.ref va), (.int (0 : Int32)), (.ref va), (.ref a)])) rfl rfl (hb hby d4_4) _ (by rw [len_of S1 N1]; exact k_)) ?_
  refine own_st (T' := s₁) (g' := (mkF m 6 #[rv a, rv va] [.null, (.int (1 : Int32)), (.int (0 : Int32)), (.ref va), (.ref a)])) (fun _ k_ => XS.aconstNull X0.here hx rfl (hb hby d4_5) k_) ?_
  obtain ⟨_, T2, L2, X2, hQ2, st2⟩ := own_callI X0 hx (y := own_m12) rfl hown (mvT hZ (wd hw 21 rfl)) (mvT hZ (wd hw 22 rfl)) (mvT hZ (wd hw 24 rfl)) (by decide) (backOf (W := 0) (rm_in4u_1 l Z a0 hw [] a va kc cz c0 h0 n0 O0 EA FV FC fa VA SC hcz hr0 hU SA SHI SLO) hZ (wd hw 24 rfl) (wd hw 17 rfl) (by decide) (by decide)) (g := (mkF m 6 #[rv a, rv va] [.null, (.int (1 : Int32)), (.int (0 : Int32)), (.ref va), (.ref a)])) rfl (by rw [hml]; rfl) (a := a) (argsL := [(.ref va), (.int (0 : Int32)), (.int (1 : Int32)), .null]) (rest := []) (lenOf pd___CIILjava_lang_Void__V rfl) rfl (by show 2 * 0 + _ ≤ _; exact Nat.le_of_eq rfl) (hb hby d4_6) rfl e0 (by decide) (by decide) (c' := 2) (s' := 3) rfl rfl
  obtain ⟨t2, kb2, rfl, Nq2, K2, fq2_0, fq2_1, fq2_2, fq2_3, xq2_fresh_t⟩ := hQ2
  have N2 := Fr.app N0 Nq2
  refine own_st (T' := T2) (g' := (mkF m 9 #[rv a, rv va] [])) st2 ?_
  clear st2
  have f3 := (Keep.refl h0 [a]).trans K2 (allS (Or.inl (List.mem_of_getElem? (i := 0) rfl)) all0)
  exact own_retV X2 hx hret hlk (hb hby d4_9) (by decide) (by decide) ⟨t2, kb2, rfl, N2, f3, fq2_0, fq2_1, fq2_2, fq2_3, (Nat.le_trans (Keep.refl h0 [a]).1 xq2_fresh_t)⟩
theorem d12_57 : decode jdk_52_method_16_code 57 = .ok (.aload_n 3, 1) := by decide +kernel
theorem d12_58 : decode jdk_52_method_16_code 58 = .ok (.areturn, 1) := by decide +kernel
theorem ef_cmp3_1 (m : MethodId) (x0 : Addr) (x1 : Int32) (x2 : Int32) : entryFrame m #[(.ref x0), (.int x1), (.int x2)] 6 = mkF m 0 #[rv x0, iv x1, iv x2, .unset, .unset, .unset] [] := by first | (simp [entryFrame, mkF, argsToLocals, Value.category]; done) | rfl
def Q_cmp3_1 (Z : State) (va : Addr) (kc : ClassId) (c0 : Int32) (h0 : Heap) (n0 : Nat) (v : Option Value) (h : Heap) (L : List Loc) : Prop := ∃ (t : Addr) (kb : ClassId), (v = some (.ref t)) ∧ (Fr n0 L) ∧ (Keep h0 h []) ∧ (Arv Z h t kb .byte (1 : Int32) [(.int (c0.toInt8.toInt32))] (.int (0 : Int32))) ∧ (h0.size ≤ t)
set_option maxRecDepth 65536 in
set_option maxHeartbeats 40000000 in
theorem rm_cmp3_1 (l : Launch) (Z : State) (a0 : Array Value) (hw : ∀ d ∈ tables_1, d.before a0 Z = true) (ws : List Jvm.Cond) (va : Addr) (kc : ClassId) (c0 : Int32) (h0 : Heap) (n0 : Nat) (O0 : Old Z n0 h0) (VA : Arv Z h0 va kc .char (1 : Int32) [(.int c0)] (.int (0 : Int32))) (hp0 : ¬ (255 : Int32) < c0) :
    own_MF l own_m18 (Jvm.Cond.code own_m18 jdk_52_method_16_code 6 (some (.array .byte)) :: ws) ({ frames := 1, cells := 1, slots := 1, locals := 18 } : Room) #[(.ref va), (.int (0 : Int32)), (.int (1 : Int32))] Z h0 (Q_cmp3_1 Z va kc c0 h0 n0) := by
  refine own_met (own := "java/lang/StringUTF16") (nme := "compress") rfl rfl (plainFor_of_name pn_3) ?_
  intro p e s m below meth c s₁ hx hby hml hown hnm X0 e0 hret hlk hZ
  have N0 := Fr.nil n0
  rw [ef_cmp3_1 m va (0 : Int32) (1 : Int32)]
  refine own_st (T' := s₁) (g' := (mkF m 1 #[rv va, iv (0 : Int32), iv (1 : Int32), .unset, .unset, .unset] [(.int (1 : Int32))])) (fun _ k_ => XS.iloadN X0.here hx rfl (hb hby d12_0) rfl  k_) ?_
  obtain ⟨T1, h1, k1, X1, e1, E1, A1, st1⟩ := newP X0 hx hZ (wd hw 29 rfl) e0 (g := (mkF m 1 #[rv va, iv (0 : Int32), iv (1 : Int32), .unset, .unset, .unset] [(.int (1 : Int32))])) rfl (hb hby d12_1) rfl (by decide) (cap := 1) (by decide) (by decide) (by decide) (by decide)
  obtain ⟨b1, g1⟩ : ∃ z, z = h0.size := ⟨_, rfl⟩
  rw [← g1] at A1 st1
  have fr1 : n0 ≤ b1 := Nat.le_trans (own_z O0) (Nat.le_of_eq g1.symm)
  have sz1 : h0.size ≤ b1 := Nat.le_trans (Keep.refl h0 []).1 (Nat.le_of_eq g1.symm)
  have V1 : Arv Z h1 b1 k1 .byte (1 : Int32) [(.int (0 : Int32))] (.int (0 : Int32)) := (Arv.new A1 (by decide)).pad (pad_rep [] (.int (0 : Int32)) 1)
  refine own_st (T' := T1) (g' := (mkF m 3 #[rv va, iv (0 : Int32), iv (1 : Int32), .unset, .unset, .unset] [(.ref b1)])) st1 ?_
  clear st1
  refine own_st (T' := T1) (g' := (mkF m 4 #[rv va, iv (0 : Int32), iv (1 : Int32), rv b1, .unset, .unset] [])) (fun _ k_ => XS.astoreN X1.here hx rfl (hb hby d12_3) rfl rfl (l' := #[rv va, iv (0 : Int32), iv (1 : Int32), rv b1, .unset, .unset]) rfl k_) ?_
  refine own_st (T' := T1) (g' := (mkF m 5 #[rv va, iv (0 : Int32), iv (1 : Int32), rv b1, .unset, .unset] [(.ref va)])) (fun _ k_ => XS.aloadN X1.here hx rfl (hb hby d12_4) rfl rfl  k_) ?_
  refine own_st (T' := T1) (g' := (mkF m 6 #[rv va, iv (0 : Int32), iv (1 : Int32), rv b1, .unset, .unset] [(.int (0 : Int32)), (.ref va)])) (fun _ k_ => XS.iloadN X1.here hx rfl (hb hby d12_5) rfl  k_) ?_
  refine own_st (T' := T1) (g' := (mkF m 7 #[rv va, iv (0 : Int32), iv (1 : Int32), rv b1, .unset, .unset] [(.ref b1), (.int (0 : Int32)), (.ref va)])) (fun _ k_ => XS.aloadN X1.here hx rfl (hb hby d12_6) rfl rfl  k_) ?_
  refine own_st (T' := T1) (g' := (mkF m 8 #[rv va, iv (0 : Int32), iv (1 : Int32), rv b1, .unset, .unset] [(.int (0 : Int32)), (.ref b1), (.int (0 : Int32)), (.ref va)])) (fun _ k_ => XS.iconst X1.here hx rfl (hb hby d12_7) k_) ?_
  refine own_st (T' := T1) (g' := (mkF m 9 #[rv va, iv (0 : Int32), iv (1 : Int32), rv b1, .unset, .unset] [(.int (1 : Int32)), (.int (0 : Int32)), (.ref b1), (.int (0 : Int32)), (.ref va)])) (fun _ k_ => XS.iloadN X1.here hx rfl (hb hby d12_8) rfl  k_) ?_
  have f2 := VA.ext E1
  have ne3 : va ≠ b1 := Nat.ne_of_lt (Nat.lt_of_lt_of_le VA.lt (Nat.le_of_eq g1.symm))
  have f4 := O0.ext E1
  obtain ⟨_, T5, L5, X5, hQ5, st5⟩ := own_callS X1 hx (y := own_m14) hown (mvT hZ (wd hw 61 rfl)) (mvT hZ (wd hw 62 rfl)) (mvT hZ (wd hw 59 rfl)) (mvT hZ (wd hw 63 rfl)) (by decide) (backOf (W := 0) (rm_c5u_1 l Z a0 hw [] va b1 kc k1 c0 h1 n0 f4 f2 V1 ne3 fr1) hZ (wd hw 63 rfl) (wd hw 59 rfl) (by decide) (by decide)) (g := (mkF m 9 #[rv va, iv (0 : Int32), iv (1 : Int32), rv b1, .unset, .unset] [(.int (1 : Int32)), (.int (0 : Int32)), (.ref b1), (.int (0 : Int32)), (.ref va)])) rfl (by rw [hml]; rfl) (argsL := [(.ref va), (.int (0 : Int32)), (.ref b1), (.int (0 : Int32)), (.int (1 : Int32))]) (rest := []) (lenOf pd___CI_BII_I rfl) rfl (by show 2 * 0 + _ ≤ _; exact Nat.le_of_eq rfl) (hb hby d12_9) rfl e1 (by decide) (by decide) (c' := 1) (s' := 1) rfl rfl
  obtain ⟨rfl, Nq5, K5, xq5_full⟩ := hQ5
  have N5 := Fr.app N0 Nq5
  refine own_st (T' := T5) (g' := (mkF m 12 #[rv va, iv (0 : Int32), iv (1 : Int32), rv b1, .unset, .unset] [(.int (own_nd1 c0))])) st5 ?_
  clear st5
  have hnd : (own_nd1 c0) = (1 : Int32) := own_ndC1 hp0
  rw [hnd]
  have Vd : Arv Z T5.heap b1 k1 .byte (1 : Int32) [(.int (c0.toInt8.toInt32))] (.int (0 : Int32)) := xq5_full hnd
  refine own_st (T' := T5) (g' := (mkF m 14 #[rv va, iv (0 : Int32), iv (1 : Int32), rv b1, iv (1 : Int32), .unset] [])) (fun _ k_ => XS.istore X5.here hx rfl (hb hby d12_12) rfl (l' := #[rv va, iv (0 : Int32), iv (1 : Int32), rv b1, iv (1 : Int32), .unset]) rfl k_) ?_
  refine own_st (T' := T5) (g' := (mkF m 16 #[rv va, iv (0 : Int32), iv (1 : Int32), rv b1, iv (1 : Int32), .unset] [(.int (1 : Int32))])) (fun _ k_ => XS.iload X5.here hx rfl (hb hby d12_14) rfl  k_) ?_
  refine own_st (T' := T5) (g' := (mkF m 17 #[rv va, iv (0 : Int32), iv (1 : Int32), rv b1, iv (1 : Int32), .unset] [(.int (1 : Int32)), (.int (1 : Int32))])) (fun _ k_ => XS.iloadN X5.here hx rfl (hb hby d12_16) rfl  k_) ?_
  refine own_st (T' := T5) (g' := (mkF m 57 #[rv va, iv (0 : Int32), iv (1 : Int32), rv b1, iv (1 : Int32), .unset] [])) (fun _ k_ => XS.icmpYes X5.here hx rfl (pc0 := 17) (pc' := 57) rfl (hb hby d12_17) rfl (teq (rfl : (1 : Int32) = (1 : Int32))).1 (by decide) (by decide) k_) ?_
  refine own_st (T' := T5) (g' := (mkF m 58 #[rv va, iv (0 : Int32), iv (1 : Int32), rv b1, iv (1 : Int32), .unset] [(.ref b1)])) (fun _ k_ => XS.aloadN X5.here hx rfl (hb hby d12_57) rfl rfl  k_) ?_
  have f6 := (Keep.refl h0 []).ext E1
  have f7 := f6.trans K5 (allS (Or.inr sz1) all0)
  exact own_retA X5 hx hret rfl rfl hlk (hb hby d12_58) (by decide) (by decide) ⟨b1, k1, rfl, N5, f7, Vd, sz1⟩
theorem ef_cdr_1 (m : MethodId) (x0 : Addr) (x1 : Int32) : entryFrame m #[(.ref x0), (.int x1)] 2 = mkF m 0 #[rv x0, iv x1] [] := by first | (simp [entryFrame, mkF, argsToLocals, Value.category]; done) | rfl
def Q_cdr_1 (Z : State) (t : Addr) (kb : ClassId) (vs : List Value) (h0 : Heap) (n0 : Nat) (v : Option Value) (h : Heap) (L : List Loc) : Prop := (v = some (.int (0 : Int32))) ∧ (Fr n0 L) ∧ (h = h0)
set_option maxRecDepth 65536 in
set_option maxHeartbeats 40000000 in
theorem rm_cdr_1 (l : Launch) (Z : State) (a0 : Array Value) (hw : ∀ d ∈ tables_1, d.before a0 Z = true) (ws : List Jvm.Cond) (t : Addr) (kb : ClassId) (vs : List Value) (h0 : Heap) (n0 : Nat) (O0 : Old Z n0 h0) (VT : Arv Z h0 t kb .byte (1 : Int32) vs (.int (0 : Int32))) :
    own_MF l own_m19 (Jvm.Cond.code own_m19 jdk_52_method_15_code 2 (some .byte) :: ws) ({ frames := 0, cells := 0, slots := 0, locals := 0 } : Room) #[(.ref t), (.int (1 : Int32))] Z h0 (Q_cdr_1 Z t kb vs h0 n0) := by
  refine own_met (own := "java/lang/StringUTF16") (nme := "coderFromArrayLen") rfl rfl (plainFor_of_name pn_3) ?_
  intro p e s m below meth c s₁ hx hby hml hown hnm X0 e0 hret hlk hZ
  have N0 := Fr.nil n0
  rw [ef_cdr_1 m t (1 : Int32)]
  refine own_st (T' := s₁) (g' := (mkF m 1 #[rv t, iv (1 : Int32)] [(.int (1 : Int32))])) (fun _ k_ => XS.iloadN X0.here hx rfl (hb hby d14_0) rfl  k_) ?_
  refine own_st (T' := s₁) (g' := (mkF m 2 #[rv t, iv (1 : Int32)] [(.ref t), (.int (1 : Int32))])) (fun _ k_ => XS.aloadN X0.here hx rfl (hb hby d14_1) rfl rfl  k_) ?_
  obtain ⟨cl1, Ar1, -, S1, N1, -, -⟩ := id VT
  refine own_st (T' := s₁) (g' := (mkF m 3 #[rv t, iv (1 : Int32)] [(.int (1 : Int32)), (.int (1 : Int32))])) (fun t_ k_ => X0.arraylength hx (by rw [e0]; exact Ar1.1) (State.isArrayOf_alike hZ.alike Ar1.2.1) (g := (mkF m 2 #[rv t, iv (1 : Int32)] [(.ref t), (.int (1 : Int32))])) rfl rfl (hb hby d14_2) _ (by rw [len_of S1 N1]; exact k_)) ?_
  refine own_st (T' := s₁) (g' := (mkF m 4 #[rv t, iv (1 : Int32)] [(.int (0 : Int32))])) (fun _ k_ => XS.isub X0.here hx rfl (hb hby d14_3) rfl k_) ?_
  refine own_st (T' := s₁) (g' := (mkF m 6 #[rv t, iv (1 : Int32)] [(.int (31 : Int32)), (.int (0 : Int32))])) (fun _ k_ => XS.bipush X0.here hx rfl (hb hby d14_4) k_) ?_
  refine own_st (T' := s₁) (g' := (mkF m 7 #[rv t, iv (1 : Int32)] [(.int (((0 : Int32).toUInt32 >>> ((31 : Int32) &&& 31).toUInt32).toInt32))])) (fun _ k_ => XS.iushr X0.here hx rfl (hb hby d14_6) rfl k_) ?_
  refine own_st (T' := s₁) (g' := (mkF m 8 #[rv t, iv (1 : Int32)] [(.int ((((0 : Int32).toUInt32 >>> ((31 : Int32) &&& 31).toUInt32).toInt32).toInt8.toInt32))])) (fun _ k_ => XS.i2b X0.here hx rfl (hb hby d14_7) rfl k_) ?_
  exact own_retN X0 hx (t := .byte) hret (by simp) hlk (hb hby d14_8) (by decide) (by decide) ⟨(by decide), N0, e0⟩
theorem ef_ini4_1 (m : MethodId) (x0 : Addr) (x1 : Addr) (x2 : Int32) (x3 : Int32) : entryFrame m #[(.ref x0), (.ref x1), (.int x2), (.int x3), .null] 6 = mkF m 0 #[rv x0, rv x1, iv x2, iv x3, .val .null, .unset] [] := by first | (simp [entryFrame, mkF, argsToLocals, Value.category]; done) | rfl
def Q_ini4_1 (Z : State) (a : Addr) (va : Addr) (kc : ClassId) (cz : Int32) (c0 : Int32) (h0 : Heap) (n0 : Nat) (v : Option Value) (h : Heap) (L : List Loc) : Prop := ∃ (t : Addr) (kb : ClassId), (v = none) ∧ (Fr n0 L) ∧ (Keep h0 h [a]) ∧ (Exa Z h a "java/lang/String") ∧ (Fld Z h a "java/lang/String" "coder" "B" (.int (0 : Int32))) ∧ (Fld Z h a "java/lang/String" "value" "[B" (.ref t)) ∧ (Arv Z h t kb .byte (1 : Int32) [(.int (c0.toInt8.toInt32))] (.int (0 : Int32))) ∧ (h0.size ≤ t)
set_option maxRecDepth 65536 in
set_option maxHeartbeats 40000000 in
theorem rm_ini4_1 (l : Launch) (Z : State) (a0 : Array Value) (hw : ∀ d ∈ tables_1, d.before a0 Z = true) (ws : List Jvm.Cond) (a : Addr) (va : Addr) (kc : ClassId) (cz : Int32) (c0 : Int32) (h0 : Heap) (n0 : Nat) (O0 : Old Z n0 h0) (EA : Exa Z h0 a "java/lang/String") (FV : Fld Z h0 a "java/lang/String" "value" "[B" .null) (FC : Fld Z h0 a "java/lang/String" "coder" "B" (.int (0 : Int32))) (fa : n0 ≤ a) (VA : Arv Z h0 va kc .char (1 : Int32) [(.int c0)] (.int (0 : Int32))) (SC : Sta Z Z.heap "java/lang/String" "COMPACT_STRINGS" "Z" (.int cz)) (hcz : ¬ cz = (0 : Int32)) (hp0 : ¬ (255 : Int32) < c0) :
    own_MF l own_m12 (Jvm.Cond.code own_m12 jdk_42_method_149_code 6 none :: ws) ({ frames := 2, cells := 1, slots := 1, locals := 35 } : Room) #[(.ref a), (.ref va), (.int (0 : Int32)), (.int (1 : Int32)), .null] Z h0 (Q_ini4_1 Z a va kc cz c0 h0 n0) := by
  refine own_met (own := "java/lang/String") (nme := "<init>") rfl rfl (plainFor_of_name pn_0) ?_
  intro p e s m below meth c s₁ hx hby hml hown hnm X0 e0 hret hlk hZ
  have N0 := Fr.nil n0
  rw [ef_ini4_1 m a va (0 : Int32) (1 : Int32)]
  refine own_st (T' := s₁) (g' := (mkF m 1 #[rv a, rv va, iv (0 : Int32), iv (1 : Int32), .val .null, .unset] [(.ref a)])) (fun _ k_ => XS.aloadN X0.here hx rfl (hb hby d5_0) rfl rfl  k_) ?_
  obtain ⟨T1, X1, e1, st1⟩ := initO X0 hx hZ hown (wd hw 25 rfl) (wd hw 26 rfl) (wd hw 27 rfl) e0 (g := (mkF m 1 #[rv a, rv va, iv (0 : Int32), iv (1 : Int32), .val .null, .unset] [(.ref a)])) rfl (by rw [hml]; rfl) rfl (hb hby d5_1) (by decide) (W := 0) (by show 2 * 0 + _ ≤ _; exact Nat.le_of_eq rfl) (by decide)
  refine own_st (T' := T1) (g' := (mkF m 4 #[rv a, rv va, iv (0 : Int32), iv (1 : Int32), .val .null, .unset] [])) st1 ?_
  clear st1
  refine own_st (T' := T1) (g' := (mkF m 5 #[rv a, rv va, iv (0 : Int32), iv (1 : Int32), .val .null, .unset] [(.int (1 : Int32))])) (fun _ k_ => XS.iloadN X1.here hx rfl (hb hby d5_4) rfl  k_) ?_
  refine own_st (T' := T1) (g' := (mkF m 27 #[rv a, rv va, iv (0 : Int32), iv (1 : Int32), .val .null, .unset] [])) (fun _ k_ => XS.ifYes X1.here hx rfl (pc0 := 5) (pc' := 27) rfl (hb hby d5_5) rfl ((if0 _ _).trans (feq (by decide : ¬ ((1 : Int32) = (0 : Int32)))).2) (by decide) (by decide) k_) ?_
  obtain ⟨T2, X2, e2, st2⟩ := getS2 X1 hx hZ hown (host := "") (Or.inl (wd hw 50 rfl)) Via.refl e1 (SC.ext O0.2) (g := (mkF m 27 #[rv a, rv va, iv (0 : Int32), iv (1 : Int32), .val .null, .unset] [])) rfl (hb hby d5_27)
  refine own_st (T' := T2) (g' := (mkF m 30 #[rv a, rv va, iv (0 : Int32), iv (1 : Int32), .val .null, .unset] [(.int cz)])) st2 ?_
  clear st2
  refine own_st (T' := T2) (g' := (mkF m 33 #[rv a, rv va, iv (0 : Int32), iv (1 : Int32), .val .null, .unset] [])) (fun _ k_ => XS.ifNo X2.here hx rfl (hb hby d5_30) rfl ((if0 _ _).trans (feq (hcz : ¬ (cz = (0 : Int32)))).1) k_) ?_
  refine own_st (T' := T2) (g' := (mkF m 34 #[rv a, rv va, iv (0 : Int32), iv (1 : Int32), .val .null, .unset] [(.ref va)])) (fun _ k_ => XS.aloadN X2.here hx rfl (hb hby d5_33) rfl rfl  k_) ?_
  refine own_st (T' := T2) (g' := (mkF m 35 #[rv a, rv va, iv (0 : Int32), iv (1 : Int32), .val .null, .unset] [(.int (0 : Int32)), (.ref va)])) (fun _ k_ => XS.iloadN X2.here hx rfl (hb hby d5_34) rfl  k_) ?_
  refine own_st (T' := T2) (g' := (mkF m 36 #[rv a, rv va, iv (0 : Int32), iv (1 : Int32), .val .null, .unset] [(.int (1 : Int32)), (.int (0 : Int32)), (.ref va)])) (fun _ k_ => XS.iloadN X2.here hx rfl (hb hby d5_35) rfl  k_) ?_
  obtain ⟨_, T3, L3, X3, hQ3, st3⟩ := own_callS X2 hx (y := own_m18) hown (mvT hZ (wd hw 57 rfl)) (mvT hZ (wd hw 58 rfl)) (mvT hZ (wd hw 59 rfl)) (mvT hZ (wd hw 60 rfl)) (by decide) (backOf (W := 0) (rm_cmp3_1 l Z a0 hw [] va kc c0 h0 n0 O0 VA hp0) hZ (wd hw 60 rfl) (wd hw 59 rfl) (by decide) (by decide)) (g := (mkF m 36 #[rv a, rv va, iv (0 : Int32), iv (1 : Int32), .val .null, .unset] [(.int (1 : Int32)), (.int (0 : Int32)), (.ref va)])) rfl (by rw [hml]; rfl) (argsL := [(.ref va), (.int (0 : Int32)), (.int (1 : Int32))]) (rest := []) (lenOf pd___CII__B rfl) rfl (by show 2 * 0 + _ ≤ _; exact Nat.le_of_eq rfl) (hb hby d5_36) rfl e2 (by decide) (by decide) (c' := 1) (s' := 1) rfl rfl
  obtain ⟨t3, kb3, rfl, Nq3, K3, fq3_0, xq3_fresh_t⟩ := hQ3
  have N3 := Fr.app N0 Nq3
  refine own_st (T' := T3) (g' := (mkF m 39 #[rv a, rv va, iv (0 : Int32), iv (1 : Int32), .val .null, .unset] [(.ref t3)])) st3 ?_
  clear st3
  refine own_st (T' := T3) (g' := (mkF m 41 #[rv a, rv va, iv (0 : Int32), iv (1 : Int32), .val .null, rv t3] [])) (fun _ k_ => XS.astore X3.here hx rfl (hb hby d5_39) rfl rfl (l' := #[rv a, rv va, iv (0 : Int32), iv (1 : Int32), .val .null, rv t3]) rfl k_) ?_
  refine own_st (T' := T3) (g' := (mkF m 42 #[rv a, rv va, iv (0 : Int32), iv (1 : Int32), .val .null, rv t3] [(.ref a)])) (fun _ k_ => XS.aloadN X3.here hx rfl (hb hby d5_41) rfl rfl  k_) ?_
  refine own_st (T' := T3) (g' := (mkF m 44 #[rv a, rv va, iv (0 : Int32), iv (1 : Int32), .val .null, rv t3] [(.ref t3), (.ref a)])) (fun _ k_ => XS.aload X3.here hx rfl (hb hby d5_42) rfl rfl  k_) ?_
  refine own_st (T' := T3) (g' := (mkF m 45 #[rv a, rv va, iv (0 : Int32), iv (1 : Int32), .val .null, rv t3] [(.int (1 : Int32)), (.ref t3), (.ref a)])) (fun _ k_ => XS.iloadN X3.here hx rfl (hb hby d5_44) rfl  k_) ?_
  have f4 := O0.keep K3 all0
  obtain ⟨_, T5, L5, X5, hQ5, st5⟩ := own_callS X3 hx (y := own_m19) hown (mvT hZ (wd hw 64 rfl)) (mvT hZ (wd hw 65 rfl)) (mvT hZ (wd hw 59 rfl)) (mvT hZ (wd hw 66 rfl)) (by decide) (backOf (W := 1) (rm_cdr_1 l Z a0 hw [] t3 kb3 [(.int (c0.toInt8.toInt32))] T3.heap n0 f4 fq3_0) hZ (wd hw 66 rfl) (wd hw 59 rfl) (by decide) (by decide)) (g := (mkF m 45 #[rv a, rv va, iv (0 : Int32), iv (1 : Int32), .val .null, rv t3] [(.int (1 : Int32)), (.ref t3), (.ref a)])) rfl (by rw [hml]; rfl) (argsL := [(.ref t3), (.int (1 : Int32))]) (rest := [(.ref a)]) (lenOf pd___BI_B rfl) rfl (by show 2 * 0 + _ ≤ _; exact Nat.le_of_eq rfl) (hb hby d5_45) rfl rfl (by decide) (by decide) (c' := 1) (s' := 1) rfl rfl
  obtain ⟨rfl, Nq5, eq5⟩ := hQ5
  have N5 := Fr.app N3 Nq5
  refine own_st (T' := T5) (g' := (mkF m 48 #[rv a, rv va, iv (0 : Int32), iv (1 : Int32), .val .null, rv t3] [(.int (0 : Int32)), (.ref a)])) st5 ?_
  clear st5
  have f6 := EA.keep K3
  have f7 := FC.keep K3 nin0
  obtain ⟨T8, h8, X8, e8, W8, st8⟩ := putFN X5 hx hZ hown (wd hw 35 rfl) Via.refl eq5 f7 f6 (Or.inr ⟨(wd hw 31 rfl), rfl, hnm⟩) (wd hw 16 rfl) (ty := .byte) (v' := (.int (0 : Int32))) (by decide) rfl (by decide) (g := (mkF m 48 #[rv a, rv va, iv (0 : Int32), iv (1 : Int32), .val .null, rv t3] [(.int (0 : Int32)), (.ref a)])) rfl rfl (hb hby d5_48)
  have Fw8 : Fld Z h8 a "java/lang/String" "coder" "B" (.int (0 : Int32)) := Fld.same W8 f7
  have N8 := Fr.snoc X8 N5 fa
  refine own_st (T' := T8) (g' := (mkF m 51 #[rv a, rv va, iv (0 : Int32), iv (1 : Int32), .val .null, rv t3] [])) st8 ?_
  clear st8
  refine own_st (T' := T8) (g' := (mkF m 52 #[rv a, rv va, iv (0 : Int32), iv (1 : Int32), .val .null, rv t3] [(.ref a)])) (fun _ k_ => XS.aloadN X8.here hx rfl (hb hby d5_51) rfl rfl  k_) ?_
  refine own_st (T' := T8) (g' := (mkF m 54 #[rv a, rv va, iv (0 : Int32), iv (1 : Int32), .val .null, rv t3] [(.ref t3), (.ref a)])) (fun _ k_ => XS.aload X8.here hx rfl (hb hby d5_52) rfl rfl  k_) ?_
  have f9 := f6.wr W8
  have f10 := FV.keep K3 nin0
  have f11 := f10.other W8 (Or.inr (slot_ne (Or.inr (wd hw 30 rfl)) (Or.inr (wd hw 31 rfl)) (by decide) (t := (.array .byte)) (t' := .byte) (by decide) (by decide)))
  obtain ⟨T12, h12, X12, e12, W12, st12⟩ := putF X8 hx hZ hown (host := "") (Or.inl (wd hw 34 rfl)) Via.refl e8 f11 f9 (Or.inr ⟨(wd hw 30 rfl), rfl, hnm⟩) (wd hw 16 rfl) (ty := (.array .byte)) (by decide) rfl rfl (g := (mkF m 54 #[rv a, rv va, iv (0 : Int32), iv (1 : Int32), .val .null, rv t3] [(.ref t3), (.ref a)])) rfl rfl (hb hby d5_54)
  have Fw12 : Fld Z h12 a "java/lang/String" "value" "[B" (.ref t3) := Fld.same W12 f11
  have N12 := Fr.snoc X12 N8 fa
  refine own_st (T' := T12) (g' := (mkF m 57 #[rv a, rv va, iv (0 : Int32), iv (1 : Int32), .val .null, rv t3] [])) st12 ?_
  clear st12
  have f13 := (Keep.refl h0 [a]).trans K3 all0
  have f14 := f13.wr W8 (Or.inl (List.mem_of_getElem? (i := 0) rfl))
  have f15 := f14.wr W12 (Or.inl (List.mem_of_getElem? (i := 0) rfl))
  have f16 := f9.wr W12
  have f17 := Fw8.other W12 (Or.inr (slot_ne (Or.inr (wd hw 31 rfl)) (Or.inr (wd hw 30 rfl)) (by decide) (t := .byte) (t' := (.array .byte)) (by decide) (by decide)))
  have ne18 : a ≠ t3 := Nat.ne_of_lt (Nat.lt_of_lt_of_le EA.lt xq3_fresh_t)
  have f19 := fq3_0.other W8 (Ne.symm ne18)
  have f20 := f19.other W12 (Ne.symm ne18)
  exact own_retV X12 hx hret hlk (hb hby d5_57) (by decide) (by decide) (by rw [e12]; exact ⟨t3, kb3, rfl, N12, f15, f16, f17, Fw12, f20, (Nat.le_trans (Keep.refl h0 [a]).1 xq3_fresh_t)⟩)
theorem ef_ini1_1 (m : MethodId) (x0 : Addr) (x1 : Addr) : entryFrame m #[(.ref x0), (.ref x1)] 2 = mkF m 0 #[rv x0, rv x1] [] := by first | (simp [entryFrame, mkF, argsToLocals, Value.category]; done) | rfl
def Q_ini1_1 (Z : State) (a : Addr) (va : Addr) (kc : ClassId) (cz : Int32) (c0 : Int32) (h0 : Heap) (n0 : Nat) (v : Option Value) (h : Heap) (L : List Loc) : Prop := ∃ (t : Addr) (kb : ClassId), (v = none) ∧ (Fr n0 L) ∧ (Keep h0 h [a]) ∧ (Exa Z h a "java/lang/String") ∧ (Fld Z h a "java/lang/String" "coder" "B" (.int (0 : Int32))) ∧ (Fld Z h a "java/lang/String" "value" "[B" (.ref t)) ∧ (Arv Z h t kb .byte (1 : Int32) [(.int (c0.toInt8.toInt32))] (.int (0 : Int32))) ∧ (h0.size ≤ t)
set_option maxRecDepth 65536 in
set_option maxHeartbeats 40000000 in
theorem rm_ini1_1 (l : Launch) (Z : State) (a0 : Array Value) (hw : ∀ d ∈ tables_1, d.before a0 Z = true) (ws : List Jvm.Cond) (a : Addr) (va : Addr) (kc : ClassId) (cz : Int32) (c0 : Int32) (h0 : Heap) (n0 : Nat) (O0 : Old Z n0 h0) (EA : Exa Z h0 a "java/lang/String") (FV : Fld Z h0 a "java/lang/String" "value" "[B" .null) (FC : Fld Z h0 a "java/lang/String" "coder" "B" (.int (0 : Int32))) (fa : n0 ≤ a) (VA : Arv Z h0 va kc .char (1 : Int32) [(.int c0)] (.int (0 : Int32))) (SC : Sta Z Z.heap "java/lang/String" "COMPACT_STRINGS" "Z" (.int cz)) (hcz : ¬ cz = (0 : Int32)) (hp0 : ¬ (255 : Int32) < c0) :
    own_MF l own_m13 (Jvm.Cond.code own_m13 jdk_42_method_3_code 2 none :: ws) ({ frames := 3, cells := 1, slots := 1, locals := 52 } : Room) #[(.ref a), (.ref va)] Z h0 (Q_ini1_1 Z a va kc cz c0 h0 n0) := by
  refine own_met (own := "java/lang/String") (nme := "<init>") rfl rfl (plainFor_of_name pn_0) ?_
  intro p e s m below meth c s₁ hx hby hml hown hnm X0 e0 hret hlk hZ
  have N0 := Fr.nil n0
  rw [ef_ini1_1 m a va]
  refine own_st (T' := s₁) (g' := (mkF m 1 #[rv a, rv va] [(.ref a)])) (fun _ k_ => XS.aloadN X0.here hx rfl (hb hby d4_0) rfl rfl  k_) ?_
  refine own_st (T' := s₁) (g' := (mkF m 2 #[rv a, rv va] [(.ref va), (.ref a)])) (fun _ k_ => XS.aloadN X0.here hx rfl (hb hby d4_1) rfl rfl  k_) ?_
  refine own_st (T' := s₁) (g' := (mkF m 3 #[rv a, rv va] [(.int (0 : Int32)), (.ref va), (.ref a)])) (fun _ k_ => XS.iconst X0.here hx rfl (hb hby d4_2) k_) ?_
  refine own_st (T' := s₁) (g' := (mkF m 4 #[rv a, rv va] [(.ref va), (.int (0 : Int32)), (.ref va), (.ref a)])) (fun _ k_ => XS.aloadN X0.here hx rfl (hb hby d4_3) rfl rfl  k_) ?_
  obtain ⟨cl1, Ar1, -, S1, N1, -, -⟩ := id VA
  refine own_st (T' := s₁) (g' := (mkF m 5 #[rv a, rv va] [(.int (1 : Int32)), (.int (0 : Int32)), (.ref va), (.ref a)])) (fun t_ k_ => X0.arraylength hx (by rw [e0]; exact Ar1.1) (State.isArrayOf_alike hZ.alike Ar1.2.1) (g := (mkF m 4 #[rv a, rv va] [(.ref va), (.int (0 : Int32)), (.ref va), (.ref a)])) rfl rfl (hb hby d4_4) _ (by rw [len_of S1 N1]; exact k_)) ?_
  refine own_st (T' := s₁) (g' := (mkF m 6 #[rv a, rv va] [.null, (.int (1 : Int32)), (.int (0 : Int32)), (.ref va), (.ref a)])) (fun _ k_ => XS.aconstNull X0.here hx rfl (hb hby d4_5) k_) ?_
  obtain ⟨_, T2, L2, X2, hQ2, st2⟩ := own_callI X0 hx (y := own_m12) rfl hown (mvT hZ (wd hw 21 rfl)) (mvT hZ (wd hw 22 rfl)) (mvT hZ (wd hw 24 rfl)) (by decide) (backOf (W := 0) (rm_ini4_1 l Z a0 hw [] a va kc cz c0 h0 n0 O0 EA FV FC fa VA SC hcz hp0) hZ (wd hw 24 rfl) (wd hw 17 rfl) (by decide) (by decide)) (g := (mkF m 6 #[rv a, rv va] [.null, (.int (1 : Int32)), (.int (0 : Int32)), (.ref va), (.ref a)])) rfl (by rw [hml]; rfl) (a := a) (argsL := [(.ref va), (.int (0 : Int32)), (.int (1 : Int32)), .null]) (rest := []) (lenOf pd___CIILjava_lang_Void__V rfl) rfl (by show 2 * 0 + _ ≤ _; exact Nat.le_of_eq rfl) (hb hby d4_6) rfl e0 (by decide) (by decide) (c' := 1) (s' := 1) rfl rfl
  obtain ⟨t2, kb2, rfl, Nq2, K2, fq2_0, fq2_1, fq2_2, fq2_3, xq2_fresh_t⟩ := hQ2
  have N2 := Fr.app N0 Nq2
  refine own_st (T' := T2) (g' := (mkF m 9 #[rv a, rv va] [])) st2 ?_
  clear st2
  have f3 := (Keep.refl h0 [a]).trans K2 (allS (Or.inl (List.mem_of_getElem? (i := 0) rfl)) all0)
  exact own_retV X2 hx hret hlk (hb hby d4_9) (by decide) (by decide) ⟨t2, kb2, rfl, N2, f3, fq2_0, fq2_1, fq2_2, fq2_3, (Nat.le_trans (Keep.refl h0 [a]).1 xq2_fresh_t)⟩
def own_nd2 (c0 c1 : Int32) : Int32 := if (255 : Int32) < c0 then (0 : Int32) else if (255 : Int32) < c1 then (1 : Int32) else 2
theorem own_ndA2 {c0 c1 : Int32} (h : own_nd2 c0 c1 = (2 : Int32)) : ¬ (255 : Int32) < c0 ∧ ¬ (255 : Int32) < c1 ∧ True := by
  unfold own_nd2 at h
  by_cases h0 : (255 : Int32) < c0
  · rw [if_pos h0] at h; exact absurd h (by decide)
  by_cases h1 : (255 : Int32) < c1
  · rw [if_neg h0, if_pos h1] at h; exact absurd h (by decide)
  exact ⟨h0, h1, trivial⟩
theorem own_ndB2 {c0 c1 : Int32} (h : ¬ own_nd2 c0 c1 = (2 : Int32)) : (own_nd2 c0 c1 = (0 : Int32) ∧ (255 : Int32) < c0) ∨ (own_nd2 c0 c1 = (1 : Int32) ∧ (255 : Int32) < c1) := by
  unfold own_nd2 at h ⊢
  by_cases h0 : (255 : Int32) < c0
  · exact Or.inl ⟨by rw [if_pos h0], h0⟩
  by_cases h1 : (255 : Int32) < c1
  · exact Or.inr (⟨by rw [if_neg h0, if_pos h1], h1⟩)
  exact absurd (by rw [if_neg h0, if_neg h1]) h
theorem own_ndC2 {c0 c1 : Int32} (h0 : ¬ (255 : Int32) < c0) (h1 : ¬ (255 : Int32) < c1) : own_nd2 c0 c1 = (2 : Int32) := by unfold own_nd2; rw [if_neg h0, if_neg h1]
theorem ef_c5u_2 (m : MethodId) (x0 : Addr) (x1 : Int32) (x2 : Addr) (x3 : Int32) (x4 : Int32) : entryFrame m #[(.ref x0), (.int x1), (.ref x2), (.int x3), (.int x4)] 7 = mkF m 0 #[rv x0, iv x1, rv x2, iv x3, iv x4, .unset, .unset] [] := by first | (simp [entryFrame, mkF, argsToLocals, Value.category]; done) | rfl
def Q_c5u_2 (Z : State) (va : Addr) (da : Addr) (kc : ClassId) (kd : ClassId) (c0 : Int32) (c1 : Int32) (h0 : Heap) (n0 : Nat) (v : Option Value) (h : Heap) (L : List Loc) : Prop := (v = some (.int (own_nd2 c0 c1))) ∧ (Fr n0 L) ∧ (Keep h0 h [da]) ∧ ((own_nd2 c0 c1) = (2 : Int32) → Arv Z h da kd .byte (2 : Int32) [(.int (c0.toInt8.toInt32)), (.int (c1.toInt8.toInt32))] (.int (0 : Int32)))
set_option maxRecDepth 65536 in
set_option maxHeartbeats 40000000 in
theorem rm_c5u_2 (l : Launch) (Z : State) (a0 : Array Value) (hw : ∀ d ∈ tables_1, d.before a0 Z = true) (ws : List Jvm.Cond) (va : Addr) (da : Addr) (kc : ClassId) (kd : ClassId) (c0 : Int32) (c1 : Int32) (h0 : Heap) (n0 : Nat) (O0 : Old Z n0 h0) (VA : Arv Z h0 va kc .char (2 : Int32) [(.int c0), (.int c1)] (.int (0 : Int32))) (VD : Arv Z h0 da kd .byte (2 : Int32) [(.int (0 : Int32)), (.int (0 : Int32))] (.int (0 : Int32))) (nad : va ≠ da) (fda : n0 ≤ da) :
    own_MF l own_m14 (Jvm.Cond.code own_m14 jdk_52_method_21_code 7 (some .int) :: ws) ({ frames := 0, cells := 0, slots := 0, locals := 0 } : Room) #[(.ref va), (.int (0 : Int32)), (.ref da), (.int (0 : Int32)), (.int (2 : Int32))] Z h0 (Q_c5u_2 Z va da kc kd c0 c1 h0 n0) := by
  refine own_met (own := "java/lang/StringUTF16") (nme := "compress") rfl rfl (plainFor_of_name pn_3) ?_
  intro p e s m below meth c s₁ hx hby hml hown hnm X0 e0 hret hlk hZ
  have N0 := Fr.nil n0
  rw [ef_c5u_2 m va (0 : Int32) da (0 : Int32) (2 : Int32)]
  refine own_st (T' := s₁) (g' := (mkF m 1 #[rv va, iv (0 : Int32), rv da, iv (0 : Int32), iv (2 : Int32), .unset, .unset] [(.int (0 : Int32))])) (fun _ k_ => XS.iconst X0.here hx rfl (hb hby d13_0) k_) ?_
  refine own_st (T' := s₁) (g' := (mkF m 3 #[rv va, iv (0 : Int32), rv da, iv (0 : Int32), iv (2 : Int32), iv (0 : Int32), .unset] [])) (fun _ k_ => XS.istore X0.here hx rfl (hb hby d13_1) rfl (l' := #[rv va, iv (0 : Int32), rv da, iv (0 : Int32), iv (2 : Int32), iv (0 : Int32), .unset]) rfl k_) ?_
  refine own_st (T' := s₁) (g' := (mkF m 5 #[rv va, iv (0 : Int32), rv da, iv (0 : Int32), iv (2 : Int32), iv (0 : Int32), .unset] [(.int (0 : Int32))])) (fun _ k_ => XS.iload X0.here hx rfl (hb hby d13_3) rfl  k_) ?_
  refine own_st (T' := s₁) (g' := (mkF m 7 #[rv va, iv (0 : Int32), rv da, iv (0 : Int32), iv (2 : Int32), iv (0 : Int32), .unset] [(.int (2 : Int32)), (.int (0 : Int32))])) (fun _ k_ => XS.iload X0.here hx rfl (hb hby d13_5) rfl  k_) ?_
  refine own_st (T' := s₁) (g' := (mkF m 10 #[rv va, iv (0 : Int32), rv da, iv (0 : Int32), iv (2 : Int32), iv (0 : Int32), .unset] [])) (fun _ k_ => XS.icmpNo X0.here hx rfl (hb hby d13_7) rfl (tlt (by decide : (0 : Int32) < (2 : Int32))).2.1 k_) ?_
  refine own_st (T' := s₁) (g' := (mkF m 11 #[rv va, iv (0 : Int32), rv da, iv (0 : Int32), iv (2 : Int32), iv (0 : Int32), .unset] [(.ref va)])) (fun _ k_ => XS.aloadN X0.here hx rfl (hb hby d13_10) rfl rfl  k_) ?_
  refine own_st (T' := s₁) (g' := (mkF m 12 #[rv va, iv (0 : Int32), rv da, iv (0 : Int32), iv (2 : Int32), iv (0 : Int32), .unset] [(.int (0 : Int32)), (.ref va)])) (fun _ k_ => XS.iloadN X0.here hx rfl (hb hby d13_11) rfl  k_) ?_
  obtain ⟨cl1, Ar1, q1, S1, N1, H1, G1⟩ := id VA
  have hin1 : ¬ ((0 : Int32) < 0 ∨ cl1.slots.size ≤ ((0 : Int32)).toNatClampNeg) := inb_of S1 ⟨by decide, by decide⟩
  refine own_st (T' := s₁) (g' := (mkF m 13 #[rv va, iv (0 : Int32), rv da, iv (0 : Int32), iv (2 : Int32), iv (0 : Int32), .unset] [(.int c0)])) (X0.caload hx (j := (0 : Int32)) (v := (.int c0)) (by rw [e0]; exact Ar1.1) (State.isArrayOf_alike hZ.alike Ar1.2.1) Ar1.2.2 hin1 (H1.at hin1 rfl) (g := (mkF m 12 #[rv va, iv (0 : Int32), rv da, iv (0 : Int32), iv (2 : Int32), iv (0 : Int32), .unset] [(.int (0 : Int32)), (.ref va)])) rfl rfl (hb hby d13_12)) ?_
  clear hin1 G1 H1 N1 S1 q1 Ar1 cl1
  refine own_st (T' := s₁) (g' := (mkF m 15 #[rv va, iv (0 : Int32), rv da, iv (0 : Int32), iv (2 : Int32), iv (0 : Int32), iv c0] [])) (fun _ k_ => XS.istore X0.here hx rfl (hb hby d13_13) rfl (l' := #[rv va, iv (0 : Int32), rv da, iv (0 : Int32), iv (2 : Int32), iv (0 : Int32), iv c0]) rfl k_) ?_
  refine own_st (T' := s₁) (g' := (mkF m 17 #[rv va, iv (0 : Int32), rv da, iv (0 : Int32), iv (2 : Int32), iv (0 : Int32), iv c0] [(.int c0)])) (fun _ k_ => XS.iload X0.here hx rfl (hb hby d13_15) rfl  k_) ?_
  refine own_st (T' := s₁) (g' := (mkF m 20 #[rv va, iv (0 : Int32), rv da, iv (0 : Int32), iv (2 : Int32), iv (0 : Int32), iv c0] [(.int (255 : Int32)), (.int c0)])) (fun _ k_ => XS.sipush X0.here hx rfl (hb hby d13_17) k_) ?_
  by_cases hc2 : (255 : Int32) < c0
  · refine own_st (T' := s₁) (g' := (mkF m 23 #[rv va, iv (0 : Int32), rv da, iv (0 : Int32), iv (2 : Int32), iv (0 : Int32), iv c0] [])) (fun _ k_ => XS.icmpNo X0.here hx rfl (hb hby d13_20) rfl (tlt hc2).2.2.2 k_) ?_
    refine own_st (T' := s₁) (g' := (mkF m 25 #[rv va, iv (0 : Int32), rv da, iv (0 : Int32), iv (2 : Int32), iv (0 : Int32), iv c0] [(.int (0 : Int32))])) (fun _ k_ => XS.iload X0.here hx rfl (hb hby d13_23) rfl  k_) ?_
    exact own_retI X0 hx hret hlk (hb hby d13_25) (by decide) (by decide) (by rw [e0]; exact ⟨(by unfold own_nd2; rw [if_pos hc2]), N0, (Keep.refl h0 [da]), (fun q => absurd q (by unfold own_nd2; rw [if_pos hc2]; decide))⟩)
  · refine own_st (T' := s₁) (g' := (mkF m 26 #[rv va, iv (0 : Int32), rv da, iv (0 : Int32), iv (2 : Int32), iv (0 : Int32), iv c0] [])) (fun _ k_ => XS.icmpYes X0.here hx rfl (pc0 := 20) (pc' := 26) rfl (hb hby d13_20) rfl (flt hc2).2.2.2 (by decide) (by decide) k_) ?_
    refine own_st (T' := s₁) (g' := (mkF m 27 #[rv va, iv (0 : Int32), rv da, iv (0 : Int32), iv (2 : Int32), iv (0 : Int32), iv c0] [(.ref da)])) (fun _ k_ => XS.aloadN X0.here hx rfl (hb hby d13_26) rfl rfl  k_) ?_
    refine own_st (T' := s₁) (g' := (mkF m 28 #[rv va, iv (0 : Int32), rv da, iv (0 : Int32), iv (2 : Int32), iv (0 : Int32), iv c0] [(.int (0 : Int32)), (.ref da)])) (fun _ k_ => XS.iloadN X0.here hx rfl (hb hby d13_27) rfl  k_) ?_
    refine own_st (T' := s₁) (g' := (mkF m 30 #[rv va, iv (0 : Int32), rv da, iv (0 : Int32), iv (2 : Int32), iv (0 : Int32), iv c0] [(.int c0), (.int (0 : Int32)), (.ref da)])) (fun _ k_ => XS.iload X0.here hx rfl (hb hby d13_28) rfl  k_) ?_
    refine own_st (T' := s₁) (g' := (mkF m 31 #[rv va, iv (0 : Int32), rv da, iv (0 : Int32), iv (2 : Int32), iv (0 : Int32), iv c0] [(.int (c0.toInt8.toInt32)), (.int (0 : Int32)), (.ref da)])) (fun _ k_ => XS.i2b X0.here hx rfl (hb hby d13_30) rfl k_) ?_
    obtain ⟨cl3, Ar3, q3, S3, N3, H3, G3⟩ := id VD
    have hin3 : ¬ ((0 : Int32) < 0 ∨ cl3.slots.size ≤ ((0 : Int32)).toNatClampNeg) := inb_of S3 ⟨by decide, by decide⟩
    obtain ⟨T4, h4, X4, e4, W4, st4⟩ := stB X0 hx hZ e0 Ar3 (j := (0 : Int32)) hin3 (g := (mkF m 31 #[rv va, iv (0 : Int32), rv da, iv (0 : Int32), iv (2 : Int32), iv (0 : Int32), iv c0] [(.int (c0.toInt8.toInt32)), (.int (0 : Int32)), (.ref da)])) rfl rfl (hb hby d13_31)
    have V4 : Arv Z h4 da kd .byte (2 : Int32) [(.int (nar .byte (c0.toInt8.toInt32))), (.int (0 : Int32))] (.int (0 : Int32)) := Arv.set Ar3 q3 S3 N3 H3 G3 (fits_nar_byte _) W4 0 rfl (Nat.le_of_ble_eq_true rfl)
    have Vn4 : Arv Z h4 da kd .byte (2 : Int32) [(.int (c0.toInt8.toInt32)), (.int (0 : Int32))] (.int (0 : Int32)) := by simpa only [own_bb] using V4
    have Nx4 := Fr.snoc X4 N0 fda
    refine own_st (T' := T4) (g' := (mkF m 32 #[rv va, iv (0 : Int32), rv da, iv (0 : Int32), iv (2 : Int32), iv (0 : Int32), iv c0] [])) st4 ?_
    clear hin3 G3 H3 N3 S3 q3 Ar3 cl3 st4
    refine own_st (T' := T4) (g' := (mkF m 35 #[rv va, iv (1 : Int32), rv da, iv (0 : Int32), iv (2 : Int32), iv (0 : Int32), iv c0] [])) (fun _ k_ => XS.iinc X4.here hx rfl (hb hby d13_32) rfl (l' := #[rv va, iv (1 : Int32), rv da, iv (0 : Int32), iv (2 : Int32), iv (0 : Int32), iv c0]) rfl k_) ?_
    refine own_st (T' := T4) (g' := (mkF m 38 #[rv va, iv (1 : Int32), rv da, iv (1 : Int32), iv (2 : Int32), iv (0 : Int32), iv c0] [])) (fun _ k_ => XS.iinc X4.here hx rfl (hb hby d13_35) rfl (l' := #[rv va, iv (1 : Int32), rv da, iv (1 : Int32), iv (2 : Int32), iv (0 : Int32), iv c0]) rfl k_) ?_
    refine own_st (T' := T4) (g' := (mkF m 41 #[rv va, iv (1 : Int32), rv da, iv (1 : Int32), iv (2 : Int32), iv (1 : Int32), iv c0] [])) (fun _ k_ => XS.iinc X4.here hx rfl (hb hby d13_38) rfl (l' := #[rv va, iv (1 : Int32), rv da, iv (1 : Int32), iv (2 : Int32), iv (1 : Int32), iv c0]) rfl k_) ?_
    refine own_st (T' := T4) (g' := (mkF m 3 #[rv va, iv (1 : Int32), rv da, iv (1 : Int32), iv (2 : Int32), iv (1 : Int32), iv c0] [])) (fun _ k_ => XS.goto X4.here hx rfl (pc0 := 41) (pc' := 3) rfl (hb hby d13_41) (by decide) (by decide) k_) ?_
    refine own_st (T' := T4) (g' := (mkF m 5 #[rv va, iv (1 : Int32), rv da, iv (1 : Int32), iv (2 : Int32), iv (1 : Int32), iv c0] [(.int (1 : Int32))])) (fun _ k_ => XS.iload X4.here hx rfl (hb hby d13_3) rfl  k_) ?_
    refine own_st (T' := T4) (g' := (mkF m 7 #[rv va, iv (1 : Int32), rv da, iv (1 : Int32), iv (2 : Int32), iv (1 : Int32), iv c0] [(.int (2 : Int32)), (.int (1 : Int32))])) (fun _ k_ => XS.iload X4.here hx rfl (hb hby d13_5) rfl  k_) ?_
    refine own_st (T' := T4) (g' := (mkF m 10 #[rv va, iv (1 : Int32), rv da, iv (1 : Int32), iv (2 : Int32), iv (1 : Int32), iv c0] [])) (fun _ k_ => XS.icmpNo X4.here hx rfl (hb hby d13_7) rfl (tlt (by decide : (1 : Int32) < (2 : Int32))).2.1 k_) ?_
    refine own_st (T' := T4) (g' := (mkF m 11 #[rv va, iv (1 : Int32), rv da, iv (1 : Int32), iv (2 : Int32), iv (1 : Int32), iv c0] [(.ref va)])) (fun _ k_ => XS.aloadN X4.here hx rfl (hb hby d13_10) rfl rfl  k_) ?_
    refine own_st (T' := T4) (g' := (mkF m 12 #[rv va, iv (1 : Int32), rv da, iv (1 : Int32), iv (2 : Int32), iv (1 : Int32), iv c0] [(.int (1 : Int32)), (.ref va)])) (fun _ k_ => XS.iloadN X4.here hx rfl (hb hby d13_11) rfl  k_) ?_
    have f5 := VA.other W4 nad
    obtain ⟨cl6, Ar6, q6, S6, N6, H6, G6⟩ := id f5
    have hin6 : ¬ ((1 : Int32) < 0 ∨ cl6.slots.size ≤ ((1 : Int32)).toNatClampNeg) := inb_of S6 ⟨by decide, by decide⟩
    refine own_st (T' := T4) (g' := (mkF m 13 #[rv va, iv (1 : Int32), rv da, iv (1 : Int32), iv (2 : Int32), iv (1 : Int32), iv c0] [(.int c1)])) (X4.caload hx (j := (1 : Int32)) (v := (.int c1)) (by rw [e4]; exact Ar6.1) (State.isArrayOf_alike hZ.alike Ar6.2.1) Ar6.2.2 hin6 (H6.at hin6 rfl) (g := (mkF m 12 #[rv va, iv (1 : Int32), rv da, iv (1 : Int32), iv (2 : Int32), iv (1 : Int32), iv c0] [(.int (1 : Int32)), (.ref va)])) rfl rfl (hb hby d13_12)) ?_
    clear hin6 G6 H6 N6 S6 q6 Ar6 cl6
    refine own_st (T' := T4) (g' := (mkF m 15 #[rv va, iv (1 : Int32), rv da, iv (1 : Int32), iv (2 : Int32), iv (1 : Int32), iv c1] [])) (fun _ k_ => XS.istore X4.here hx rfl (hb hby d13_13) rfl (l' := #[rv va, iv (1 : Int32), rv da, iv (1 : Int32), iv (2 : Int32), iv (1 : Int32), iv c1]) rfl k_) ?_
    refine own_st (T' := T4) (g' := (mkF m 17 #[rv va, iv (1 : Int32), rv da, iv (1 : Int32), iv (2 : Int32), iv (1 : Int32), iv c1] [(.int c1)])) (fun _ k_ => XS.iload X4.here hx rfl (hb hby d13_15) rfl  k_) ?_
    refine own_st (T' := T4) (g' := (mkF m 20 #[rv va, iv (1 : Int32), rv da, iv (1 : Int32), iv (2 : Int32), iv (1 : Int32), iv c1] [(.int (255 : Int32)), (.int c1)])) (fun _ k_ => XS.sipush X4.here hx rfl (hb hby d13_17) k_) ?_
    by_cases hc7 : (255 : Int32) < c1
    · refine own_st (T' := T4) (g' := (mkF m 23 #[rv va, iv (1 : Int32), rv da, iv (1 : Int32), iv (2 : Int32), iv (1 : Int32), iv c1] [])) (fun _ k_ => XS.icmpNo X4.here hx rfl (hb hby d13_20) rfl (tlt hc7).2.2.2 k_) ?_
      refine own_st (T' := T4) (g' := (mkF m 25 #[rv va, iv (1 : Int32), rv da, iv (1 : Int32), iv (2 : Int32), iv (1 : Int32), iv c1] [(.int (1 : Int32))])) (fun _ k_ => XS.iload X4.here hx rfl (hb hby d13_23) rfl  k_) ?_
      have f8 := (Keep.refl h0 [da]).wr W4 (Or.inl (List.mem_of_getElem? (i := 0) rfl))
      exact own_retI X4 hx hret hlk (hb hby d13_25) (by decide) (by decide) (by rw [e4]; exact ⟨(by unfold own_nd2; rw [if_neg hc2, if_pos hc7]), Nx4, f8, (fun q => absurd q (by unfold own_nd2; rw [if_neg hc2, if_pos hc7]; decide))⟩)
    · refine own_st (T' := T4) (g' := (mkF m 26 #[rv va, iv (1 : Int32), rv da, iv (1 : Int32), iv (2 : Int32), iv (1 : Int32), iv c1] [])) (fun _ k_ => XS.icmpYes X4.here hx rfl (pc0 := 20) (pc' := 26) rfl (hb hby d13_20) rfl (flt hc7).2.2.2 (by decide) (by decide) k_) ?_
      refine own_st (T' := T4) (g' := (mkF m 27 #[rv va, iv (1 : Int32), rv da, iv (1 : Int32), iv (2 : Int32), iv (1 : Int32), iv c1] [(.ref da)])) (fun _ k_ => XS.aloadN X4.here hx rfl (hb hby d13_26) rfl rfl  k_) ?_
      refine own_st (T' := T4) (g' := (mkF m 28 #[rv va, iv (1 : Int32), rv da, iv (1 : Int32), iv (2 : Int32), iv (1 : Int32), iv c1] [(.int (1 : Int32)), (.ref da)])) (fun _ k_ => XS.iloadN X4.here hx rfl (hb hby d13_27) rfl  k_) ?_
      refine own_st (T' := T4) (g' := (mkF m 30 #[rv va, iv (1 : Int32), rv da, iv (1 : Int32), iv (2 : Int32), iv (1 : Int32), iv c1] [(.int c1), (.int (1 : Int32)), (.ref da)])) (fun _ k_ => XS.iload X4.here hx rfl (hb hby d13_28) rfl  k_) ?_
      refine own_st (T' := T4) (g' := (mkF m 31 #[rv va, iv (1 : Int32), rv da, iv (1 : Int32), iv (2 : Int32), iv (1 : Int32), iv c1] [(.int (c1.toInt8.toInt32)), (.int (1 : Int32)), (.ref da)])) (fun _ k_ => XS.i2b X4.here hx rfl (hb hby d13_30) rfl k_) ?_
      obtain ⟨cl9, Ar9, q9, S9, N9, H9, G9⟩ := id Vn4
      have hin9 : ¬ ((1 : Int32) < 0 ∨ cl9.slots.size ≤ ((1 : Int32)).toNatClampNeg) := inb_of S9 ⟨by decide, by decide⟩
      obtain ⟨T10, h10, X10, e10, W10, st10⟩ := stB X4 hx hZ e4 Ar9 (j := (1 : Int32)) hin9 (g := (mkF m 31 #[rv va, iv (1 : Int32), rv da, iv (1 : Int32), iv (2 : Int32), iv (1 : Int32), iv c1] [(.int (c1.toInt8.toInt32)), (.int (1 : Int32)), (.ref da)])) rfl rfl (hb hby d13_31)
      have V10 : Arv Z h10 da kd .byte (2 : Int32) [(.int (c0.toInt8.toInt32)), (.int (nar .byte (c1.toInt8.toInt32)))] (.int (0 : Int32)) := Arv.set Ar9 q9 S9 N9 H9 G9 (fits_nar_byte _) W10 1 rfl (Nat.le_of_ble_eq_true rfl)
      have Vn10 : Arv Z h10 da kd .byte (2 : Int32) [(.int (c0.toInt8.toInt32)), (.int (c1.toInt8.toInt32))] (.int (0 : Int32)) := by simpa only [own_bb] using V10
      have Nx10 := Fr.snoc X10 Nx4 fda
      refine own_st (T' := T10) (g' := (mkF m 32 #[rv va, iv (1 : Int32), rv da, iv (1 : Int32), iv (2 : Int32), iv (1 : Int32), iv c1] [])) st10 ?_
      clear hin9 G9 H9 N9 S9 q9 Ar9 cl9 st10
      refine own_st (T' := T10) (g' := (mkF m 35 #[rv va, iv (2 : Int32), rv da, iv (1 : Int32), iv (2 : Int32), iv (1 : Int32), iv c1] [])) (fun _ k_ => XS.iinc X10.here hx rfl (hb hby d13_32) rfl (l' := #[rv va, iv (2 : Int32), rv da, iv (1 : Int32), iv (2 : Int32), iv (1 : Int32), iv c1]) rfl k_) ?_
      refine own_st (T' := T10) (g' := (mkF m 38 #[rv va, iv (2 : Int32), rv da, iv (2 : Int32), iv (2 : Int32), iv (1 : Int32), iv c1] [])) (fun _ k_ => XS.iinc X10.here hx rfl (hb hby d13_35) rfl (l' := #[rv va, iv (2 : Int32), rv da, iv (2 : Int32), iv (2 : Int32), iv (1 : Int32), iv c1]) rfl k_) ?_
      refine own_st (T' := T10) (g' := (mkF m 41 #[rv va, iv (2 : Int32), rv da, iv (2 : Int32), iv (2 : Int32), iv (2 : Int32), iv c1] [])) (fun _ k_ => XS.iinc X10.here hx rfl (hb hby d13_38) rfl (l' := #[rv va, iv (2 : Int32), rv da, iv (2 : Int32), iv (2 : Int32), iv (2 : Int32), iv c1]) rfl k_) ?_
      refine own_st (T' := T10) (g' := (mkF m 3 #[rv va, iv (2 : Int32), rv da, iv (2 : Int32), iv (2 : Int32), iv (2 : Int32), iv c1] [])) (fun _ k_ => XS.goto X10.here hx rfl (pc0 := 41) (pc' := 3) rfl (hb hby d13_41) (by decide) (by decide) k_) ?_
      refine own_st (T' := T10) (g' := (mkF m 5 #[rv va, iv (2 : Int32), rv da, iv (2 : Int32), iv (2 : Int32), iv (2 : Int32), iv c1] [(.int (2 : Int32))])) (fun _ k_ => XS.iload X10.here hx rfl (hb hby d13_3) rfl  k_) ?_
      refine own_st (T' := T10) (g' := (mkF m 7 #[rv va, iv (2 : Int32), rv da, iv (2 : Int32), iv (2 : Int32), iv (2 : Int32), iv c1] [(.int (2 : Int32)), (.int (2 : Int32))])) (fun _ k_ => XS.iload X10.here hx rfl (hb hby d13_5) rfl  k_) ?_
      refine own_st (T' := T10) (g' := (mkF m 44 #[rv va, iv (2 : Int32), rv da, iv (2 : Int32), iv (2 : Int32), iv (2 : Int32), iv c1] [])) (fun _ k_ => XS.icmpYes X10.here hx rfl (pc0 := 7) (pc' := 44) rfl (hb hby d13_7) rfl (flt (by decide : ¬ ((2 : Int32) < (2 : Int32)))).2.1 (by decide) (by decide) k_) ?_
      refine own_st (T' := T10) (g' := (mkF m 46 #[rv va, iv (2 : Int32), rv da, iv (2 : Int32), iv (2 : Int32), iv (2 : Int32), iv c1] [(.int (2 : Int32))])) (fun _ k_ => XS.iload X10.here hx rfl (hb hby d13_44) rfl  k_) ?_
      have f11 := (Keep.refl h0 [da]).wr W4 (Or.inl (List.mem_of_getElem? (i := 0) rfl))
      have f12 := f11.wr W10 (Or.inl (List.mem_of_getElem? (i := 0) rfl))
      exact own_retI X10 hx hret hlk (hb hby d13_46) (by decide) (by decide) (by rw [e10]; exact ⟨(by unfold own_nd2; rw [if_neg hc2, if_neg hc7]), Nx10, f12, (fun _ => Vn10)⟩)
theorem ef_nbl_2 (m : MethodId) (x0 : Int32) : entryFrame m #[(.int x0)] 1 = mkF m 0 #[iv x0] [] := by first | (simp [entryFrame, mkF, argsToLocals, Value.category]; done) | rfl
def Q_nbl_2 (Z : State)  (h0 : Heap) (n0 : Nat) (v : Option Value) (h : Heap) (L : List Loc) : Prop := (v = some (.int (4 : Int32))) ∧ (Fr n0 L) ∧ (h = h0)
set_option maxRecDepth 65536 in
set_option maxHeartbeats 40000000 in
theorem rm_nbl_2 (l : Launch) (Z : State) (a0 : Array Value) (hw : ∀ d ∈ tables_1, d.before a0 Z = true) (ws : List Jvm.Cond)  (h0 : Heap) (n0 : Nat) (O0 : Old Z n0 h0) :
    own_MF l own_m15 (Jvm.Cond.code own_m15 jdk_52_method_3_code 1 (some .int) :: ws) ({ frames := 0, cells := 0, slots := 0, locals := 0 } : Room) #[(.int (2 : Int32))] Z h0 (Q_nbl_2 Z  h0 n0) := by
  refine own_met (own := "java/lang/StringUTF16") (nme := "newBytesLength") rfl rfl (plainFor_of_name pn_3) ?_
  intro p e s m below meth c s₁ hx hby hml hown hnm X0 e0 hret hlk hZ
  have N0 := Fr.nil n0
  rw [ef_nbl_2 m (2 : Int32)]
  refine own_st (T' := s₁) (g' := (mkF m 1 #[iv (2 : Int32)] [(.int (2 : Int32))])) (fun _ k_ => XS.iloadN X0.here hx rfl (hb hby d24_0) rfl  k_) ?_
  refine own_st (T' := s₁) (g' := (mkF m 12 #[iv (2 : Int32)] [])) (fun _ k_ => XS.ifYes X0.here hx rfl (pc0 := 1) (pc' := 12) rfl (hb hby d24_1) rfl ((if0 _ _).trans (flt (by decide : ¬ ((2 : Int32) < (0 : Int32)))).2.1) (by decide) (by decide) k_) ?_
  refine own_st (T' := s₁) (g' := (mkF m 13 #[iv (2 : Int32)] [(.int (2 : Int32))])) (fun _ k_ => XS.iloadN X0.here hx rfl (hb hby d24_12) rfl  k_) ?_
  refine own_st (T' := s₁) (g' := (mkF m 15 #[iv (2 : Int32)] [(.int (1073741823 : Int32)), (.int (2 : Int32))])) (X0.ldcInt hx hown (mvT hZ (wd hw 108 rfl)) (g := (mkF m 13 #[iv (2 : Int32)] [(.int (2 : Int32))])) rfl (hb hby d24_13)) ?_
  refine own_st (T' := s₁) (g' := (mkF m 55 #[iv (2 : Int32)] [])) (fun _ k_ => XS.icmpYes X0.here hx rfl (pc0 := 15) (pc' := 55) rfl (hb hby d24_15) rfl (tlt (by decide : (2 : Int32) < (1073741823 : Int32))).1 (by decide) (by decide) k_) ?_
  refine own_st (T' := s₁) (g' := (mkF m 56 #[iv (2 : Int32)] [(.int (2 : Int32))])) (fun _ k_ => XS.iloadN X0.here hx rfl (hb hby d24_55) rfl  k_) ?_
  refine own_st (T' := s₁) (g' := (mkF m 57 #[iv (2 : Int32)] [(.int (1 : Int32)), (.int (2 : Int32))])) (fun _ k_ => XS.iconst X0.here hx rfl (hb hby d24_56) k_) ?_
  refine own_st (T' := s₁) (g' := (mkF m 58 #[iv (2 : Int32)] [(.int (4 : Int32))])) (fun _ k_ => XS.ishl X0.here hx rfl (hb hby d24_57) rfl k_) ?_
  exact own_retI X0 hx hret hlk (hb hby d24_58) (by decide) (by decide) ⟨rfl, N0, e0⟩
theorem ef_nbf_2 (m : MethodId) (x0 : Int32) : entryFrame m #[(.int x0)] 1 = mkF m 0 #[iv x0] [] := by first | (simp [entryFrame, mkF, argsToLocals, Value.category]; done) | rfl
def Q_nbf_2 (Z : State)  (h0 : Heap) (n0 : Nat) (v : Option Value) (h : Heap) (L : List Loc) : Prop := ∃ (t : Addr) (kb : ClassId), (v = some (.ref t)) ∧ (Fr n0 L) ∧ (Keep h0 h []) ∧ (Arv Z h t kb .byte (4 : Int32) [(.int (0 : Int32)), (.int (0 : Int32)), (.int (0 : Int32)), (.int (0 : Int32))] (.int (0 : Int32))) ∧ (h0.size ≤ t)
set_option maxRecDepth 65536 in
set_option maxHeartbeats 40000000 in
theorem rm_nbf_2 (l : Launch) (Z : State) (a0 : Array Value) (hw : ∀ d ∈ tables_1, d.before a0 Z = true) (ws : List Jvm.Cond)  (h0 : Heap) (n0 : Nat) (O0 : Old Z n0 h0) :
    own_MF l own_m16 (Jvm.Cond.code own_m16 jdk_52_method_2_code 1 (some (.array .byte)) :: ws) ({ frames := 1, cells := 1, slots := 4, locals := 12 } : Room) #[(.int (2 : Int32))] Z h0 (Q_nbf_2 Z  h0 n0) := by
  refine own_met (own := "java/lang/StringUTF16") (nme := "newBytesFor") rfl rfl (plainFor_of_name pn_3) ?_
  intro p e s m below meth c s₁ hx hby hml hown hnm X0 e0 hret hlk hZ
  have N0 := Fr.nil n0
  rw [ef_nbf_2 m (2 : Int32)]
  refine own_st (T' := s₁) (g' := (mkF m 1 #[iv (2 : Int32)] [(.int (2 : Int32))])) (fun _ k_ => XS.iloadN X0.here hx rfl (hb hby d23_0) rfl  k_) ?_
  obtain ⟨_, T1, L1, X1, hQ1, st1⟩ := own_callS X0 hx (y := own_m15) hown (mvT hZ (wd hw 105 rfl)) (mvT hZ (wd hw 106 rfl)) (mvT hZ (wd hw 59 rfl)) (mvT hZ (wd hw 107 rfl)) (by decide) (backOf (W := 0) (rm_nbl_2 l Z a0 hw []  h0 n0 O0) hZ (wd hw 107 rfl) (wd hw 59 rfl) (by decide) (by decide)) (g := (mkF m 1 #[iv (2 : Int32)] [(.int (2 : Int32))])) rfl (by rw [hml]; rfl) (argsL := [(.int (2 : Int32))]) (rest := []) (lenOf pd__I_I rfl) rfl (by show 2 * 0 + _ ≤ _; exact Nat.le_of_eq rfl) (hb hby d23_1) rfl e0 (by decide) (by decide) (c' := 0) (s' := 0) rfl rfl
  obtain ⟨rfl, Nq1, eq1⟩ := hQ1
  have N1 := Fr.app N0 Nq1
  refine own_st (T' := T1) (g' := (mkF m 4 #[iv (2 : Int32)] [(.int (4 : Int32))])) st1 ?_
  clear st1
  obtain ⟨T2, h2, k2, X2, e2, E2, A2, st2⟩ := newP X1 hx hZ (wd hw 29 rfl) eq1 (g := (mkF m 4 #[iv (2 : Int32)] [(.int (4 : Int32))])) rfl (hb hby d23_4) rfl (by decide) (cap := 4) (by decide) (by decide) (by decide) (by decide)
  obtain ⟨b2, g2⟩ : ∃ z, z = h0.size := ⟨_, rfl⟩
  rw [← g2] at A2 st2
  have fr2 : n0 ≤ b2 := Nat.le_trans (own_z O0) (Nat.le_of_eq g2.symm)
  have sz2 : h0.size ≤ b2 := Nat.le_trans (Keep.refl h0 []).1 (Nat.le_of_eq g2.symm)
  have V2 : Arv Z h2 b2 k2 .byte (4 : Int32) [(.int (0 : Int32)), (.int (0 : Int32)), (.int (0 : Int32)), (.int (0 : Int32))] (.int (0 : Int32)) := (Arv.new A2 (by decide)).pad (pad_rep [] (.int (0 : Int32)) 4)
  refine own_st (T' := T2) (g' := (mkF m 6 #[iv (2 : Int32)] [(.ref b2)])) st2 ?_
  clear st2
  have f3 := (Keep.refl h0 []).ext E2
  exact own_retA X2 hx hret rfl rfl hlk (hb hby d23_6) (by decide) (by decide) (by rw [e2]; exact ⟨b2, k2, rfl, N1, f3, V2, sz2⟩)
theorem ef_tby_2 (m : MethodId) (x0 : Addr) (x1 : Int32) (x2 : Int32) : entryFrame m #[(.ref x0), (.int x1), (.int x2)] 5 = mkF m 0 #[rv x0, iv x1, iv x2, .unset, .unset] [] := by first | (simp [entryFrame, mkF, argsToLocals, Value.category]; done) | rfl
def Q_tby_2 (Z : State) (va : Addr) (kc : ClassId) (c0 : Int32) (c1 : Int32) (h0 : Heap) (n0 : Nat) (v : Option Value) (h : Heap) (L : List Loc) : Prop := ∃ (t : Addr) (kb : ClassId), (v = some (.ref t)) ∧ (Fr n0 L) ∧ (Keep h0 h []) ∧ (Arv Z h t kb .byte (4 : Int32) [(.int (own_l16 c0)), (.int (own_h16 c0)), (.int (own_l16 c1)), (.int (own_h16 c1))] (.int (0 : Int32))) ∧ (h0.size ≤ t)
set_option maxRecDepth 65536 in
set_option maxHeartbeats 40000000 in
theorem rm_tby_2 (l : Launch) (Z : State) (a0 : Array Value) (hw : ∀ d ∈ tables_1, d.before a0 Z = true) (ws : List Jvm.Cond) (va : Addr) (kc : ClassId) (c0 : Int32) (c1 : Int32) (h0 : Heap) (n0 : Nat) (O0 : Old Z n0 h0) (VA : Arv Z h0 va kc .char (2 : Int32) [(.int c0), (.int c1)] (.int (0 : Int32))) (SA : Sta Z Z.heap "java/lang/StringUTF16" "$assertionsDisabled" "Z" (.int (1 : Int32))) (SHI : Sta Z Z.heap "java/lang/StringUTF16" "HI_BYTE_SHIFT" "I" (.int (0 : Int32))) (SLO : Sta Z Z.heap "java/lang/StringUTF16" "LO_BYTE_SHIFT" "I" (.int (8 : Int32))) :
    own_MF l own_m17 (Jvm.Cond.code own_m17 jdk_52_method_14_code 5 (some (.array .byte)) :: ws) ({ frames := 2, cells := 1, slots := 4, locals := 24 } : Room) #[(.ref va), (.int (0 : Int32)), (.int (2 : Int32))] Z h0 (Q_tby_2 Z va kc c0 c1 h0 n0) := by
  refine own_met (own := "java/lang/StringUTF16") (nme := "toBytes") rfl rfl (plainFor_of_name pn_3) ?_
  intro p e s m below meth c s₁ hx hby hml hown hnm X0 e0 hret hlk hZ
  have N0 := Fr.nil n0
  rw [ef_tby_2 m va (0 : Int32) (2 : Int32)]
  refine own_st (T' := s₁) (g' := (mkF m 1 #[rv va, iv (0 : Int32), iv (2 : Int32), .unset, .unset] [(.int (2 : Int32))])) (fun _ k_ => XS.iloadN X0.here hx rfl (hb hby d22_0) rfl  k_) ?_
  obtain ⟨_, T1, L1, X1, hQ1, st1⟩ := own_callS X0 hx (y := own_m16) hown (mvT hZ (wd hw 102 rfl)) (mvT hZ (wd hw 103 rfl)) (mvT hZ (wd hw 59 rfl)) (mvT hZ (wd hw 104 rfl)) (by decide) (backOf (W := 0) (rm_nbf_2 l Z a0 hw []  h0 n0 O0) hZ (wd hw 104 rfl) (wd hw 59 rfl) (by decide) (by decide)) (g := (mkF m 1 #[rv va, iv (0 : Int32), iv (2 : Int32), .unset, .unset] [(.int (2 : Int32))])) rfl (by rw [hml]; rfl) (argsL := [(.int (2 : Int32))]) (rest := []) (lenOf pd__I__B rfl) rfl (by show 2 * 0 + _ ≤ _; exact Nat.le_of_eq rfl) (hb hby d22_1) rfl e0 (by decide) (by decide) (c' := 1) (s' := 4) rfl rfl
  obtain ⟨t1, kb1, rfl, Nq1, K1, fq1_0, xq1_fresh_t⟩ := hQ1
  have N1 := Fr.app N0 Nq1
  refine own_st (T' := T1) (g' := (mkF m 4 #[rv va, iv (0 : Int32), iv (2 : Int32), .unset, .unset] [(.ref t1)])) st1 ?_
  clear st1
  refine own_st (T' := T1) (g' := (mkF m 5 #[rv va, iv (0 : Int32), iv (2 : Int32), rv t1, .unset] [])) (fun _ k_ => XS.astoreN X1.here hx rfl (hb hby d22_4) rfl rfl (l' := #[rv va, iv (0 : Int32), iv (2 : Int32), rv t1, .unset]) rfl k_) ?_
  refine own_st (T' := T1) (g' := (mkF m 6 #[rv va, iv (0 : Int32), iv (2 : Int32), rv t1, .unset] [(.int (0 : Int32))])) (fun _ k_ => XS.iconst X1.here hx rfl (hb hby d22_5) k_) ?_
  refine own_st (T' := T1) (g' := (mkF m 8 #[rv va, iv (0 : Int32), iv (2 : Int32), rv t1, iv (0 : Int32)] [])) (fun _ k_ => XS.istore X1.here hx rfl (hb hby d22_6) rfl (l' := #[rv va, iv (0 : Int32), iv (2 : Int32), rv t1, iv (0 : Int32)]) rfl k_) ?_
  refine own_st (T' := T1) (g' := (mkF m 10 #[rv va, iv (0 : Int32), iv (2 : Int32), rv t1, iv (0 : Int32)] [(.int (0 : Int32))])) (fun _ k_ => XS.iload X1.here hx rfl (hb hby d22_8) rfl  k_) ?_
  refine own_st (T' := T1) (g' := (mkF m 11 #[rv va, iv (0 : Int32), iv (2 : Int32), rv t1, iv (0 : Int32)] [(.int (2 : Int32)), (.int (0 : Int32))])) (fun _ k_ => XS.iloadN X1.here hx rfl (hb hby d22_10) rfl  k_) ?_
  refine own_st (T' := T1) (g' := (mkF m 14 #[rv va, iv (0 : Int32), iv (2 : Int32), rv t1, iv (0 : Int32)] [])) (fun _ k_ => XS.icmpNo X1.here hx rfl (hb hby d22_11) rfl (tlt (by decide : (0 : Int32) < (2 : Int32))).2.1 k_) ?_
  refine own_st (T' := T1) (g' := (mkF m 15 #[rv va, iv (0 : Int32), iv (2 : Int32), rv t1, iv (0 : Int32)] [(.ref t1)])) (fun _ k_ => XS.aloadN X1.here hx rfl (hb hby d22_14) rfl rfl  k_) ?_
  refine own_st (T' := T1) (g' := (mkF m 17 #[rv va, iv (0 : Int32), iv (2 : Int32), rv t1, iv (0 : Int32)] [(.int (0 : Int32)), (.ref t1)])) (fun _ k_ => XS.iload X1.here hx rfl (hb hby d22_15) rfl  k_) ?_
  refine own_st (T' := T1) (g' := (mkF m 18 #[rv va, iv (0 : Int32), iv (2 : Int32), rv t1, iv (0 : Int32)] [(.ref va), (.int (0 : Int32)), (.ref t1)])) (fun _ k_ => XS.aloadN X1.here hx rfl (hb hby d22_17) rfl rfl  k_) ?_
  refine own_st (T' := T1) (g' := (mkF m 19 #[rv va, iv (0 : Int32), iv (2 : Int32), rv t1, iv (0 : Int32)] [(.int (0 : Int32)), (.ref va), (.int (0 : Int32)), (.ref t1)])) (fun _ k_ => XS.iloadN X1.here hx rfl (hb hby d22_18) rfl  k_) ?_
  have f2 := VA.keep K1 nin0
  obtain ⟨cl3, Ar3, q3, S3, N3, H3, G3⟩ := id f2
  have hin3 : ¬ ((0 : Int32) < 0 ∨ cl3.slots.size ≤ ((0 : Int32)).toNatClampNeg) := inb_of S3 ⟨by decide, by decide⟩
  refine own_st (T' := T1) (g' := (mkF m 20 #[rv va, iv (0 : Int32), iv (2 : Int32), rv t1, iv (0 : Int32)] [(.int c0), (.int (0 : Int32)), (.ref t1)])) (X1.caload hx (j := (0 : Int32)) (v := (.int c0)) Ar3.1 (State.isArrayOf_alike hZ.alike Ar3.2.1) Ar3.2.2 hin3 (H3.at hin3 rfl) (g := (mkF m 19 #[rv va, iv (0 : Int32), iv (2 : Int32), rv t1, iv (0 : Int32)] [(.int (0 : Int32)), (.ref va), (.int (0 : Int32)), (.ref t1)])) rfl rfl (hb hby d22_19)) ?_
  clear hin3 G3 H3 N3 S3 q3 Ar3 cl3
  have f4 := O0.keep K1 all0
  obtain ⟨_, T5, L5, X5, hQ5, st5⟩ := own_callS X1 hx (y := own_m11) hown (mvT hZ (wd hw 109 rfl)) (mvT hZ (wd hw 110 rfl)) (mvT hZ (wd hw 59 rfl)) (mvT hZ (wd hw 111 rfl)) (by decide) (backOf (W := 0) (rm_putc l Z a0 hw [] t1 kb1 (4 : Int32) [(.int (0 : Int32)), (.int (0 : Int32)), (.int (0 : Int32)), (.int (0 : Int32))] (0 : Int32) 0 c0 T1.heap n0 f4 fq1_0 (Nat.le_trans (own_z O0) xq1_fresh_t) rfl (Nat.le_of_ble_eq_true rfl) (by decide) (by decide) (by decide) SA SHI SLO) hZ (wd hw 111 rfl) (wd hw 59 rfl) (by decide) (by decide)) (g := (mkF m 20 #[rv va, iv (0 : Int32), iv (2 : Int32), rv t1, iv (0 : Int32)] [(.int c0), (.int (0 : Int32)), (.ref t1)])) rfl (by rw [hml]; rfl) (argsL := [(.ref t1), (.int (0 : Int32)), (.int c0)]) (rest := []) (lenOf pd___BII_V rfl) rfl (by show 2 * 0 + _ ≤ _; exact Nat.le_of_eq rfl) (hb hby d22_20) rfl rfl (by decide) (by decide) (c' := 1) (s' := 4) rfl rfl
  obtain ⟨rfl, Nq5, K5, fq5_0⟩ := hQ5
  have N5 := Fr.app N1 Nq5
  refine own_st (T' := T5) (g' := (mkF m 23 #[rv va, iv (0 : Int32), iv (2 : Int32), rv t1, iv (0 : Int32)] [])) st5 ?_
  clear st5
  have Vp5 : Arv Z T5.heap t1 kb1 .byte (4 : Int32) [(.int (own_l16 c0)), (.int (own_h16 c0)), (.int (0 : Int32)), (.int (0 : Int32))] (.int (0 : Int32)) := fq5_0
  refine own_st (T' := T5) (g' := (mkF m 26 #[rv va, iv (1 : Int32), iv (2 : Int32), rv t1, iv (0 : Int32)] [])) (fun _ k_ => XS.iinc X5.here hx rfl (hb hby d22_23) rfl (l' := #[rv va, iv (1 : Int32), iv (2 : Int32), rv t1, iv (0 : Int32)]) rfl k_) ?_
  refine own_st (T' := T5) (g' := (mkF m 29 #[rv va, iv (1 : Int32), iv (2 : Int32), rv t1, iv (1 : Int32)] [])) (fun _ k_ => XS.iinc X5.here hx rfl (hb hby d22_26) rfl (l' := #[rv va, iv (1 : Int32), iv (2 : Int32), rv t1, iv (1 : Int32)]) rfl k_) ?_
  refine own_st (T' := T5) (g' := (mkF m 8 #[rv va, iv (1 : Int32), iv (2 : Int32), rv t1, iv (1 : Int32)] [])) (fun _ k_ => XS.goto X5.here hx rfl (pc0 := 29) (pc' := 8) rfl (hb hby d22_29) (by decide) (by decide) k_) ?_
  refine own_st (T' := T5) (g' := (mkF m 10 #[rv va, iv (1 : Int32), iv (2 : Int32), rv t1, iv (1 : Int32)] [(.int (1 : Int32))])) (fun _ k_ => XS.iload X5.here hx rfl (hb hby d22_8) rfl  k_) ?_
  refine own_st (T' := T5) (g' := (mkF m 11 #[rv va, iv (1 : Int32), iv (2 : Int32), rv t1, iv (1 : Int32)] [(.int (2 : Int32)), (.int (1 : Int32))])) (fun _ k_ => XS.iloadN X5.here hx rfl (hb hby d22_10) rfl  k_) ?_
  refine own_st (T' := T5) (g' := (mkF m 14 #[rv va, iv (1 : Int32), iv (2 : Int32), rv t1, iv (1 : Int32)] [])) (fun _ k_ => XS.icmpNo X5.here hx rfl (hb hby d22_11) rfl (tlt (by decide : (1 : Int32) < (2 : Int32))).2.1 k_) ?_
  refine own_st (T' := T5) (g' := (mkF m 15 #[rv va, iv (1 : Int32), iv (2 : Int32), rv t1, iv (1 : Int32)] [(.ref t1)])) (fun _ k_ => XS.aloadN X5.here hx rfl (hb hby d22_14) rfl rfl  k_) ?_
  refine own_st (T' := T5) (g' := (mkF m 17 #[rv va, iv (1 : Int32), iv (2 : Int32), rv t1, iv (1 : Int32)] [(.int (1 : Int32)), (.ref t1)])) (fun _ k_ => XS.iload X5.here hx rfl (hb hby d22_15) rfl  k_) ?_
  refine own_st (T' := T5) (g' := (mkF m 18 #[rv va, iv (1 : Int32), iv (2 : Int32), rv t1, iv (1 : Int32)] [(.ref va), (.int (1 : Int32)), (.ref t1)])) (fun _ k_ => XS.aloadN X5.here hx rfl (hb hby d22_17) rfl rfl  k_) ?_
  refine own_st (T' := T5) (g' := (mkF m 19 #[rv va, iv (1 : Int32), iv (2 : Int32), rv t1, iv (1 : Int32)] [(.int (1 : Int32)), (.ref va), (.int (1 : Int32)), (.ref t1)])) (fun _ k_ => XS.iloadN X5.here hx rfl (hb hby d22_18) rfl  k_) ?_
  have ne6 : va ≠ t1 := Nat.ne_of_lt (Nat.lt_of_lt_of_le VA.lt xq1_fresh_t)
  have f7 := f2.keep K5 (ninS ne6 nin0)
  obtain ⟨cl8, Ar8, q8, S8, N8, H8, G8⟩ := id f7
  have hin8 : ¬ ((1 : Int32) < 0 ∨ cl8.slots.size ≤ ((1 : Int32)).toNatClampNeg) := inb_of S8 ⟨by decide, by decide⟩
  refine own_st (T' := T5) (g' := (mkF m 20 #[rv va, iv (1 : Int32), iv (2 : Int32), rv t1, iv (1 : Int32)] [(.int c1), (.int (1 : Int32)), (.ref t1)])) (X5.caload hx (j := (1 : Int32)) (v := (.int c1)) Ar8.1 (State.isArrayOf_alike hZ.alike Ar8.2.1) Ar8.2.2 hin8 (H8.at hin8 rfl) (g := (mkF m 19 #[rv va, iv (1 : Int32), iv (2 : Int32), rv t1, iv (1 : Int32)] [(.int (1 : Int32)), (.ref va), (.int (1 : Int32)), (.ref t1)])) rfl rfl (hb hby d22_19)) ?_
  clear hin8 G8 H8 N8 S8 q8 Ar8 cl8
  have f9 := f4.keep K5 (allS (Nat.le_trans (own_z O0) xq1_fresh_t) all0)
  obtain ⟨_, T10, L10, X10, hQ10, st10⟩ := own_callS X5 hx (y := own_m11) hown (mvT hZ (wd hw 109 rfl)) (mvT hZ (wd hw 110 rfl)) (mvT hZ (wd hw 59 rfl)) (mvT hZ (wd hw 111 rfl)) (by decide) (backOf (W := 0) (rm_putc l Z a0 hw [] t1 kb1 (4 : Int32) [(.int (own_l16 c0)), (.int (own_h16 c0)), (.int (0 : Int32)), (.int (0 : Int32))] (1 : Int32) 2 c1 T5.heap n0 f9 Vp5 (Nat.le_trans (own_z O0) xq1_fresh_t) rfl (Nat.le_of_ble_eq_true rfl) (by decide) (by decide) (by decide) SA SHI SLO) hZ (wd hw 111 rfl) (wd hw 59 rfl) (by decide) (by decide)) (g := (mkF m 20 #[rv va, iv (1 : Int32), iv (2 : Int32), rv t1, iv (1 : Int32)] [(.int c1), (.int (1 : Int32)), (.ref t1)])) rfl (by rw [hml]; rfl) (argsL := [(.ref t1), (.int (1 : Int32)), (.int c1)]) (rest := []) (lenOf pd___BII_V rfl) rfl (by show 2 * 0 + _ ≤ _; exact Nat.le_of_eq rfl) (hb hby d22_20) rfl rfl (by decide) (by decide) (c' := 1) (s' := 4) rfl rfl
  obtain ⟨rfl, Nq10, K10, fq10_0⟩ := hQ10
  have N10 := Fr.app N5 Nq10
  refine own_st (T' := T10) (g' := (mkF m 23 #[rv va, iv (1 : Int32), iv (2 : Int32), rv t1, iv (1 : Int32)] [])) st10 ?_
  clear st10
  have Vp10 : Arv Z T10.heap t1 kb1 .byte (4 : Int32) [(.int (own_l16 c0)), (.int (own_h16 c0)), (.int (own_l16 c1)), (.int (own_h16 c1))] (.int (0 : Int32)) := fq10_0
  refine own_st (T' := T10) (g' := (mkF m 26 #[rv va, iv (2 : Int32), iv (2 : Int32), rv t1, iv (1 : Int32)] [])) (fun _ k_ => XS.iinc X10.here hx rfl (hb hby d22_23) rfl (l' := #[rv va, iv (2 : Int32), iv (2 : Int32), rv t1, iv (1 : Int32)]) rfl k_) ?_
  refine own_st (T' := T10) (g' := (mkF m 29 #[rv va, iv (2 : Int32), iv (2 : Int32), rv t1, iv (2 : Int32)] [])) (fun _ k_ => XS.iinc X10.here hx rfl (hb hby d22_26) rfl (l' := #[rv va, iv (2 : Int32), iv (2 : Int32), rv t1, iv (2 : Int32)]) rfl k_) ?_
  refine own_st (T' := T10) (g' := (mkF m 8 #[rv va, iv (2 : Int32), iv (2 : Int32), rv t1, iv (2 : Int32)] [])) (fun _ k_ => XS.goto X10.here hx rfl (pc0 := 29) (pc' := 8) rfl (hb hby d22_29) (by decide) (by decide) k_) ?_
  refine own_st (T' := T10) (g' := (mkF m 10 #[rv va, iv (2 : Int32), iv (2 : Int32), rv t1, iv (2 : Int32)] [(.int (2 : Int32))])) (fun _ k_ => XS.iload X10.here hx rfl (hb hby d22_8) rfl  k_) ?_
  refine own_st (T' := T10) (g' := (mkF m 11 #[rv va, iv (2 : Int32), iv (2 : Int32), rv t1, iv (2 : Int32)] [(.int (2 : Int32)), (.int (2 : Int32))])) (fun _ k_ => XS.iloadN X10.here hx rfl (hb hby d22_10) rfl  k_) ?_
  refine own_st (T' := T10) (g' := (mkF m 32 #[rv va, iv (2 : Int32), iv (2 : Int32), rv t1, iv (2 : Int32)] [])) (fun _ k_ => XS.icmpYes X10.here hx rfl (pc0 := 11) (pc' := 32) rfl (hb hby d22_11) rfl (flt (by decide : ¬ ((2 : Int32) < (2 : Int32)))).2.1 (by decide) (by decide) k_) ?_
  refine own_st (T' := T10) (g' := (mkF m 33 #[rv va, iv (2 : Int32), iv (2 : Int32), rv t1, iv (2 : Int32)] [(.ref t1)])) (fun _ k_ => XS.aloadN X10.here hx rfl (hb hby d22_32) rfl rfl  k_) ?_
  have f11 := (Keep.refl h0 []).trans K1 all0
  have f12 := f11.trans K5 (allS (Or.inr (Nat.le_trans (Keep.refl h0 []).1 xq1_fresh_t)) all0)
  have f13 := f12.trans K10 (allS (Or.inr (Nat.le_trans (Keep.refl h0 []).1 xq1_fresh_t)) all0)
  exact own_retA X10 hx hret rfl rfl hlk (hb hby d22_33) (by decide) (by decide) ⟨t1, kb1, rfl, N10, f13, Vp10, (Nat.le_trans (Keep.refl h0 []).1 xq1_fresh_t)⟩
theorem ef_c3u_2 (m : MethodId) (x0 : Addr) (x1 : Int32) (x2 : Int32) : entryFrame m #[(.ref x0), (.int x1), (.int x2)] 6 = mkF m 0 #[rv x0, iv x1, iv x2, .unset, .unset, .unset] [] := by first | (simp [entryFrame, mkF, argsToLocals, Value.category]; done) | rfl
def Q_c3u_2 (Z : State) (va : Addr) (kc : ClassId) (c0 : Int32) (c1 : Int32) (h0 : Heap) (n0 : Nat) (v : Option Value) (h : Heap) (L : List Loc) : Prop := ∃ (t : Addr) (kb : ClassId), (v = some (.ref t)) ∧ (Fr n0 L) ∧ (Keep h0 h []) ∧ (Arv Z h t kb .byte (4 : Int32) [(.int (own_l16 c0)), (.int (own_h16 c0)), (.int (own_l16 c1)), (.int (own_h16 c1))] (.int (0 : Int32))) ∧ (h0.size ≤ t)
set_option maxRecDepth 65536 in
set_option maxHeartbeats 40000000 in
theorem rm_c3u_2 (l : Launch) (Z : State) (a0 : Array Value) (hw : ∀ d ∈ tables_1, d.before a0 Z = true) (ws : List Jvm.Cond) (va : Addr) (kc : ClassId) (c0 : Int32) (c1 : Int32) (h0 : Heap) (n0 : Nat) (O0 : Old Z n0 h0) (VA : Arv Z h0 va kc .char (2 : Int32) [(.int c0), (.int c1)] (.int (0 : Int32))) (hr0 : own_R c0) (hr1 : own_R c1) (hU : ¬ (own_nd2 c0 c1) = (2 : Int32)) (SA : Sta Z Z.heap "java/lang/StringUTF16" "$assertionsDisabled" "Z" (.int (1 : Int32))) (SHI : Sta Z Z.heap "java/lang/StringUTF16" "HI_BYTE_SHIFT" "I" (.int (0 : Int32))) (SLO : Sta Z Z.heap "java/lang/StringUTF16" "LO_BYTE_SHIFT" "I" (.int (8 : Int32))) :
    own_MF l own_m18 (Jvm.Cond.code own_m18 jdk_52_method_16_code 6 (some (.array .byte)) :: ws) ({ frames := 3, cells := 2, slots := 6, locals := 40 } : Room) #[(.ref va), (.int (0 : Int32)), (.int (2 : Int32))] Z h0 (Q_c3u_2 Z va kc c0 c1 h0 n0) := by
  refine own_met (own := "java/lang/StringUTF16") (nme := "compress") rfl rfl (plainFor_of_name pn_3) ?_
  intro p e s m below meth c s₁ hx hby hml hown hnm X0 e0 hret hlk hZ
  have N0 := Fr.nil n0
  rw [ef_c3u_2 m va (0 : Int32) (2 : Int32)]
  refine own_st (T' := s₁) (g' := (mkF m 1 #[rv va, iv (0 : Int32), iv (2 : Int32), .unset, .unset, .unset] [(.int (2 : Int32))])) (fun _ k_ => XS.iloadN X0.here hx rfl (hb hby d12_0) rfl  k_) ?_
  obtain ⟨T1, h1, k1, X1, e1, E1, A1, st1⟩ := newP X0 hx hZ (wd hw 29 rfl) e0 (g := (mkF m 1 #[rv va, iv (0 : Int32), iv (2 : Int32), .unset, .unset, .unset] [(.int (2 : Int32))])) rfl (hb hby d12_1) rfl (by decide) (cap := 2) (by decide) (by decide) (by decide) (by decide)
  obtain ⟨b1, g1⟩ : ∃ z, z = h0.size := ⟨_, rfl⟩
  rw [← g1] at A1 st1
  have fr1 : n0 ≤ b1 := Nat.le_trans (own_z O0) (Nat.le_of_eq g1.symm)
  have sz1 : h0.size ≤ b1 := Nat.le_trans (Keep.refl h0 []).1 (Nat.le_of_eq g1.symm)
  have V1 : Arv Z h1 b1 k1 .byte (2 : Int32) [(.int (0 : Int32)), (.int (0 : Int32))] (.int (0 : Int32)) := (Arv.new A1 (by decide)).pad (pad_rep [] (.int (0 : Int32)) 2)
  refine own_st (T' := T1) (g' := (mkF m 3 #[rv va, iv (0 : Int32), iv (2 : Int32), .unset, .unset, .unset] [(.ref b1)])) st1 ?_
  clear st1
  refine own_st (T' := T1) (g' := (mkF m 4 #[rv va, iv (0 : Int32), iv (2 : Int32), rv b1, .unset, .unset] [])) (fun _ k_ => XS.astoreN X1.here hx rfl (hb hby d12_3) rfl rfl (l' := #[rv va, iv (0 : Int32), iv (2 : Int32), rv b1, .unset, .unset]) rfl k_) ?_
  refine own_st (T' := T1) (g' := (mkF m 5 #[rv va, iv (0 : Int32), iv (2 : Int32), rv b1, .unset, .unset] [(.ref va)])) (fun _ k_ => XS.aloadN X1.here hx rfl (hb hby d12_4) rfl rfl  k_) ?_
  refine own_st (T' := T1) (g' := (mkF m 6 #[rv va, iv (0 : Int32), iv (2 : Int32), rv b1, .unset, .unset] [(.int (0 : Int32)), (.ref va)])) (fun _ k_ => XS.iloadN X1.here hx rfl (hb hby d12_5) rfl  k_) ?_
  refine own_st (T' := T1) (g' := (mkF m 7 #[rv va, iv (0 : Int32), iv (2 : Int32), rv b1, .unset, .unset] [(.ref b1), (.int (0 : Int32)), (.ref va)])) (fun _ k_ => XS.aloadN X1.here hx rfl (hb hby d12_6) rfl rfl  k_) ?_
  refine own_st (T' := T1) (g' := (mkF m 8 #[rv va, iv (0 : Int32), iv (2 : Int32), rv b1, .unset, .unset] [(.int (0 : Int32)), (.ref b1), (.int (0 : Int32)), (.ref va)])) (fun _ k_ => XS.iconst X1.here hx rfl (hb hby d12_7) k_) ?_
  refine own_st (T' := T1) (g' := (mkF m 9 #[rv va, iv (0 : Int32), iv (2 : Int32), rv b1, .unset, .unset] [(.int (2 : Int32)), (.int (0 : Int32)), (.ref b1), (.int (0 : Int32)), (.ref va)])) (fun _ k_ => XS.iloadN X1.here hx rfl (hb hby d12_8) rfl  k_) ?_
  have f2 := VA.ext E1
  have ne3 : va ≠ b1 := Nat.ne_of_lt (Nat.lt_of_lt_of_le VA.lt (Nat.le_of_eq g1.symm))
  have f4 := O0.ext E1
  obtain ⟨_, T5, L5, X5, hQ5, st5⟩ := own_callS X1 hx (y := own_m14) hown (mvT hZ (wd hw 61 rfl)) (mvT hZ (wd hw 62 rfl)) (mvT hZ (wd hw 59 rfl)) (mvT hZ (wd hw 63 rfl)) (by decide) (backOf (W := 0) (rm_c5u_2 l Z a0 hw [] va b1 kc k1 c0 c1 h1 n0 f4 f2 V1 ne3 fr1) hZ (wd hw 63 rfl) (wd hw 59 rfl) (by decide) (by decide)) (g := (mkF m 9 #[rv va, iv (0 : Int32), iv (2 : Int32), rv b1, .unset, .unset] [(.int (2 : Int32)), (.int (0 : Int32)), (.ref b1), (.int (0 : Int32)), (.ref va)])) rfl (by rw [hml]; rfl) (argsL := [(.ref va), (.int (0 : Int32)), (.ref b1), (.int (0 : Int32)), (.int (2 : Int32))]) (rest := []) (lenOf pd___CI_BII_I rfl) rfl (by show 2 * 0 + _ ≤ _; exact Nat.le_of_eq rfl) (hb hby d12_9) rfl e1 (by decide) (by decide) (c' := 1) (s' := 2) rfl rfl
  obtain ⟨rfl, Nq5, K5, xq5_full⟩ := hQ5
  have N5 := Fr.app N0 Nq5
  refine own_st (T' := T5) (g' := (mkF m 12 #[rv va, iv (0 : Int32), iv (2 : Int32), rv b1, .unset, .unset] [(.int (own_nd2 c0 c1))])) st5 ?_
  clear st5
  refine own_st (T' := T5) (g' := (mkF m 14 #[rv va, iv (0 : Int32), iv (2 : Int32), rv b1, iv (own_nd2 c0 c1), .unset] [])) (fun _ k_ => XS.istore X5.here hx rfl (hb hby d12_12) rfl (l' := #[rv va, iv (0 : Int32), iv (2 : Int32), rv b1, iv (own_nd2 c0 c1), .unset]) rfl k_) ?_
  refine own_st (T' := T5) (g' := (mkF m 16 #[rv va, iv (0 : Int32), iv (2 : Int32), rv b1, iv (own_nd2 c0 c1), .unset] [(.int (own_nd2 c0 c1))])) (fun _ k_ => XS.iload X5.here hx rfl (hb hby d12_14) rfl  k_) ?_
  refine own_st (T' := T5) (g' := (mkF m 17 #[rv va, iv (0 : Int32), iv (2 : Int32), rv b1, iv (own_nd2 c0 c1), .unset] [(.int (2 : Int32)), (.int (own_nd2 c0 c1))])) (fun _ k_ => XS.iloadN X5.here hx rfl (hb hby d12_16) rfl  k_) ?_
  refine own_st (T' := T5) (g' := (mkF m 20 #[rv va, iv (0 : Int32), iv (2 : Int32), rv b1, iv (own_nd2 c0 c1), .unset] [])) (fun _ k_ => XS.icmpNo X5.here hx rfl (hb hby d12_17) rfl (feq (hU : ¬ ((own_nd2 c0 c1) = (2 : Int32)))).1 k_) ?_
  refine own_st (T' := T5) (g' := (mkF m 21 #[rv va, iv (0 : Int32), iv (2 : Int32), rv b1, iv (own_nd2 c0 c1), .unset] [(.ref va)])) (fun _ k_ => XS.aloadN X5.here hx rfl (hb hby d12_20) rfl rfl  k_) ?_
  refine own_st (T' := T5) (g' := (mkF m 22 #[rv va, iv (0 : Int32), iv (2 : Int32), rv b1, iv (own_nd2 c0 c1), .unset] [(.int (0 : Int32)), (.ref va)])) (fun _ k_ => XS.iloadN X5.here hx rfl (hb hby d12_21) rfl  k_) ?_
  refine own_st (T' := T5) (g' := (mkF m 23 #[rv va, iv (0 : Int32), iv (2 : Int32), rv b1, iv (own_nd2 c0 c1), .unset] [(.int (2 : Int32)), (.int (0 : Int32)), (.ref va)])) (fun _ k_ => XS.iloadN X5.here hx rfl (hb hby d12_22) rfl  k_) ?_
  have f6 := f2.keep K5 (ninS ne3 nin0)
  have f7 := f4.keep K5 (allS fr1 all0)
  have f8 := (Keep.refl h0 []).ext E1
  have f9 := f8.trans K5 (allS (Or.inr sz1) all0)
  obtain ⟨_, T10, L10, X10, hQ10, st10⟩ := own_callS X5 hx (y := own_m17) hown (mvT hZ (wd hw 99 rfl)) (mvT hZ (wd hw 100 rfl)) (mvT hZ (wd hw 59 rfl)) (mvT hZ (wd hw 101 rfl)) (by decide) (backOf (W := 0) (rm_tby_2 l Z a0 hw [] va kc c0 c1 T5.heap n0 f7 f6 SA SHI SLO) hZ (wd hw 101 rfl) (wd hw 59 rfl) (by decide) (by decide)) (g := (mkF m 23 #[rv va, iv (0 : Int32), iv (2 : Int32), rv b1, iv (own_nd2 c0 c1), .unset] [(.int (2 : Int32)), (.int (0 : Int32)), (.ref va)])) rfl (by rw [hml]; rfl) (argsL := [(.ref va), (.int (0 : Int32)), (.int (2 : Int32))]) (rest := []) (lenOf pd___CII__B rfl) rfl (by show 2 * 0 + _ ≤ _; exact Nat.le_of_eq rfl) (hb hby d12_23) rfl rfl (by decide) (by decide) (c' := 2) (s' := 6) rfl rfl
  obtain ⟨t10, kb10, rfl, Nq10, K10, fq10_0, xq10_fresh_t⟩ := hQ10
  have N10 := Fr.app N5 Nq10
  refine own_st (T' := T10) (g' := (mkF m 26 #[rv va, iv (0 : Int32), iv (2 : Int32), rv b1, iv (own_nd2 c0 c1), .unset] [(.ref t10)])) st10 ?_
  clear st10
  refine own_st (T' := T10) (g' := (mkF m 28 #[rv va, iv (0 : Int32), iv (2 : Int32), rv b1, iv (own_nd2 c0 c1), rv t10] [])) (fun _ k_ => XS.astore X10.here hx rfl (hb hby d12_26) rfl rfl (l' := #[rv va, iv (0 : Int32), iv (2 : Int32), rv b1, iv (own_nd2 c0 c1), rv t10]) rfl k_) ?_
  refine own_st (T' := T10) (g' := (mkF m 30 #[rv va, iv (0 : Int32), iv (2 : Int32), rv b1, iv (own_nd2 c0 c1), rv t10] [(.ref t10)])) (fun _ k_ => XS.aload X10.here hx rfl (hb hby d12_28) rfl rfl  k_) ?_
  refine own_st (T' := T10) (g' := (mkF m 32 #[rv va, iv (0 : Int32), iv (2 : Int32), rv b1, iv (own_nd2 c0 c1), rv t10] [(.int (own_nd2 c0 c1)), (.ref t10)])) (fun _ k_ => XS.iload X10.here hx rfl (hb hby d12_30) rfl  k_) ?_
  rcases own_ndB2 hU with hq | hq
  · rw [hq.1]
    have f11 := f7.keep K10 all0
    obtain ⟨_, T12, L12, X12, hQ12, st12⟩ := own_callS X10 hx (y := own_m6) hown (mvT hZ (wd hw 115 rfl)) (mvT hZ (wd hw 116 rfl)) (mvT hZ (wd hw 59 rfl)) (mvT hZ (wd hw 117 rfl)) (by decide) (backOf (W := 0) (rm_getc l Z a0 hw [] t10 kb10 [c0, c1] (0 : Int32) 0 T10.heap n0 f11 fq10_0 rfl (Nat.le_of_ble_eq_true rfl : 0 < List.length [c0, c1]) (Nat.le_of_ble_eq_true rfl) (own_aS hr0 (own_aS hr1 own_a0)) SA SHI SLO) hZ (wd hw 117 rfl) (wd hw 59 rfl) (by decide) (by decide)) (g := (mkF m 32 #[rv va, iv (0 : Int32), iv (2 : Int32), rv b1, iv (0 : Int32), rv t10] [(.int (0 : Int32)), (.ref t10)])) rfl (by rw [hml]; rfl) (argsL := [(.ref t10), (.int (0 : Int32))]) (rest := []) (lenOf pd___BI_C rfl) rfl (by show 2 * 0 + _ ≤ _; exact Nat.le_of_eq rfl) (hb hby d12_32) rfl rfl (by decide) (by decide) (c' := 2) (s' := 6) rfl rfl
    obtain ⟨rfl, Nq12, eq12⟩ := hQ12
    have N12 := Fr.app N10 Nq12
    refine own_st (T' := T12) (g' := (mkF m 35 #[rv va, iv (0 : Int32), iv (2 : Int32), rv b1, iv (0 : Int32), rv t10] [(.int c0)])) st12 ?_
    clear st12
    refine own_st (T' := T12) (g' := (mkF m 38 #[rv va, iv (0 : Int32), iv (2 : Int32), rv b1, iv (0 : Int32), rv t10] [(.int (255 : Int32)), (.int c0)])) (fun _ k_ => XS.sipush X12.here hx rfl (hb hby d12_35) k_) ?_
    refine own_st (T' := T12) (g' := (mkF m 54 #[rv va, iv (0 : Int32), iv (2 : Int32), rv b1, iv (0 : Int32), rv t10] [])) (fun _ k_ => XS.icmpYes X12.here hx rfl (pc0 := 38) (pc' := 54) rfl (hb hby d12_38) rfl (tlt (hq.2 : (255 : Int32) < c0)).2.2.1 (by decide) (by decide) k_) ?_
    refine own_st (T' := T12) (g' := (mkF m 56 #[rv va, iv (0 : Int32), iv (2 : Int32), rv b1, iv (0 : Int32), rv t10] [(.ref t10)])) (fun _ k_ => XS.aload X12.here hx rfl (hb hby d12_54) rfl rfl  k_) ?_
    have f13 := f9.trans K10 all0
    exact own_retA X12 hx hret rfl rfl hlk (hb hby d12_56) (by decide) (by decide) (by rw [eq12]; exact ⟨t10, kb10, rfl, N12, f13, fq10_0, (Nat.le_trans f9.1 xq10_fresh_t)⟩)
  · rw [hq.1]
    have f14 := f7.keep K10 all0
    obtain ⟨_, T15, L15, X15, hQ15, st15⟩ := own_callS X10 hx (y := own_m6) hown (mvT hZ (wd hw 115 rfl)) (mvT hZ (wd hw 116 rfl)) (mvT hZ (wd hw 59 rfl)) (mvT hZ (wd hw 117 rfl)) (by decide) (backOf (W := 0) (rm_getc l Z a0 hw [] t10 kb10 [c0, c1] (1 : Int32) 1 T10.heap n0 f14 fq10_0 rfl (Nat.le_of_ble_eq_true rfl : 1 < List.length [c0, c1]) (Nat.le_of_ble_eq_true rfl) (own_aS hr0 (own_aS hr1 own_a0)) SA SHI SLO) hZ (wd hw 117 rfl) (wd hw 59 rfl) (by decide) (by decide)) (g := (mkF m 32 #[rv va, iv (0 : Int32), iv (2 : Int32), rv b1, iv (1 : Int32), rv t10] [(.int (1 : Int32)), (.ref t10)])) rfl (by rw [hml]; rfl) (argsL := [(.ref t10), (.int (1 : Int32))]) (rest := []) (lenOf pd___BI_C rfl) rfl (by show 2 * 0 + _ ≤ _; exact Nat.le_of_eq rfl) (hb hby d12_32) rfl rfl (by decide) (by decide) (c' := 2) (s' := 6) rfl rfl
    obtain ⟨rfl, Nq15, eq15⟩ := hQ15
    have N15 := Fr.app N10 Nq15
    refine own_st (T' := T15) (g' := (mkF m 35 #[rv va, iv (0 : Int32), iv (2 : Int32), rv b1, iv (1 : Int32), rv t10] [(.int c1)])) st15 ?_
    clear st15
    refine own_st (T' := T15) (g' := (mkF m 38 #[rv va, iv (0 : Int32), iv (2 : Int32), rv b1, iv (1 : Int32), rv t10] [(.int (255 : Int32)), (.int c1)])) (fun _ k_ => XS.sipush X15.here hx rfl (hb hby d12_35) k_) ?_
    refine own_st (T' := T15) (g' := (mkF m 54 #[rv va, iv (0 : Int32), iv (2 : Int32), rv b1, iv (1 : Int32), rv t10] [])) (fun _ k_ => XS.icmpYes X15.here hx rfl (pc0 := 38) (pc' := 54) rfl (hb hby d12_38) rfl (tlt (hq.2 : (255 : Int32) < c1)).2.2.1 (by decide) (by decide) k_) ?_
    refine own_st (T' := T15) (g' := (mkF m 56 #[rv va, iv (0 : Int32), iv (2 : Int32), rv b1, iv (1 : Int32), rv t10] [(.ref t10)])) (fun _ k_ => XS.aload X15.here hx rfl (hb hby d12_54) rfl rfl  k_) ?_
    have f16 := f9.trans K10 all0
    exact own_retA X15 hx hret rfl rfl hlk (hb hby d12_56) (by decide) (by decide) (by rw [eq15]; exact ⟨t10, kb10, rfl, N15, f16, fq10_0, (Nat.le_trans f9.1 xq10_fresh_t)⟩)
theorem ef_cdu_2 (m : MethodId) (x0 : Addr) (x1 : Int32) : entryFrame m #[(.ref x0), (.int x1)] 2 = mkF m 0 #[rv x0, iv x1] [] := by first | (simp [entryFrame, mkF, argsToLocals, Value.category]; done) | rfl
def Q_cdu_2 (Z : State) (t : Addr) (kb : ClassId) (vs : List Value) (h0 : Heap) (n0 : Nat) (v : Option Value) (h : Heap) (L : List Loc) : Prop := (v = some (.int (1 : Int32))) ∧ (Fr n0 L) ∧ (h = h0)
set_option maxRecDepth 65536 in
set_option maxHeartbeats 40000000 in
theorem rm_cdu_2 (l : Launch) (Z : State) (a0 : Array Value) (hw : ∀ d ∈ tables_1, d.before a0 Z = true) (ws : List Jvm.Cond) (t : Addr) (kb : ClassId) (vs : List Value) (h0 : Heap) (n0 : Nat) (O0 : Old Z n0 h0) (VT : Arv Z h0 t kb .byte (4 : Int32) vs (.int (0 : Int32))) :
    own_MF l own_m19 (Jvm.Cond.code own_m19 jdk_52_method_15_code 2 (some .byte) :: ws) ({ frames := 0, cells := 0, slots := 0, locals := 0 } : Room) #[(.ref t), (.int (2 : Int32))] Z h0 (Q_cdu_2 Z t kb vs h0 n0) := by
  refine own_met (own := "java/lang/StringUTF16") (nme := "coderFromArrayLen") rfl rfl (plainFor_of_name pn_3) ?_
  intro p e s m below meth c s₁ hx hby hml hown hnm X0 e0 hret hlk hZ
  have N0 := Fr.nil n0
  rw [ef_cdu_2 m t (2 : Int32)]
  refine own_st (T' := s₁) (g' := (mkF m 1 #[rv t, iv (2 : Int32)] [(.int (2 : Int32))])) (fun _ k_ => XS.iloadN X0.here hx rfl (hb hby d14_0) rfl  k_) ?_
  refine own_st (T' := s₁) (g' := (mkF m 2 #[rv t, iv (2 : Int32)] [(.ref t), (.int (2 : Int32))])) (fun _ k_ => XS.aloadN X0.here hx rfl (hb hby d14_1) rfl rfl  k_) ?_
  obtain ⟨cl1, Ar1, -, S1, N1, -, -⟩ := id VT
  refine own_st (T' := s₁) (g' := (mkF m 3 #[rv t, iv (2 : Int32)] [(.int (4 : Int32)), (.int (2 : Int32))])) (fun t_ k_ => X0.arraylength hx (by rw [e0]; exact Ar1.1) (State.isArrayOf_alike hZ.alike Ar1.2.1) (g := (mkF m 2 #[rv t, iv (2 : Int32)] [(.ref t), (.int (2 : Int32))])) rfl rfl (hb hby d14_2) _ (by rw [len_of S1 N1]; exact k_)) ?_
  refine own_st (T' := s₁) (g' := (mkF m 4 #[rv t, iv (2 : Int32)] [(.int (-2 : Int32))])) (fun _ k_ => XS.isub X0.here hx rfl (hb hby d14_3) rfl k_) ?_
  refine own_st (T' := s₁) (g' := (mkF m 6 #[rv t, iv (2 : Int32)] [(.int (31 : Int32)), (.int (-2 : Int32))])) (fun _ k_ => XS.bipush X0.here hx rfl (hb hby d14_4) k_) ?_
  refine own_st (T' := s₁) (g' := (mkF m 7 #[rv t, iv (2 : Int32)] [(.int (((-2 : Int32).toUInt32 >>> ((31 : Int32) &&& 31).toUInt32).toInt32))])) (fun _ k_ => XS.iushr X0.here hx rfl (hb hby d14_6) rfl k_) ?_
  refine own_st (T' := s₁) (g' := (mkF m 8 #[rv t, iv (2 : Int32)] [(.int ((((-2 : Int32).toUInt32 >>> ((31 : Int32) &&& 31).toUInt32).toInt32).toInt8.toInt32))])) (fun _ k_ => XS.i2b X0.here hx rfl (hb hby d14_7) rfl k_) ?_
  exact own_retN X0 hx (t := .byte) hret (by simp) hlk (hb hby d14_8) (by decide) (by decide) ⟨(by decide), N0, e0⟩
theorem ef_in4u_2 (m : MethodId) (x0 : Addr) (x1 : Addr) (x2 : Int32) (x3 : Int32) : entryFrame m #[(.ref x0), (.ref x1), (.int x2), (.int x3), .null] 6 = mkF m 0 #[rv x0, rv x1, iv x2, iv x3, .val .null, .unset] [] := by first | (simp [entryFrame, mkF, argsToLocals, Value.category]; done) | rfl
def Q_in4u_2 (Z : State) (a : Addr) (va : Addr) (kc : ClassId) (cz : Int32) (c0 : Int32) (c1 : Int32) (h0 : Heap) (n0 : Nat) (v : Option Value) (h : Heap) (L : List Loc) : Prop := ∃ (t : Addr) (kb : ClassId), (v = none) ∧ (Fr n0 L) ∧ (Keep h0 h [a]) ∧ (Exa Z h a "java/lang/String") ∧ (Fld Z h a "java/lang/String" "coder" "B" (.int (1 : Int32))) ∧ (Fld Z h a "java/lang/String" "value" "[B" (.ref t)) ∧ (Arv Z h t kb .byte (4 : Int32) [(.int (own_l16 c0)), (.int (own_h16 c0)), (.int (own_l16 c1)), (.int (own_h16 c1))] (.int (0 : Int32))) ∧ (h0.size ≤ t)
set_option maxRecDepth 65536 in
set_option maxHeartbeats 40000000 in
theorem rm_in4u_2 (l : Launch) (Z : State) (a0 : Array Value) (hw : ∀ d ∈ tables_1, d.before a0 Z = true) (ws : List Jvm.Cond) (a : Addr) (va : Addr) (kc : ClassId) (cz : Int32) (c0 : Int32) (c1 : Int32) (h0 : Heap) (n0 : Nat) (O0 : Old Z n0 h0) (EA : Exa Z h0 a "java/lang/String") (FV : Fld Z h0 a "java/lang/String" "value" "[B" .null) (FC : Fld Z h0 a "java/lang/String" "coder" "B" (.int (0 : Int32))) (fa : n0 ≤ a) (VA : Arv Z h0 va kc .char (2 : Int32) [(.int c0), (.int c1)] (.int (0 : Int32))) (SC : Sta Z Z.heap "java/lang/String" "COMPACT_STRINGS" "Z" (.int cz)) (hcz : ¬ cz = (0 : Int32)) (hr0 : own_R c0) (hr1 : own_R c1) (hU : ¬ (own_nd2 c0 c1) = (2 : Int32)) (SA : Sta Z Z.heap "java/lang/StringUTF16" "$assertionsDisabled" "Z" (.int (1 : Int32))) (SHI : Sta Z Z.heap "java/lang/StringUTF16" "HI_BYTE_SHIFT" "I" (.int (0 : Int32))) (SLO : Sta Z Z.heap "java/lang/StringUTF16" "LO_BYTE_SHIFT" "I" (.int (8 : Int32))) :
    own_MF l own_m12 (Jvm.Cond.code own_m12 jdk_42_method_149_code 6 none :: ws) ({ frames := 4, cells := 2, slots := 6, locals := 57 } : Room) #[(.ref a), (.ref va), (.int (0 : Int32)), (.int (2 : Int32)), .null] Z h0 (Q_in4u_2 Z a va kc cz c0 c1 h0 n0) := by
  refine own_met (own := "java/lang/String") (nme := "<init>") rfl rfl (plainFor_of_name pn_0) ?_
  intro p e s m below meth c s₁ hx hby hml hown hnm X0 e0 hret hlk hZ
  have N0 := Fr.nil n0
  rw [ef_in4u_2 m a va (0 : Int32) (2 : Int32)]
  refine own_st (T' := s₁) (g' := (mkF m 1 #[rv a, rv va, iv (0 : Int32), iv (2 : Int32), .val .null, .unset] [(.ref a)])) (fun _ k_ => XS.aloadN X0.here hx rfl (hb hby d5_0) rfl rfl  k_) ?_
  obtain ⟨T1, X1, e1, st1⟩ := initO X0 hx hZ hown (wd hw 25 rfl) (wd hw 26 rfl) (wd hw 27 rfl) e0 (g := (mkF m 1 #[rv a, rv va, iv (0 : Int32), iv (2 : Int32), .val .null, .unset] [(.ref a)])) rfl (by rw [hml]; rfl) rfl (hb hby d5_1) (by decide) (W := 0) (by show 2 * 0 + _ ≤ _; exact Nat.le_of_eq rfl) (by decide)
  refine own_st (T' := T1) (g' := (mkF m 4 #[rv a, rv va, iv (0 : Int32), iv (2 : Int32), .val .null, .unset] [])) st1 ?_
  clear st1
  refine own_st (T' := T1) (g' := (mkF m 5 #[rv a, rv va, iv (0 : Int32), iv (2 : Int32), .val .null, .unset] [(.int (2 : Int32))])) (fun _ k_ => XS.iloadN X1.here hx rfl (hb hby d5_4) rfl  k_) ?_
  refine own_st (T' := T1) (g' := (mkF m 27 #[rv a, rv va, iv (0 : Int32), iv (2 : Int32), .val .null, .unset] [])) (fun _ k_ => XS.ifYes X1.here hx rfl (pc0 := 5) (pc' := 27) rfl (hb hby d5_5) rfl ((if0 _ _).trans (feq (by decide : ¬ ((2 : Int32) = (0 : Int32)))).2) (by decide) (by decide) k_) ?_
  obtain ⟨T2, X2, e2, st2⟩ := getS2 X1 hx hZ hown (host := "") (Or.inl (wd hw 50 rfl)) Via.refl e1 (SC.ext O0.2) (g := (mkF m 27 #[rv a, rv va, iv (0 : Int32), iv (2 : Int32), .val .null, .unset] [])) rfl (hb hby d5_27)
  refine own_st (T' := T2) (g' := (mkF m 30 #[rv a, rv va, iv (0 : Int32), iv (2 : Int32), .val .null, .unset] [(.int cz)])) st2 ?_
  clear st2
  refine own_st (T' := T2) (g' := (mkF m 33 #[rv a, rv va, iv (0 : Int32), iv (2 : Int32), .val .null, .unset] [])) (fun _ k_ => XS.ifNo X2.here hx rfl (hb hby d5_30) rfl ((if0 _ _).trans (feq (hcz : ¬ (cz = (0 : Int32)))).1) k_) ?_
  refine own_st (T' := T2) (g' := (mkF m 34 #[rv a, rv va, iv (0 : Int32), iv (2 : Int32), .val .null, .unset] [(.ref va)])) (fun _ k_ => XS.aloadN X2.here hx rfl (hb hby d5_33) rfl rfl  k_) ?_
  refine own_st (T' := T2) (g' := (mkF m 35 #[rv a, rv va, iv (0 : Int32), iv (2 : Int32), .val .null, .unset] [(.int (0 : Int32)), (.ref va)])) (fun _ k_ => XS.iloadN X2.here hx rfl (hb hby d5_34) rfl  k_) ?_
  refine own_st (T' := T2) (g' := (mkF m 36 #[rv a, rv va, iv (0 : Int32), iv (2 : Int32), .val .null, .unset] [(.int (2 : Int32)), (.int (0 : Int32)), (.ref va)])) (fun _ k_ => XS.iloadN X2.here hx rfl (hb hby d5_35) rfl  k_) ?_
  obtain ⟨_, T3, L3, X3, hQ3, st3⟩ := own_callS X2 hx (y := own_m18) hown (mvT hZ (wd hw 57 rfl)) (mvT hZ (wd hw 58 rfl)) (mvT hZ (wd hw 59 rfl)) (mvT hZ (wd hw 60 rfl)) (by decide) (backOf (W := 0) (rm_c3u_2 l Z a0 hw [] va kc c0 c1 h0 n0 O0 VA hr0 hr1 hU SA SHI SLO) hZ (wd hw 60 rfl) (wd hw 59 rfl) (by decide) (by decide)) (g := (mkF m 36 #[rv a, rv va, iv (0 : Int32), iv (2 : Int32), .val .null, .unset] [(.int (2 : Int32)), (.int (0 : Int32)), (.ref va)])) rfl (by rw [hml]; rfl) (argsL := [(.ref va), (.int (0 : Int32)), (.int (2 : Int32))]) (rest := []) (lenOf pd___CII__B rfl) rfl (by show 2 * 0 + _ ≤ _; exact Nat.le_of_eq rfl) (hb hby d5_36) rfl e2 (by decide) (by decide) (c' := 2) (s' := 6) rfl rfl
  obtain ⟨t3, kb3, rfl, Nq3, K3, fq3_0, xq3_fresh_t⟩ := hQ3
  have N3 := Fr.app N0 Nq3
  refine own_st (T' := T3) (g' := (mkF m 39 #[rv a, rv va, iv (0 : Int32), iv (2 : Int32), .val .null, .unset] [(.ref t3)])) st3 ?_
  clear st3
  refine own_st (T' := T3) (g' := (mkF m 41 #[rv a, rv va, iv (0 : Int32), iv (2 : Int32), .val .null, rv t3] [])) (fun _ k_ => XS.astore X3.here hx rfl (hb hby d5_39) rfl rfl (l' := #[rv a, rv va, iv (0 : Int32), iv (2 : Int32), .val .null, rv t3]) rfl k_) ?_
  refine own_st (T' := T3) (g' := (mkF m 42 #[rv a, rv va, iv (0 : Int32), iv (2 : Int32), .val .null, rv t3] [(.ref a)])) (fun _ k_ => XS.aloadN X3.here hx rfl (hb hby d5_41) rfl rfl  k_) ?_
  refine own_st (T' := T3) (g' := (mkF m 44 #[rv a, rv va, iv (0 : Int32), iv (2 : Int32), .val .null, rv t3] [(.ref t3), (.ref a)])) (fun _ k_ => XS.aload X3.here hx rfl (hb hby d5_42) rfl rfl  k_) ?_
  refine own_st (T' := T3) (g' := (mkF m 45 #[rv a, rv va, iv (0 : Int32), iv (2 : Int32), .val .null, rv t3] [(.int (2 : Int32)), (.ref t3), (.ref a)])) (fun _ k_ => XS.iloadN X3.here hx rfl (hb hby d5_44) rfl  k_) ?_
  have f4 := O0.keep K3 all0
  obtain ⟨_, T5, L5, X5, hQ5, st5⟩ := own_callS X3 hx (y := own_m19) hown (mvT hZ (wd hw 64 rfl)) (mvT hZ (wd hw 65 rfl)) (mvT hZ (wd hw 59 rfl)) (mvT hZ (wd hw 66 rfl)) (by decide) (backOf (W := 1) (rm_cdu_2 l Z a0 hw [] t3 kb3 [(.int (own_l16 c0)), (.int (own_h16 c0)), (.int (own_l16 c1)), (.int (own_h16 c1))] T3.heap n0 f4 fq3_0) hZ (wd hw 66 rfl) (wd hw 59 rfl) (by decide) (by decide)) (g := (mkF m 45 #[rv a, rv va, iv (0 : Int32), iv (2 : Int32), .val .null, rv t3] [(.int (2 : Int32)), (.ref t3), (.ref a)])) rfl (by rw [hml]; rfl) (argsL := [(.ref t3), (.int (2 : Int32))]) (rest := [(.ref a)]) (lenOf pd___BI_B rfl) rfl (by show 2 * 0 + _ ≤ _; exact Nat.le_of_eq rfl) (hb hby d5_45) rfl rfl (by decide) (by decide) (c' := 2) (s' := 6) rfl rfl
  obtain ⟨rfl, Nq5, eq5⟩ := hQ5
  have N5 := Fr.app N3 Nq5
  refine own_st (T' := T5) (g' := (mkF m 48 #[rv a, rv va, iv (0 : Int32), iv (2 : Int32), .val .null, rv t3] [(.int (1 : Int32)), (.ref a)])) st5 ?_
  clear st5
  have f6 := EA.keep K3
  have f7 := FC.keep K3 nin0
  obtain ⟨T8, h8, X8, e8, W8, st8⟩ := putFN X5 hx hZ hown (wd hw 35 rfl) Via.refl eq5 f7 f6 (Or.inr ⟨(wd hw 31 rfl), rfl, hnm⟩) (wd hw 16 rfl) (ty := .byte) (v' := (.int (1 : Int32))) (by decide) rfl (by decide) (g := (mkF m 48 #[rv a, rv va, iv (0 : Int32), iv (2 : Int32), .val .null, rv t3] [(.int (1 : Int32)), (.ref a)])) rfl rfl (hb hby d5_48)
  have Fw8 : Fld Z h8 a "java/lang/String" "coder" "B" (.int (1 : Int32)) := Fld.same W8 f7
  have N8 := Fr.snoc X8 N5 fa
  refine own_st (T' := T8) (g' := (mkF m 51 #[rv a, rv va, iv (0 : Int32), iv (2 : Int32), .val .null, rv t3] [])) st8 ?_
  clear st8
  refine own_st (T' := T8) (g' := (mkF m 52 #[rv a, rv va, iv (0 : Int32), iv (2 : Int32), .val .null, rv t3] [(.ref a)])) (fun _ k_ => XS.aloadN X8.here hx rfl (hb hby d5_51) rfl rfl  k_) ?_
  refine own_st (T' := T8) (g' := (mkF m 54 #[rv a, rv va, iv (0 : Int32), iv (2 : Int32), .val .null, rv t3] [(.ref t3), (.ref a)])) (fun _ k_ => XS.aload X8.here hx rfl (hb hby d5_52) rfl rfl  k_) ?_
  have f9 := f6.wr W8
  have f10 := FV.keep K3 nin0
  have f11 := f10.other W8 (Or.inr (slot_ne (Or.inr (wd hw 30 rfl)) (Or.inr (wd hw 31 rfl)) (by decide) (t := (.array .byte)) (t' := .byte) (by decide) (by decide)))
  obtain ⟨T12, h12, X12, e12, W12, st12⟩ := putF X8 hx hZ hown (host := "") (Or.inl (wd hw 34 rfl)) Via.refl e8 f11 f9 (Or.inr ⟨(wd hw 30 rfl), rfl, hnm⟩) (wd hw 16 rfl) (ty := (.array .byte)) (by decide) rfl rfl (g := (mkF m 54 #[rv a, rv va, iv (0 : Int32), iv (2 : Int32), .val .null, rv t3] [(.ref t3), (.ref a)])) rfl rfl (hb hby d5_54)
  have Fw12 : Fld Z h12 a "java/lang/String" "value" "[B" (.ref t3) := Fld.same W12 f11
  have N12 := Fr.snoc X12 N8 fa
  refine own_st (T' := T12) (g' := (mkF m 57 #[rv a, rv va, iv (0 : Int32), iv (2 : Int32), .val .null, rv t3] [])) st12 ?_
  clear st12
  have f13 := (Keep.refl h0 [a]).trans K3 all0
  have f14 := f13.wr W8 (Or.inl (List.mem_of_getElem? (i := 0) rfl))
  have f15 := f14.wr W12 (Or.inl (List.mem_of_getElem? (i := 0) rfl))
  have f16 := f9.wr W12
  have f17 := Fw8.other W12 (Or.inr (slot_ne (Or.inr (wd hw 31 rfl)) (Or.inr (wd hw 30 rfl)) (by decide) (t := .byte) (t' := (.array .byte)) (by decide) (by decide)))
  have ne18 : a ≠ t3 := Nat.ne_of_lt (Nat.lt_of_lt_of_le EA.lt xq3_fresh_t)
  have f19 := fq3_0.other W8 (Ne.symm ne18)
  have f20 := f19.other W12 (Ne.symm ne18)
  exact own_retV X12 hx hret hlk (hb hby d5_57) (by decide) (by decide) (by rw [e12]; exact ⟨t3, kb3, rfl, N12, f15, f16, f17, Fw12, f20, (Nat.le_trans (Keep.refl h0 [a]).1 xq3_fresh_t)⟩)
theorem ef_in1u_2 (m : MethodId) (x0 : Addr) (x1 : Addr) : entryFrame m #[(.ref x0), (.ref x1)] 2 = mkF m 0 #[rv x0, rv x1] [] := by first | (simp [entryFrame, mkF, argsToLocals, Value.category]; done) | rfl
def Q_in1u_2 (Z : State) (a : Addr) (va : Addr) (kc : ClassId) (cz : Int32) (c0 : Int32) (c1 : Int32) (h0 : Heap) (n0 : Nat) (v : Option Value) (h : Heap) (L : List Loc) : Prop := ∃ (t : Addr) (kb : ClassId), (v = none) ∧ (Fr n0 L) ∧ (Keep h0 h [a]) ∧ (Exa Z h a "java/lang/String") ∧ (Fld Z h a "java/lang/String" "coder" "B" (.int (1 : Int32))) ∧ (Fld Z h a "java/lang/String" "value" "[B" (.ref t)) ∧ (Arv Z h t kb .byte (4 : Int32) [(.int (own_l16 c0)), (.int (own_h16 c0)), (.int (own_l16 c1)), (.int (own_h16 c1))] (.int (0 : Int32))) ∧ (h0.size ≤ t)
set_option maxRecDepth 65536 in
set_option maxHeartbeats 40000000 in
theorem rm_in1u_2 (l : Launch) (Z : State) (a0 : Array Value) (hw : ∀ d ∈ tables_1, d.before a0 Z = true) (ws : List Jvm.Cond) (a : Addr) (va : Addr) (kc : ClassId) (cz : Int32) (c0 : Int32) (c1 : Int32) (h0 : Heap) (n0 : Nat) (O0 : Old Z n0 h0) (EA : Exa Z h0 a "java/lang/String") (FV : Fld Z h0 a "java/lang/String" "value" "[B" .null) (FC : Fld Z h0 a "java/lang/String" "coder" "B" (.int (0 : Int32))) (fa : n0 ≤ a) (VA : Arv Z h0 va kc .char (2 : Int32) [(.int c0), (.int c1)] (.int (0 : Int32))) (SC : Sta Z Z.heap "java/lang/String" "COMPACT_STRINGS" "Z" (.int cz)) (hcz : ¬ cz = (0 : Int32)) (hr0 : own_R c0) (hr1 : own_R c1) (hU : ¬ (own_nd2 c0 c1) = (2 : Int32)) (SA : Sta Z Z.heap "java/lang/StringUTF16" "$assertionsDisabled" "Z" (.int (1 : Int32))) (SHI : Sta Z Z.heap "java/lang/StringUTF16" "HI_BYTE_SHIFT" "I" (.int (0 : Int32))) (SLO : Sta Z Z.heap "java/lang/StringUTF16" "LO_BYTE_SHIFT" "I" (.int (8 : Int32))) :
    own_MF l own_m13 (Jvm.Cond.code own_m13 jdk_42_method_3_code 2 none :: ws) ({ frames := 5, cells := 2, slots := 6, locals := 74 } : Room) #[(.ref a), (.ref va)] Z h0 (Q_in1u_2 Z a va kc cz c0 c1 h0 n0) := by
  refine own_met (own := "java/lang/String") (nme := "<init>") rfl rfl (plainFor_of_name pn_0) ?_
  intro p e s m below meth c s₁ hx hby hml hown hnm X0 e0 hret hlk hZ
  have N0 := Fr.nil n0
  rw [ef_in1u_2 m a va]
  refine own_st (T' := s₁) (g' := (mkF m 1 #[rv a, rv va] [(.ref a)])) (fun _ k_ => XS.aloadN X0.here hx rfl (hb hby d4_0) rfl rfl  k_) ?_
  refine own_st (T' := s₁) (g' := (mkF m 2 #[rv a, rv va] [(.ref va), (.ref a)])) (fun _ k_ => XS.aloadN X0.here hx rfl (hb hby d4_1) rfl rfl  k_) ?_
  refine own_st (T' := s₁) (g' := (mkF m 3 #[rv a, rv va] [(.int (0 : Int32)), (.ref va), (.ref a)])) (fun _ k_ => XS.iconst X0.here hx rfl (hb hby d4_2) k_) ?_
  refine own_st (T' := s₁) (g' := (mkF m 4 #[rv a, rv va] [(.ref va), (.int (0 : Int32)), (.ref va), (.ref a)])) (fun _ k_ => XS.aloadN X0.here hx rfl (hb hby d4_3) rfl rfl  k_) ?_
  obtain ⟨cl1, Ar1, -, S1, N1, -, -⟩ := id VA
  refine own_st (T' := s₁) (g' := (mkF m 5 #[rv a, rv va] [(.int (2 : Int32)), (.int (0 : Int32)), (.ref va), (.ref a)])) (fun t_ k_ => X0.arraylength hx (by rw [e0]; exact Ar1.1) (State.isArrayOf_alike hZ.alike Ar1.2.1) (g := (mkF m 4 #[rv a, rv va] [(.ref va), (.int (0 : Int32)), (.ref va), (.ref a)])) rfl rfl (hb hby d4_4) _ (by rw [len_of S1 N1]; exact k_)) ?_
  refine own_st (T' := s₁) (g' := (mkF m 6 #[rv a, rv va] [.null, (.int (2 : Int32)), (.int (0 : Int32)), (.ref va), (.ref a)])) (fun _ k_ => XS.aconstNull X0.here hx rfl (hb hby d4_5) k_) ?_
  obtain ⟨_, T2, L2, X2, hQ2, st2⟩ := own_callI X0 hx (y := own_m12) rfl hown (mvT hZ (wd hw 21 rfl)) (mvT hZ (wd hw 22 rfl)) (mvT hZ (wd hw 24 rfl)) (by decide) (backOf (W := 0) (rm_in4u_2 l Z a0 hw [] a va kc cz c0 c1 h0 n0 O0 EA FV FC fa VA SC hcz hr0 hr1 hU SA SHI SLO) hZ (wd hw 24 rfl) (wd hw 17 rfl) (by decide) (by decide)) (g := (mkF m 6 #[rv a, rv va] [.null, (.int (2 : Int32)), (.int (0 : Int32)), (.ref va), (.ref a)])) rfl (by rw [hml]; rfl) (a := a) (argsL := [(.ref va), (.int (0 : Int32)), (.int (2 : Int32)), .null]) (rest := []) (lenOf pd___CIILjava_lang_Void__V rfl) rfl (by show 2 * 0 + _ ≤ _; exact Nat.le_of_eq rfl) (hb hby d4_6) rfl e0 (by decide) (by decide) (c' := 2) (s' := 6) rfl rfl
  obtain ⟨t2, kb2, rfl, Nq2, K2, fq2_0, fq2_1, fq2_2, fq2_3, xq2_fresh_t⟩ := hQ2
  have N2 := Fr.app N0 Nq2
  refine own_st (T' := T2) (g' := (mkF m 9 #[rv a, rv va] [])) st2 ?_
  clear st2
  have f3 := (Keep.refl h0 [a]).trans K2 (allS (Or.inl (List.mem_of_getElem? (i := 0) rfl)) all0)
  exact own_retV X2 hx hret hlk (hb hby d4_9) (by decide) (by decide) ⟨t2, kb2, rfl, N2, f3, fq2_0, fq2_1, fq2_2, fq2_3, (Nat.le_trans (Keep.refl h0 [a]).1 xq2_fresh_t)⟩
theorem ef_cmp3_2 (m : MethodId) (x0 : Addr) (x1 : Int32) (x2 : Int32) : entryFrame m #[(.ref x0), (.int x1), (.int x2)] 6 = mkF m 0 #[rv x0, iv x1, iv x2, .unset, .unset, .unset] [] := by first | (simp [entryFrame, mkF, argsToLocals, Value.category]; done) | rfl
def Q_cmp3_2 (Z : State) (va : Addr) (kc : ClassId) (c0 : Int32) (c1 : Int32) (h0 : Heap) (n0 : Nat) (v : Option Value) (h : Heap) (L : List Loc) : Prop := ∃ (t : Addr) (kb : ClassId), (v = some (.ref t)) ∧ (Fr n0 L) ∧ (Keep h0 h []) ∧ (Arv Z h t kb .byte (2 : Int32) [(.int (c0.toInt8.toInt32)), (.int (c1.toInt8.toInt32))] (.int (0 : Int32))) ∧ (h0.size ≤ t)
set_option maxRecDepth 65536 in
set_option maxHeartbeats 40000000 in
theorem rm_cmp3_2 (l : Launch) (Z : State) (a0 : Array Value) (hw : ∀ d ∈ tables_1, d.before a0 Z = true) (ws : List Jvm.Cond) (va : Addr) (kc : ClassId) (c0 : Int32) (c1 : Int32) (h0 : Heap) (n0 : Nat) (O0 : Old Z n0 h0) (VA : Arv Z h0 va kc .char (2 : Int32) [(.int c0), (.int c1)] (.int (0 : Int32))) (hp0 : ¬ (255 : Int32) < c0) (hp1 : ¬ (255 : Int32) < c1) :
    own_MF l own_m18 (Jvm.Cond.code own_m18 jdk_52_method_16_code 6 (some (.array .byte)) :: ws) ({ frames := 1, cells := 1, slots := 2, locals := 18 } : Room) #[(.ref va), (.int (0 : Int32)), (.int (2 : Int32))] Z h0 (Q_cmp3_2 Z va kc c0 c1 h0 n0) := by
  refine own_met (own := "java/lang/StringUTF16") (nme := "compress") rfl rfl (plainFor_of_name pn_3) ?_
  intro p e s m below meth c s₁ hx hby hml hown hnm X0 e0 hret hlk hZ
  have N0 := Fr.nil n0
  rw [ef_cmp3_2 m va (0 : Int32) (2 : Int32)]
  refine own_st (T' := s₁) (g' := (mkF m 1 #[rv va, iv (0 : Int32), iv (2 : Int32), .unset, .unset, .unset] [(.int (2 : Int32))])) (fun _ k_ => XS.iloadN X0.here hx rfl (hb hby d12_0) rfl  k_) ?_
  obtain ⟨T1, h1, k1, X1, e1, E1, A1, st1⟩ := newP X0 hx hZ (wd hw 29 rfl) e0 (g := (mkF m 1 #[rv va, iv (0 : Int32), iv (2 : Int32), .unset, .unset, .unset] [(.int (2 : Int32))])) rfl (hb hby d12_1) rfl (by decide) (cap := 2) (by decide) (by decide) (by decide) (by decide)
  obtain ⟨b1, g1⟩ : ∃ z, z = h0.size := ⟨_, rfl⟩
  rw [← g1] at A1 st1
  have fr1 : n0 ≤ b1 := Nat.le_trans (own_z O0) (Nat.le_of_eq g1.symm)
  have sz1 : h0.size ≤ b1 := Nat.le_trans (Keep.refl h0 []).1 (Nat.le_of_eq g1.symm)
  have V1 : Arv Z h1 b1 k1 .byte (2 : Int32) [(.int (0 : Int32)), (.int (0 : Int32))] (.int (0 : Int32)) := (Arv.new A1 (by decide)).pad (pad_rep [] (.int (0 : Int32)) 2)
  refine own_st (T' := T1) (g' := (mkF m 3 #[rv va, iv (0 : Int32), iv (2 : Int32), .unset, .unset, .unset] [(.ref b1)])) st1 ?_
  clear st1
  refine own_st (T' := T1) (g' := (mkF m 4 #[rv va, iv (0 : Int32), iv (2 : Int32), rv b1, .unset, .unset] [])) (fun _ k_ => XS.astoreN X1.here hx rfl (hb hby d12_3) rfl rfl (l' := #[rv va, iv (0 : Int32), iv (2 : Int32), rv b1, .unset, .unset]) rfl k_) ?_
  refine own_st (T' := T1) (g' := (mkF m 5 #[rv va, iv (0 : Int32), iv (2 : Int32), rv b1, .unset, .unset] [(.ref va)])) (fun _ k_ => XS.aloadN X1.here hx rfl (hb hby d12_4) rfl rfl  k_) ?_
  refine own_st (T' := T1) (g' := (mkF m 6 #[rv va, iv (0 : Int32), iv (2 : Int32), rv b1, .unset, .unset] [(.int (0 : Int32)), (.ref va)])) (fun _ k_ => XS.iloadN X1.here hx rfl (hb hby d12_5) rfl  k_) ?_
  refine own_st (T' := T1) (g' := (mkF m 7 #[rv va, iv (0 : Int32), iv (2 : Int32), rv b1, .unset, .unset] [(.ref b1), (.int (0 : Int32)), (.ref va)])) (fun _ k_ => XS.aloadN X1.here hx rfl (hb hby d12_6) rfl rfl  k_) ?_
  refine own_st (T' := T1) (g' := (mkF m 8 #[rv va, iv (0 : Int32), iv (2 : Int32), rv b1, .unset, .unset] [(.int (0 : Int32)), (.ref b1), (.int (0 : Int32)), (.ref va)])) (fun _ k_ => XS.iconst X1.here hx rfl (hb hby d12_7) k_) ?_
  refine own_st (T' := T1) (g' := (mkF m 9 #[rv va, iv (0 : Int32), iv (2 : Int32), rv b1, .unset, .unset] [(.int (2 : Int32)), (.int (0 : Int32)), (.ref b1), (.int (0 : Int32)), (.ref va)])) (fun _ k_ => XS.iloadN X1.here hx rfl (hb hby d12_8) rfl  k_) ?_
  have f2 := VA.ext E1
  have ne3 : va ≠ b1 := Nat.ne_of_lt (Nat.lt_of_lt_of_le VA.lt (Nat.le_of_eq g1.symm))
  have f4 := O0.ext E1
  obtain ⟨_, T5, L5, X5, hQ5, st5⟩ := own_callS X1 hx (y := own_m14) hown (mvT hZ (wd hw 61 rfl)) (mvT hZ (wd hw 62 rfl)) (mvT hZ (wd hw 59 rfl)) (mvT hZ (wd hw 63 rfl)) (by decide) (backOf (W := 0) (rm_c5u_2 l Z a0 hw [] va b1 kc k1 c0 c1 h1 n0 f4 f2 V1 ne3 fr1) hZ (wd hw 63 rfl) (wd hw 59 rfl) (by decide) (by decide)) (g := (mkF m 9 #[rv va, iv (0 : Int32), iv (2 : Int32), rv b1, .unset, .unset] [(.int (2 : Int32)), (.int (0 : Int32)), (.ref b1), (.int (0 : Int32)), (.ref va)])) rfl (by rw [hml]; rfl) (argsL := [(.ref va), (.int (0 : Int32)), (.ref b1), (.int (0 : Int32)), (.int (2 : Int32))]) (rest := []) (lenOf pd___CI_BII_I rfl) rfl (by show 2 * 0 + _ ≤ _; exact Nat.le_of_eq rfl) (hb hby d12_9) rfl e1 (by decide) (by decide) (c' := 1) (s' := 2) rfl rfl
  obtain ⟨rfl, Nq5, K5, xq5_full⟩ := hQ5
  have N5 := Fr.app N0 Nq5
  refine own_st (T' := T5) (g' := (mkF m 12 #[rv va, iv (0 : Int32), iv (2 : Int32), rv b1, .unset, .unset] [(.int (own_nd2 c0 c1))])) st5 ?_
  clear st5
  have hnd : (own_nd2 c0 c1) = (2 : Int32) := own_ndC2 hp0 hp1
  rw [hnd]
  have Vd : Arv Z T5.heap b1 k1 .byte (2 : Int32) [(.int (c0.toInt8.toInt32)), (.int (c1.toInt8.toInt32))] (.int (0 : Int32)) := xq5_full hnd
  refine own_st (T' := T5) (g' := (mkF m 14 #[rv va, iv (0 : Int32), iv (2 : Int32), rv b1, iv (2 : Int32), .unset] [])) (fun _ k_ => XS.istore X5.here hx rfl (hb hby d12_12) rfl (l' := #[rv va, iv (0 : Int32), iv (2 : Int32), rv b1, iv (2 : Int32), .unset]) rfl k_) ?_
  refine own_st (T' := T5) (g' := (mkF m 16 #[rv va, iv (0 : Int32), iv (2 : Int32), rv b1, iv (2 : Int32), .unset] [(.int (2 : Int32))])) (fun _ k_ => XS.iload X5.here hx rfl (hb hby d12_14) rfl  k_) ?_
  refine own_st (T' := T5) (g' := (mkF m 17 #[rv va, iv (0 : Int32), iv (2 : Int32), rv b1, iv (2 : Int32), .unset] [(.int (2 : Int32)), (.int (2 : Int32))])) (fun _ k_ => XS.iloadN X5.here hx rfl (hb hby d12_16) rfl  k_) ?_
  refine own_st (T' := T5) (g' := (mkF m 57 #[rv va, iv (0 : Int32), iv (2 : Int32), rv b1, iv (2 : Int32), .unset] [])) (fun _ k_ => XS.icmpYes X5.here hx rfl (pc0 := 17) (pc' := 57) rfl (hb hby d12_17) rfl (teq (rfl : (2 : Int32) = (2 : Int32))).1 (by decide) (by decide) k_) ?_
  refine own_st (T' := T5) (g' := (mkF m 58 #[rv va, iv (0 : Int32), iv (2 : Int32), rv b1, iv (2 : Int32), .unset] [(.ref b1)])) (fun _ k_ => XS.aloadN X5.here hx rfl (hb hby d12_57) rfl rfl  k_) ?_
  have f6 := (Keep.refl h0 []).ext E1
  have f7 := f6.trans K5 (allS (Or.inr sz1) all0)
  exact own_retA X5 hx hret rfl rfl hlk (hb hby d12_58) (by decide) (by decide) ⟨b1, k1, rfl, N5, f7, Vd, sz1⟩
theorem ef_cdr_2 (m : MethodId) (x0 : Addr) (x1 : Int32) : entryFrame m #[(.ref x0), (.int x1)] 2 = mkF m 0 #[rv x0, iv x1] [] := by first | (simp [entryFrame, mkF, argsToLocals, Value.category]; done) | rfl
def Q_cdr_2 (Z : State) (t : Addr) (kb : ClassId) (vs : List Value) (h0 : Heap) (n0 : Nat) (v : Option Value) (h : Heap) (L : List Loc) : Prop := (v = some (.int (0 : Int32))) ∧ (Fr n0 L) ∧ (h = h0)
set_option maxRecDepth 65536 in
set_option maxHeartbeats 40000000 in
theorem rm_cdr_2 (l : Launch) (Z : State) (a0 : Array Value) (hw : ∀ d ∈ tables_1, d.before a0 Z = true) (ws : List Jvm.Cond) (t : Addr) (kb : ClassId) (vs : List Value) (h0 : Heap) (n0 : Nat) (O0 : Old Z n0 h0) (VT : Arv Z h0 t kb .byte (2 : Int32) vs (.int (0 : Int32))) :
    own_MF l own_m19 (Jvm.Cond.code own_m19 jdk_52_method_15_code 2 (some .byte) :: ws) ({ frames := 0, cells := 0, slots := 0, locals := 0 } : Room) #[(.ref t), (.int (2 : Int32))] Z h0 (Q_cdr_2 Z t kb vs h0 n0) := by
  refine own_met (own := "java/lang/StringUTF16") (nme := "coderFromArrayLen") rfl rfl (plainFor_of_name pn_3) ?_
  intro p e s m below meth c s₁ hx hby hml hown hnm X0 e0 hret hlk hZ
  have N0 := Fr.nil n0
  rw [ef_cdr_2 m t (2 : Int32)]
  refine own_st (T' := s₁) (g' := (mkF m 1 #[rv t, iv (2 : Int32)] [(.int (2 : Int32))])) (fun _ k_ => XS.iloadN X0.here hx rfl (hb hby d14_0) rfl  k_) ?_
  refine own_st (T' := s₁) (g' := (mkF m 2 #[rv t, iv (2 : Int32)] [(.ref t), (.int (2 : Int32))])) (fun _ k_ => XS.aloadN X0.here hx rfl (hb hby d14_1) rfl rfl  k_) ?_
  obtain ⟨cl1, Ar1, -, S1, N1, -, -⟩ := id VT
  refine own_st (T' := s₁) (g' := (mkF m 3 #[rv t, iv (2 : Int32)] [(.int (2 : Int32)), (.int (2 : Int32))])) (fun t_ k_ => X0.arraylength hx (by rw [e0]; exact Ar1.1) (State.isArrayOf_alike hZ.alike Ar1.2.1) (g := (mkF m 2 #[rv t, iv (2 : Int32)] [(.ref t), (.int (2 : Int32))])) rfl rfl (hb hby d14_2) _ (by rw [len_of S1 N1]; exact k_)) ?_
  refine own_st (T' := s₁) (g' := (mkF m 4 #[rv t, iv (2 : Int32)] [(.int (0 : Int32))])) (fun _ k_ => XS.isub X0.here hx rfl (hb hby d14_3) rfl k_) ?_
  refine own_st (T' := s₁) (g' := (mkF m 6 #[rv t, iv (2 : Int32)] [(.int (31 : Int32)), (.int (0 : Int32))])) (fun _ k_ => XS.bipush X0.here hx rfl (hb hby d14_4) k_) ?_
  refine own_st (T' := s₁) (g' := (mkF m 7 #[rv t, iv (2 : Int32)] [(.int (((0 : Int32).toUInt32 >>> ((31 : Int32) &&& 31).toUInt32).toInt32))])) (fun _ k_ => XS.iushr X0.here hx rfl (hb hby d14_6) rfl k_) ?_
  refine own_st (T' := s₁) (g' := (mkF m 8 #[rv t, iv (2 : Int32)] [(.int ((((0 : Int32).toUInt32 >>> ((31 : Int32) &&& 31).toUInt32).toInt32).toInt8.toInt32))])) (fun _ k_ => XS.i2b X0.here hx rfl (hb hby d14_7) rfl k_) ?_
  exact own_retN X0 hx (t := .byte) hret (by simp) hlk (hb hby d14_8) (by decide) (by decide) ⟨(by decide), N0, e0⟩
theorem ef_ini4_2 (m : MethodId) (x0 : Addr) (x1 : Addr) (x2 : Int32) (x3 : Int32) : entryFrame m #[(.ref x0), (.ref x1), (.int x2), (.int x3), .null] 6 = mkF m 0 #[rv x0, rv x1, iv x2, iv x3, .val .null, .unset] [] := by first | (simp [entryFrame, mkF, argsToLocals, Value.category]; done) | rfl
def Q_ini4_2 (Z : State) (a : Addr) (va : Addr) (kc : ClassId) (cz : Int32) (c0 : Int32) (c1 : Int32) (h0 : Heap) (n0 : Nat) (v : Option Value) (h : Heap) (L : List Loc) : Prop := ∃ (t : Addr) (kb : ClassId), (v = none) ∧ (Fr n0 L) ∧ (Keep h0 h [a]) ∧ (Exa Z h a "java/lang/String") ∧ (Fld Z h a "java/lang/String" "coder" "B" (.int (0 : Int32))) ∧ (Fld Z h a "java/lang/String" "value" "[B" (.ref t)) ∧ (Arv Z h t kb .byte (2 : Int32) [(.int (c0.toInt8.toInt32)), (.int (c1.toInt8.toInt32))] (.int (0 : Int32))) ∧ (h0.size ≤ t)
set_option maxRecDepth 65536 in
set_option maxHeartbeats 40000000 in
theorem rm_ini4_2 (l : Launch) (Z : State) (a0 : Array Value) (hw : ∀ d ∈ tables_1, d.before a0 Z = true) (ws : List Jvm.Cond) (a : Addr) (va : Addr) (kc : ClassId) (cz : Int32) (c0 : Int32) (c1 : Int32) (h0 : Heap) (n0 : Nat) (O0 : Old Z n0 h0) (EA : Exa Z h0 a "java/lang/String") (FV : Fld Z h0 a "java/lang/String" "value" "[B" .null) (FC : Fld Z h0 a "java/lang/String" "coder" "B" (.int (0 : Int32))) (fa : n0 ≤ a) (VA : Arv Z h0 va kc .char (2 : Int32) [(.int c0), (.int c1)] (.int (0 : Int32))) (SC : Sta Z Z.heap "java/lang/String" "COMPACT_STRINGS" "Z" (.int cz)) (hcz : ¬ cz = (0 : Int32)) (hp0 : ¬ (255 : Int32) < c0) (hp1 : ¬ (255 : Int32) < c1) :
    own_MF l own_m12 (Jvm.Cond.code own_m12 jdk_42_method_149_code 6 none :: ws) ({ frames := 2, cells := 1, slots := 2, locals := 35 } : Room) #[(.ref a), (.ref va), (.int (0 : Int32)), (.int (2 : Int32)), .null] Z h0 (Q_ini4_2 Z a va kc cz c0 c1 h0 n0) := by
  refine own_met (own := "java/lang/String") (nme := "<init>") rfl rfl (plainFor_of_name pn_0) ?_
  intro p e s m below meth c s₁ hx hby hml hown hnm X0 e0 hret hlk hZ
  have N0 := Fr.nil n0
  rw [ef_ini4_2 m a va (0 : Int32) (2 : Int32)]
  refine own_st (T' := s₁) (g' := (mkF m 1 #[rv a, rv va, iv (0 : Int32), iv (2 : Int32), .val .null, .unset] [(.ref a)])) (fun _ k_ => XS.aloadN X0.here hx rfl (hb hby d5_0) rfl rfl  k_) ?_
  obtain ⟨T1, X1, e1, st1⟩ := initO X0 hx hZ hown (wd hw 25 rfl) (wd hw 26 rfl) (wd hw 27 rfl) e0 (g := (mkF m 1 #[rv a, rv va, iv (0 : Int32), iv (2 : Int32), .val .null, .unset] [(.ref a)])) rfl (by rw [hml]; rfl) rfl (hb hby d5_1) (by decide) (W := 0) (by show 2 * 0 + _ ≤ _; exact Nat.le_of_eq rfl) (by decide)
  refine own_st (T' := T1) (g' := (mkF m 4 #[rv a, rv va, iv (0 : Int32), iv (2 : Int32), .val .null, .unset] [])) st1 ?_
  clear st1
  refine own_st (T' := T1) (g' := (mkF m 5 #[rv a, rv va, iv (0 : Int32), iv (2 : Int32), .val .null, .unset] [(.int (2 : Int32))])) (fun _ k_ => XS.iloadN X1.here hx rfl (hb hby d5_4) rfl  k_) ?_
  refine own_st (T' := T1) (g' := (mkF m 27 #[rv a, rv va, iv (0 : Int32), iv (2 : Int32), .val .null, .unset] [])) (fun _ k_ => XS.ifYes X1.here hx rfl (pc0 := 5) (pc' := 27) rfl (hb hby d5_5) rfl ((if0 _ _).trans (feq (by decide : ¬ ((2 : Int32) = (0 : Int32)))).2) (by decide) (by decide) k_) ?_
  obtain ⟨T2, X2, e2, st2⟩ := getS2 X1 hx hZ hown (host := "") (Or.inl (wd hw 50 rfl)) Via.refl e1 (SC.ext O0.2) (g := (mkF m 27 #[rv a, rv va, iv (0 : Int32), iv (2 : Int32), .val .null, .unset] [])) rfl (hb hby d5_27)
  refine own_st (T' := T2) (g' := (mkF m 30 #[rv a, rv va, iv (0 : Int32), iv (2 : Int32), .val .null, .unset] [(.int cz)])) st2 ?_
  clear st2
  refine own_st (T' := T2) (g' := (mkF m 33 #[rv a, rv va, iv (0 : Int32), iv (2 : Int32), .val .null, .unset] [])) (fun _ k_ => XS.ifNo X2.here hx rfl (hb hby d5_30) rfl ((if0 _ _).trans (feq (hcz : ¬ (cz = (0 : Int32)))).1) k_) ?_
  refine own_st (T' := T2) (g' := (mkF m 34 #[rv a, rv va, iv (0 : Int32), iv (2 : Int32), .val .null, .unset] [(.ref va)])) (fun _ k_ => XS.aloadN X2.here hx rfl (hb hby d5_33) rfl rfl  k_) ?_
  refine own_st (T' := T2) (g' := (mkF m 35 #[rv a, rv va, iv (0 : Int32), iv (2 : Int32), .val .null, .unset] [(.int (0 : Int32)), (.ref va)])) (fun _ k_ => XS.iloadN X2.here hx rfl (hb hby d5_34) rfl  k_) ?_
  refine own_st (T' := T2) (g' := (mkF m 36 #[rv a, rv va, iv (0 : Int32), iv (2 : Int32), .val .null, .unset] [(.int (2 : Int32)), (.int (0 : Int32)), (.ref va)])) (fun _ k_ => XS.iloadN X2.here hx rfl (hb hby d5_35) rfl  k_) ?_
  obtain ⟨_, T3, L3, X3, hQ3, st3⟩ := own_callS X2 hx (y := own_m18) hown (mvT hZ (wd hw 57 rfl)) (mvT hZ (wd hw 58 rfl)) (mvT hZ (wd hw 59 rfl)) (mvT hZ (wd hw 60 rfl)) (by decide) (backOf (W := 0) (rm_cmp3_2 l Z a0 hw [] va kc c0 c1 h0 n0 O0 VA hp0 hp1) hZ (wd hw 60 rfl) (wd hw 59 rfl) (by decide) (by decide)) (g := (mkF m 36 #[rv a, rv va, iv (0 : Int32), iv (2 : Int32), .val .null, .unset] [(.int (2 : Int32)), (.int (0 : Int32)), (.ref va)])) rfl (by rw [hml]; rfl) (argsL := [(.ref va), (.int (0 : Int32)), (.int (2 : Int32))]) (rest := []) (lenOf pd___CII__B rfl) rfl (by show 2 * 0 + _ ≤ _; exact Nat.le_of_eq rfl) (hb hby d5_36) rfl e2 (by decide) (by decide) (c' := 1) (s' := 2) rfl rfl
  obtain ⟨t3, kb3, rfl, Nq3, K3, fq3_0, xq3_fresh_t⟩ := hQ3
  have N3 := Fr.app N0 Nq3
  refine own_st (T' := T3) (g' := (mkF m 39 #[rv a, rv va, iv (0 : Int32), iv (2 : Int32), .val .null, .unset] [(.ref t3)])) st3 ?_
  clear st3
  refine own_st (T' := T3) (g' := (mkF m 41 #[rv a, rv va, iv (0 : Int32), iv (2 : Int32), .val .null, rv t3] [])) (fun _ k_ => XS.astore X3.here hx rfl (hb hby d5_39) rfl rfl (l' := #[rv a, rv va, iv (0 : Int32), iv (2 : Int32), .val .null, rv t3]) rfl k_) ?_
  refine own_st (T' := T3) (g' := (mkF m 42 #[rv a, rv va, iv (0 : Int32), iv (2 : Int32), .val .null, rv t3] [(.ref a)])) (fun _ k_ => XS.aloadN X3.here hx rfl (hb hby d5_41) rfl rfl  k_) ?_
  refine own_st (T' := T3) (g' := (mkF m 44 #[rv a, rv va, iv (0 : Int32), iv (2 : Int32), .val .null, rv t3] [(.ref t3), (.ref a)])) (fun _ k_ => XS.aload X3.here hx rfl (hb hby d5_42) rfl rfl  k_) ?_
  refine own_st (T' := T3) (g' := (mkF m 45 #[rv a, rv va, iv (0 : Int32), iv (2 : Int32), .val .null, rv t3] [(.int (2 : Int32)), (.ref t3), (.ref a)])) (fun _ k_ => XS.iloadN X3.here hx rfl (hb hby d5_44) rfl  k_) ?_
  have f4 := O0.keep K3 all0
  obtain ⟨_, T5, L5, X5, hQ5, st5⟩ := own_callS X3 hx (y := own_m19) hown (mvT hZ (wd hw 64 rfl)) (mvT hZ (wd hw 65 rfl)) (mvT hZ (wd hw 59 rfl)) (mvT hZ (wd hw 66 rfl)) (by decide) (backOf (W := 1) (rm_cdr_2 l Z a0 hw [] t3 kb3 [(.int (c0.toInt8.toInt32)), (.int (c1.toInt8.toInt32))] T3.heap n0 f4 fq3_0) hZ (wd hw 66 rfl) (wd hw 59 rfl) (by decide) (by decide)) (g := (mkF m 45 #[rv a, rv va, iv (0 : Int32), iv (2 : Int32), .val .null, rv t3] [(.int (2 : Int32)), (.ref t3), (.ref a)])) rfl (by rw [hml]; rfl) (argsL := [(.ref t3), (.int (2 : Int32))]) (rest := [(.ref a)]) (lenOf pd___BI_B rfl) rfl (by show 2 * 0 + _ ≤ _; exact Nat.le_of_eq rfl) (hb hby d5_45) rfl rfl (by decide) (by decide) (c' := 1) (s' := 2) rfl rfl
  obtain ⟨rfl, Nq5, eq5⟩ := hQ5
  have N5 := Fr.app N3 Nq5
  refine own_st (T' := T5) (g' := (mkF m 48 #[rv a, rv va, iv (0 : Int32), iv (2 : Int32), .val .null, rv t3] [(.int (0 : Int32)), (.ref a)])) st5 ?_
  clear st5
  have f6 := EA.keep K3
  have f7 := FC.keep K3 nin0
  obtain ⟨T8, h8, X8, e8, W8, st8⟩ := putFN X5 hx hZ hown (wd hw 35 rfl) Via.refl eq5 f7 f6 (Or.inr ⟨(wd hw 31 rfl), rfl, hnm⟩) (wd hw 16 rfl) (ty := .byte) (v' := (.int (0 : Int32))) (by decide) rfl (by decide) (g := (mkF m 48 #[rv a, rv va, iv (0 : Int32), iv (2 : Int32), .val .null, rv t3] [(.int (0 : Int32)), (.ref a)])) rfl rfl (hb hby d5_48)
  have Fw8 : Fld Z h8 a "java/lang/String" "coder" "B" (.int (0 : Int32)) := Fld.same W8 f7
  have N8 := Fr.snoc X8 N5 fa
  refine own_st (T' := T8) (g' := (mkF m 51 #[rv a, rv va, iv (0 : Int32), iv (2 : Int32), .val .null, rv t3] [])) st8 ?_
  clear st8
  refine own_st (T' := T8) (g' := (mkF m 52 #[rv a, rv va, iv (0 : Int32), iv (2 : Int32), .val .null, rv t3] [(.ref a)])) (fun _ k_ => XS.aloadN X8.here hx rfl (hb hby d5_51) rfl rfl  k_) ?_
  refine own_st (T' := T8) (g' := (mkF m 54 #[rv a, rv va, iv (0 : Int32), iv (2 : Int32), .val .null, rv t3] [(.ref t3), (.ref a)])) (fun _ k_ => XS.aload X8.here hx rfl (hb hby d5_52) rfl rfl  k_) ?_
  have f9 := f6.wr W8
  have f10 := FV.keep K3 nin0
  have f11 := f10.other W8 (Or.inr (slot_ne (Or.inr (wd hw 30 rfl)) (Or.inr (wd hw 31 rfl)) (by decide) (t := (.array .byte)) (t' := .byte) (by decide) (by decide)))
  obtain ⟨T12, h12, X12, e12, W12, st12⟩ := putF X8 hx hZ hown (host := "") (Or.inl (wd hw 34 rfl)) Via.refl e8 f11 f9 (Or.inr ⟨(wd hw 30 rfl), rfl, hnm⟩) (wd hw 16 rfl) (ty := (.array .byte)) (by decide) rfl rfl (g := (mkF m 54 #[rv a, rv va, iv (0 : Int32), iv (2 : Int32), .val .null, rv t3] [(.ref t3), (.ref a)])) rfl rfl (hb hby d5_54)
  have Fw12 : Fld Z h12 a "java/lang/String" "value" "[B" (.ref t3) := Fld.same W12 f11
  have N12 := Fr.snoc X12 N8 fa
  refine own_st (T' := T12) (g' := (mkF m 57 #[rv a, rv va, iv (0 : Int32), iv (2 : Int32), .val .null, rv t3] [])) st12 ?_
  clear st12
  have f13 := (Keep.refl h0 [a]).trans K3 all0
  have f14 := f13.wr W8 (Or.inl (List.mem_of_getElem? (i := 0) rfl))
  have f15 := f14.wr W12 (Or.inl (List.mem_of_getElem? (i := 0) rfl))
  have f16 := f9.wr W12
  have f17 := Fw8.other W12 (Or.inr (slot_ne (Or.inr (wd hw 31 rfl)) (Or.inr (wd hw 30 rfl)) (by decide) (t := .byte) (t' := (.array .byte)) (by decide) (by decide)))
  have ne18 : a ≠ t3 := Nat.ne_of_lt (Nat.lt_of_lt_of_le EA.lt xq3_fresh_t)
  have f19 := fq3_0.other W8 (Ne.symm ne18)
  have f20 := f19.other W12 (Ne.symm ne18)
  exact own_retV X12 hx hret hlk (hb hby d5_57) (by decide) (by decide) (by rw [e12]; exact ⟨t3, kb3, rfl, N12, f15, f16, f17, Fw12, f20, (Nat.le_trans (Keep.refl h0 [a]).1 xq3_fresh_t)⟩)
theorem ef_ini1_2 (m : MethodId) (x0 : Addr) (x1 : Addr) : entryFrame m #[(.ref x0), (.ref x1)] 2 = mkF m 0 #[rv x0, rv x1] [] := by first | (simp [entryFrame, mkF, argsToLocals, Value.category]; done) | rfl
def Q_ini1_2 (Z : State) (a : Addr) (va : Addr) (kc : ClassId) (cz : Int32) (c0 : Int32) (c1 : Int32) (h0 : Heap) (n0 : Nat) (v : Option Value) (h : Heap) (L : List Loc) : Prop := ∃ (t : Addr) (kb : ClassId), (v = none) ∧ (Fr n0 L) ∧ (Keep h0 h [a]) ∧ (Exa Z h a "java/lang/String") ∧ (Fld Z h a "java/lang/String" "coder" "B" (.int (0 : Int32))) ∧ (Fld Z h a "java/lang/String" "value" "[B" (.ref t)) ∧ (Arv Z h t kb .byte (2 : Int32) [(.int (c0.toInt8.toInt32)), (.int (c1.toInt8.toInt32))] (.int (0 : Int32))) ∧ (h0.size ≤ t)
set_option maxRecDepth 65536 in
set_option maxHeartbeats 40000000 in
theorem rm_ini1_2 (l : Launch) (Z : State) (a0 : Array Value) (hw : ∀ d ∈ tables_1, d.before a0 Z = true) (ws : List Jvm.Cond) (a : Addr) (va : Addr) (kc : ClassId) (cz : Int32) (c0 : Int32) (c1 : Int32) (h0 : Heap) (n0 : Nat) (O0 : Old Z n0 h0) (EA : Exa Z h0 a "java/lang/String") (FV : Fld Z h0 a "java/lang/String" "value" "[B" .null) (FC : Fld Z h0 a "java/lang/String" "coder" "B" (.int (0 : Int32))) (fa : n0 ≤ a) (VA : Arv Z h0 va kc .char (2 : Int32) [(.int c0), (.int c1)] (.int (0 : Int32))) (SC : Sta Z Z.heap "java/lang/String" "COMPACT_STRINGS" "Z" (.int cz)) (hcz : ¬ cz = (0 : Int32)) (hp0 : ¬ (255 : Int32) < c0) (hp1 : ¬ (255 : Int32) < c1) :
    own_MF l own_m13 (Jvm.Cond.code own_m13 jdk_42_method_3_code 2 none :: ws) ({ frames := 3, cells := 1, slots := 2, locals := 52 } : Room) #[(.ref a), (.ref va)] Z h0 (Q_ini1_2 Z a va kc cz c0 c1 h0 n0) := by
  refine own_met (own := "java/lang/String") (nme := "<init>") rfl rfl (plainFor_of_name pn_0) ?_
  intro p e s m below meth c s₁ hx hby hml hown hnm X0 e0 hret hlk hZ
  have N0 := Fr.nil n0
  rw [ef_ini1_2 m a va]
  refine own_st (T' := s₁) (g' := (mkF m 1 #[rv a, rv va] [(.ref a)])) (fun _ k_ => XS.aloadN X0.here hx rfl (hb hby d4_0) rfl rfl  k_) ?_
  refine own_st (T' := s₁) (g' := (mkF m 2 #[rv a, rv va] [(.ref va), (.ref a)])) (fun _ k_ => XS.aloadN X0.here hx rfl (hb hby d4_1) rfl rfl  k_) ?_
  refine own_st (T' := s₁) (g' := (mkF m 3 #[rv a, rv va] [(.int (0 : Int32)), (.ref va), (.ref a)])) (fun _ k_ => XS.iconst X0.here hx rfl (hb hby d4_2) k_) ?_
  refine own_st (T' := s₁) (g' := (mkF m 4 #[rv a, rv va] [(.ref va), (.int (0 : Int32)), (.ref va), (.ref a)])) (fun _ k_ => XS.aloadN X0.here hx rfl (hb hby d4_3) rfl rfl  k_) ?_
  obtain ⟨cl1, Ar1, -, S1, N1, -, -⟩ := id VA
  refine own_st (T' := s₁) (g' := (mkF m 5 #[rv a, rv va] [(.int (2 : Int32)), (.int (0 : Int32)), (.ref va), (.ref a)])) (fun t_ k_ => X0.arraylength hx (by rw [e0]; exact Ar1.1) (State.isArrayOf_alike hZ.alike Ar1.2.1) (g := (mkF m 4 #[rv a, rv va] [(.ref va), (.int (0 : Int32)), (.ref va), (.ref a)])) rfl rfl (hb hby d4_4) _ (by rw [len_of S1 N1]; exact k_)) ?_
  refine own_st (T' := s₁) (g' := (mkF m 6 #[rv a, rv va] [.null, (.int (2 : Int32)), (.int (0 : Int32)), (.ref va), (.ref a)])) (fun _ k_ => XS.aconstNull X0.here hx rfl (hb hby d4_5) k_) ?_
  obtain ⟨_, T2, L2, X2, hQ2, st2⟩ := own_callI X0 hx (y := own_m12) rfl hown (mvT hZ (wd hw 21 rfl)) (mvT hZ (wd hw 22 rfl)) (mvT hZ (wd hw 24 rfl)) (by decide) (backOf (W := 0) (rm_ini4_2 l Z a0 hw [] a va kc cz c0 c1 h0 n0 O0 EA FV FC fa VA SC hcz hp0 hp1) hZ (wd hw 24 rfl) (wd hw 17 rfl) (by decide) (by decide)) (g := (mkF m 6 #[rv a, rv va] [.null, (.int (2 : Int32)), (.int (0 : Int32)), (.ref va), (.ref a)])) rfl (by rw [hml]; rfl) (a := a) (argsL := [(.ref va), (.int (0 : Int32)), (.int (2 : Int32)), .null]) (rest := []) (lenOf pd___CIILjava_lang_Void__V rfl) rfl (by show 2 * 0 + _ ≤ _; exact Nat.le_of_eq rfl) (hb hby d4_6) rfl e0 (by decide) (by decide) (c' := 1) (s' := 2) rfl rfl
  obtain ⟨t2, kb2, rfl, Nq2, K2, fq2_0, fq2_1, fq2_2, fq2_3, xq2_fresh_t⟩ := hQ2
  have N2 := Fr.app N0 Nq2
  refine own_st (T' := T2) (g' := (mkF m 9 #[rv a, rv va] [])) st2 ?_
  clear st2
  have f3 := (Keep.refl h0 [a]).trans K2 (allS (Or.inl (List.mem_of_getElem? (i := 0) rfl)) all0)
  exact own_retV X2 hx hret hlk (hb hby d4_9) (by decide) (by decide) ⟨t2, kb2, rfl, N2, f3, fq2_0, fq2_1, fq2_2, fq2_3, (Nat.le_trans (Keep.refl h0 [a]).1 xq2_fresh_t)⟩
def own_nd3 (c0 c1 c2 : Int32) : Int32 := if (255 : Int32) < c0 then (0 : Int32) else if (255 : Int32) < c1 then (1 : Int32) else if (255 : Int32) < c2 then (2 : Int32) else 3
theorem own_ndA3 {c0 c1 c2 : Int32} (h : own_nd3 c0 c1 c2 = (3 : Int32)) : ¬ (255 : Int32) < c0 ∧ ¬ (255 : Int32) < c1 ∧ ¬ (255 : Int32) < c2 ∧ True := by
  unfold own_nd3 at h
  by_cases h0 : (255 : Int32) < c0
  · rw [if_pos h0] at h; exact absurd h (by decide)
  by_cases h1 : (255 : Int32) < c1
  · rw [if_neg h0, if_pos h1] at h; exact absurd h (by decide)
  by_cases h2 : (255 : Int32) < c2
  · rw [if_neg h0, if_neg h1, if_pos h2] at h; exact absurd h (by decide)
  exact ⟨h0, h1, h2, trivial⟩
theorem own_ndB3 {c0 c1 c2 : Int32} (h : ¬ own_nd3 c0 c1 c2 = (3 : Int32)) : (own_nd3 c0 c1 c2 = (0 : Int32) ∧ (255 : Int32) < c0) ∨ (own_nd3 c0 c1 c2 = (1 : Int32) ∧ (255 : Int32) < c1) ∨ (own_nd3 c0 c1 c2 = (2 : Int32) ∧ (255 : Int32) < c2) := by
  unfold own_nd3 at h ⊢
  by_cases h0 : (255 : Int32) < c0
  · exact Or.inl ⟨by rw [if_pos h0], h0⟩
  by_cases h1 : (255 : Int32) < c1
  · exact Or.inr (Or.inl ⟨by rw [if_neg h0, if_pos h1], h1⟩)
  by_cases h2 : (255 : Int32) < c2
  · exact Or.inr (Or.inr (⟨by rw [if_neg h0, if_neg h1, if_pos h2], h2⟩))
  exact absurd (by rw [if_neg h0, if_neg h1, if_neg h2]) h
theorem own_ndC3 {c0 c1 c2 : Int32} (h0 : ¬ (255 : Int32) < c0) (h1 : ¬ (255 : Int32) < c1) (h2 : ¬ (255 : Int32) < c2) : own_nd3 c0 c1 c2 = (3 : Int32) := by unfold own_nd3; rw [if_neg h0, if_neg h1, if_neg h2]
theorem ef_c5u_3 (m : MethodId) (x0 : Addr) (x1 : Int32) (x2 : Addr) (x3 : Int32) (x4 : Int32) : entryFrame m #[(.ref x0), (.int x1), (.ref x2), (.int x3), (.int x4)] 7 = mkF m 0 #[rv x0, iv x1, rv x2, iv x3, iv x4, .unset, .unset] [] := by first | (simp [entryFrame, mkF, argsToLocals, Value.category]; done) | rfl
def Q_c5u_3 (Z : State) (va : Addr) (da : Addr) (kc : ClassId) (kd : ClassId) (c0 : Int32) (c1 : Int32) (c2 : Int32) (h0 : Heap) (n0 : Nat) (v : Option Value) (h : Heap) (L : List Loc) : Prop := (v = some (.int (own_nd3 c0 c1 c2))) ∧ (Fr n0 L) ∧ (Keep h0 h [da]) ∧ ((own_nd3 c0 c1 c2) = (3 : Int32) → Arv Z h da kd .byte (3 : Int32) [(.int (c0.toInt8.toInt32)), (.int (c1.toInt8.toInt32)), (.int (c2.toInt8.toInt32))] (.int (0 : Int32)))
set_option maxRecDepth 65536 in
set_option maxHeartbeats 40000000 in
theorem rm_c5u_3 (l : Launch) (Z : State) (a0 : Array Value) (hw : ∀ d ∈ tables_1, d.before a0 Z = true) (ws : List Jvm.Cond) (va : Addr) (da : Addr) (kc : ClassId) (kd : ClassId) (c0 : Int32) (c1 : Int32) (c2 : Int32) (h0 : Heap) (n0 : Nat) (O0 : Old Z n0 h0) (VA : Arv Z h0 va kc .char (3 : Int32) [(.int c0), (.int c1), (.int c2)] (.int (0 : Int32))) (VD : Arv Z h0 da kd .byte (3 : Int32) [(.int (0 : Int32)), (.int (0 : Int32)), (.int (0 : Int32))] (.int (0 : Int32))) (nad : va ≠ da) (fda : n0 ≤ da) :
    own_MF l own_m14 (Jvm.Cond.code own_m14 jdk_52_method_21_code 7 (some .int) :: ws) ({ frames := 0, cells := 0, slots := 0, locals := 0 } : Room) #[(.ref va), (.int (0 : Int32)), (.ref da), (.int (0 : Int32)), (.int (3 : Int32))] Z h0 (Q_c5u_3 Z va da kc kd c0 c1 c2 h0 n0) := by
  refine own_met (own := "java/lang/StringUTF16") (nme := "compress") rfl rfl (plainFor_of_name pn_3) ?_
  intro p e s m below meth c s₁ hx hby hml hown hnm X0 e0 hret hlk hZ
  have N0 := Fr.nil n0
  rw [ef_c5u_3 m va (0 : Int32) da (0 : Int32) (3 : Int32)]
  refine own_st (T' := s₁) (g' := (mkF m 1 #[rv va, iv (0 : Int32), rv da, iv (0 : Int32), iv (3 : Int32), .unset, .unset] [(.int (0 : Int32))])) (fun _ k_ => XS.iconst X0.here hx rfl (hb hby d13_0) k_) ?_
  refine own_st (T' := s₁) (g' := (mkF m 3 #[rv va, iv (0 : Int32), rv da, iv (0 : Int32), iv (3 : Int32), iv (0 : Int32), .unset] [])) (fun _ k_ => XS.istore X0.here hx rfl (hb hby d13_1) rfl (l' := #[rv va, iv (0 : Int32), rv da, iv (0 : Int32), iv (3 : Int32), iv (0 : Int32), .unset]) rfl k_) ?_
  refine own_st (T' := s₁) (g' := (mkF m 5 #[rv va, iv (0 : Int32), rv da, iv (0 : Int32), iv (3 : Int32), iv (0 : Int32), .unset] [(.int (0 : Int32))])) (fun _ k_ => XS.iload X0.here hx rfl (hb hby d13_3) rfl  k_) ?_
  refine own_st (T' := s₁) (g' := (mkF m 7 #[rv va, iv (0 : Int32), rv da, iv (0 : Int32), iv (3 : Int32), iv (0 : Int32), .unset] [(.int (3 : Int32)), (.int (0 : Int32))])) (fun _ k_ => XS.iload X0.here hx rfl (hb hby d13_5) rfl  k_) ?_
  refine own_st (T' := s₁) (g' := (mkF m 10 #[rv va, iv (0 : Int32), rv da, iv (0 : Int32), iv (3 : Int32), iv (0 : Int32), .unset] [])) (fun _ k_ => XS.icmpNo X0.here hx rfl (hb hby d13_7) rfl (tlt (by decide : (0 : Int32) < (3 : Int32))).2.1 k_) ?_
  refine own_st (T' := s₁) (g' := (mkF m 11 #[rv va, iv (0 : Int32), rv da, iv (0 : Int32), iv (3 : Int32), iv (0 : Int32), .unset] [(.ref va)])) (fun _ k_ => XS.aloadN X0.here hx rfl (hb hby d13_10) rfl rfl  k_) ?_
  refine own_st (T' := s₁) (g' := (mkF m 12 #[rv va, iv (0 : Int32), rv da, iv (0 : Int32), iv (3 : Int32), iv (0 : Int32), .unset] [(.int (0 : Int32)), (.ref va)])) (fun _ k_ => XS.iloadN X0.here hx rfl (hb hby d13_11) rfl  k_) ?_
  obtain ⟨cl1, Ar1, q1, S1, N1, H1, G1⟩ := id VA
  have hin1 : ¬ ((0 : Int32) < 0 ∨ cl1.slots.size ≤ ((0 : Int32)).toNatClampNeg) := inb_of S1 ⟨by decide, by decide⟩
  refine own_st (T' := s₁) (g' := (mkF m 13 #[rv va, iv (0 : Int32), rv da, iv (0 : Int32), iv (3 : Int32), iv (0 : Int32), .unset] [(.int c0)])) (X0.caload hx (j := (0 : Int32)) (v := (.int c0)) (by rw [e0]; exact Ar1.1) (State.isArrayOf_alike hZ.alike Ar1.2.1) Ar1.2.2 hin1 (H1.at hin1 rfl) (g := (mkF m 12 #[rv va, iv (0 : Int32), rv da, iv (0 : Int32), iv (3 : Int32), iv (0 : Int32), .unset] [(.int (0 : Int32)), (.ref va)])) rfl rfl (hb hby d13_12)) ?_
  clear hin1 G1 H1 N1 S1 q1 Ar1 cl1
  refine own_st (T' := s₁) (g' := (mkF m 15 #[rv va, iv (0 : Int32), rv da, iv (0 : Int32), iv (3 : Int32), iv (0 : Int32), iv c0] [])) (fun _ k_ => XS.istore X0.here hx rfl (hb hby d13_13) rfl (l' := #[rv va, iv (0 : Int32), rv da, iv (0 : Int32), iv (3 : Int32), iv (0 : Int32), iv c0]) rfl k_) ?_
  refine own_st (T' := s₁) (g' := (mkF m 17 #[rv va, iv (0 : Int32), rv da, iv (0 : Int32), iv (3 : Int32), iv (0 : Int32), iv c0] [(.int c0)])) (fun _ k_ => XS.iload X0.here hx rfl (hb hby d13_15) rfl  k_) ?_
  refine own_st (T' := s₁) (g' := (mkF m 20 #[rv va, iv (0 : Int32), rv da, iv (0 : Int32), iv (3 : Int32), iv (0 : Int32), iv c0] [(.int (255 : Int32)), (.int c0)])) (fun _ k_ => XS.sipush X0.here hx rfl (hb hby d13_17) k_) ?_
  by_cases hc2 : (255 : Int32) < c0
  · refine own_st (T' := s₁) (g' := (mkF m 23 #[rv va, iv (0 : Int32), rv da, iv (0 : Int32), iv (3 : Int32), iv (0 : Int32), iv c0] [])) (fun _ k_ => XS.icmpNo X0.here hx rfl (hb hby d13_20) rfl (tlt hc2).2.2.2 k_) ?_
    refine own_st (T' := s₁) (g' := (mkF m 25 #[rv va, iv (0 : Int32), rv da, iv (0 : Int32), iv (3 : Int32), iv (0 : Int32), iv c0] [(.int (0 : Int32))])) (fun _ k_ => XS.iload X0.here hx rfl (hb hby d13_23) rfl  k_) ?_
    exact own_retI X0 hx hret hlk (hb hby d13_25) (by decide) (by decide) (by rw [e0]; exact ⟨(by unfold own_nd3; rw [if_pos hc2]), N0, (Keep.refl h0 [da]), (fun q => absurd q (by unfold own_nd3; rw [if_pos hc2]; decide))⟩)
  · refine own_st (T' := s₁) (g' := (mkF m 26 #[rv va, iv (0 : Int32), rv da, iv (0 : Int32), iv (3 : Int32), iv (0 : Int32), iv c0] [])) (fun _ k_ => XS.icmpYes X0.here hx rfl (pc0 := 20) (pc' := 26) rfl (hb hby d13_20) rfl (flt hc2).2.2.2 (by decide) (by decide) k_) ?_
    refine own_st (T' := s₁) (g' := (mkF m 27 #[rv va, iv (0 : Int32), rv da, iv (0 : Int32), iv (3 : Int32), iv (0 : Int32), iv c0] [(.ref da)])) (fun _ k_ => XS.aloadN X0.here hx rfl (hb hby d13_26) rfl rfl  k_) ?_
    refine own_st (T' := s₁) (g' := (mkF m 28 #[rv va, iv (0 : Int32), rv da, iv (0 : Int32), iv (3 : Int32), iv (0 : Int32), iv c0] [(.int (0 : Int32)), (.ref da)])) (fun _ k_ => XS.iloadN X0.here hx rfl (hb hby d13_27) rfl  k_) ?_
    refine own_st (T' := s₁) (g' := (mkF m 30 #[rv va, iv (0 : Int32), rv da, iv (0 : Int32), iv (3 : Int32), iv (0 : Int32), iv c0] [(.int c0), (.int (0 : Int32)), (.ref da)])) (fun _ k_ => XS.iload X0.here hx rfl (hb hby d13_28) rfl  k_) ?_
    refine own_st (T' := s₁) (g' := (mkF m 31 #[rv va, iv (0 : Int32), rv da, iv (0 : Int32), iv (3 : Int32), iv (0 : Int32), iv c0] [(.int (c0.toInt8.toInt32)), (.int (0 : Int32)), (.ref da)])) (fun _ k_ => XS.i2b X0.here hx rfl (hb hby d13_30) rfl k_) ?_
    obtain ⟨cl3, Ar3, q3, S3, N3, H3, G3⟩ := id VD
    have hin3 : ¬ ((0 : Int32) < 0 ∨ cl3.slots.size ≤ ((0 : Int32)).toNatClampNeg) := inb_of S3 ⟨by decide, by decide⟩
    obtain ⟨T4, h4, X4, e4, W4, st4⟩ := stB X0 hx hZ e0 Ar3 (j := (0 : Int32)) hin3 (g := (mkF m 31 #[rv va, iv (0 : Int32), rv da, iv (0 : Int32), iv (3 : Int32), iv (0 : Int32), iv c0] [(.int (c0.toInt8.toInt32)), (.int (0 : Int32)), (.ref da)])) rfl rfl (hb hby d13_31)
    have V4 : Arv Z h4 da kd .byte (3 : Int32) [(.int (nar .byte (c0.toInt8.toInt32))), (.int (0 : Int32)), (.int (0 : Int32))] (.int (0 : Int32)) := Arv.set Ar3 q3 S3 N3 H3 G3 (fits_nar_byte _) W4 0 rfl (Nat.le_of_ble_eq_true rfl)
    have Vn4 : Arv Z h4 da kd .byte (3 : Int32) [(.int (c0.toInt8.toInt32)), (.int (0 : Int32)), (.int (0 : Int32))] (.int (0 : Int32)) := by simpa only [own_bb] using V4
    have Nx4 := Fr.snoc X4 N0 fda
    refine own_st (T' := T4) (g' := (mkF m 32 #[rv va, iv (0 : Int32), rv da, iv (0 : Int32), iv (3 : Int32), iv (0 : Int32), iv c0] [])) st4 ?_
    clear hin3 G3 H3 N3 S3 q3 Ar3 cl3 st4
    refine own_st (T' := T4) (g' := (mkF m 35 #[rv va, iv (1 : Int32), rv da, iv (0 : Int32), iv (3 : Int32), iv (0 : Int32), iv c0] [])) (fun _ k_ => XS.iinc X4.here hx rfl (hb hby d13_32) rfl (l' := #[rv va, iv (1 : Int32), rv da, iv (0 : Int32), iv (3 : Int32), iv (0 : Int32), iv c0]) rfl k_) ?_
    refine own_st (T' := T4) (g' := (mkF m 38 #[rv va, iv (1 : Int32), rv da, iv (1 : Int32), iv (3 : Int32), iv (0 : Int32), iv c0] [])) (fun _ k_ => XS.iinc X4.here hx rfl (hb hby d13_35) rfl (l' := #[rv va, iv (1 : Int32), rv da, iv (1 : Int32), iv (3 : Int32), iv (0 : Int32), iv c0]) rfl k_) ?_
    refine own_st (T' := T4) (g' := (mkF m 41 #[rv va, iv (1 : Int32), rv da, iv (1 : Int32), iv (3 : Int32), iv (1 : Int32), iv c0] [])) (fun _ k_ => XS.iinc X4.here hx rfl (hb hby d13_38) rfl (l' := #[rv va, iv (1 : Int32), rv da, iv (1 : Int32), iv (3 : Int32), iv (1 : Int32), iv c0]) rfl k_) ?_
    refine own_st (T' := T4) (g' := (mkF m 3 #[rv va, iv (1 : Int32), rv da, iv (1 : Int32), iv (3 : Int32), iv (1 : Int32), iv c0] [])) (fun _ k_ => XS.goto X4.here hx rfl (pc0 := 41) (pc' := 3) rfl (hb hby d13_41) (by decide) (by decide) k_) ?_
    refine own_st (T' := T4) (g' := (mkF m 5 #[rv va, iv (1 : Int32), rv da, iv (1 : Int32), iv (3 : Int32), iv (1 : Int32), iv c0] [(.int (1 : Int32))])) (fun _ k_ => XS.iload X4.here hx rfl (hb hby d13_3) rfl  k_) ?_
    refine own_st (T' := T4) (g' := (mkF m 7 #[rv va, iv (1 : Int32), rv da, iv (1 : Int32), iv (3 : Int32), iv (1 : Int32), iv c0] [(.int (3 : Int32)), (.int (1 : Int32))])) (fun _ k_ => XS.iload X4.here hx rfl (hb hby d13_5) rfl  k_) ?_
    refine own_st (T' := T4) (g' := (mkF m 10 #[rv va, iv (1 : Int32), rv da, iv (1 : Int32), iv (3 : Int32), iv (1 : Int32), iv c0] [])) (fun _ k_ => XS.icmpNo X4.here hx rfl (hb hby d13_7) rfl (tlt (by decide : (1 : Int32) < (3 : Int32))).2.1 k_) ?_
    refine own_st (T' := T4) (g' := (mkF m 11 #[rv va, iv (1 : Int32), rv da, iv (1 : Int32), iv (3 : Int32), iv (1 : Int32), iv c0] [(.ref va)])) (fun _ k_ => XS.aloadN X4.here hx rfl (hb hby d13_10) rfl rfl  k_) ?_
    refine own_st (T' := T4) (g' := (mkF m 12 #[rv va, iv (1 : Int32), rv da, iv (1 : Int32), iv (3 : Int32), iv (1 : Int32), iv c0] [(.int (1 : Int32)), (.ref va)])) (fun _ k_ => XS.iloadN X4.here hx rfl (hb hby d13_11) rfl  k_) ?_
    have f5 := VA.other W4 nad
    obtain ⟨cl6, Ar6, q6, S6, N6, H6, G6⟩ := id f5
    have hin6 : ¬ ((1 : Int32) < 0 ∨ cl6.slots.size ≤ ((1 : Int32)).toNatClampNeg) := inb_of S6 ⟨by decide, by decide⟩
    refine own_st (T' := T4) (g' := (mkF m 13 #[rv va, iv (1 : Int32), rv da, iv (1 : Int32), iv (3 : Int32), iv (1 : Int32), iv c0] [(.int c1)])) (X4.caload hx (j := (1 : Int32)) (v := (.int c1)) (by rw [e4]; exact Ar6.1) (State.isArrayOf_alike hZ.alike Ar6.2.1) Ar6.2.2 hin6 (H6.at hin6 rfl) (g := (mkF m 12 #[rv va, iv (1 : Int32), rv da, iv (1 : Int32), iv (3 : Int32), iv (1 : Int32), iv c0] [(.int (1 : Int32)), (.ref va)])) rfl rfl (hb hby d13_12)) ?_
    clear hin6 G6 H6 N6 S6 q6 Ar6 cl6
    refine own_st (T' := T4) (g' := (mkF m 15 #[rv va, iv (1 : Int32), rv da, iv (1 : Int32), iv (3 : Int32), iv (1 : Int32), iv c1] [])) (fun _ k_ => XS.istore X4.here hx rfl (hb hby d13_13) rfl (l' := #[rv va, iv (1 : Int32), rv da, iv (1 : Int32), iv (3 : Int32), iv (1 : Int32), iv c1]) rfl k_) ?_
    refine own_st (T' := T4) (g' := (mkF m 17 #[rv va, iv (1 : Int32), rv da, iv (1 : Int32), iv (3 : Int32), iv (1 : Int32), iv c1] [(.int c1)])) (fun _ k_ => XS.iload X4.here hx rfl (hb hby d13_15) rfl  k_) ?_
    refine own_st (T' := T4) (g' := (mkF m 20 #[rv va, iv (1 : Int32), rv da, iv (1 : Int32), iv (3 : Int32), iv (1 : Int32), iv c1] [(.int (255 : Int32)), (.int c1)])) (fun _ k_ => XS.sipush X4.here hx rfl (hb hby d13_17) k_) ?_
    by_cases hc7 : (255 : Int32) < c1
    · refine own_st (T' := T4) (g' := (mkF m 23 #[rv va, iv (1 : Int32), rv da, iv (1 : Int32), iv (3 : Int32), iv (1 : Int32), iv c1] [])) (fun _ k_ => XS.icmpNo X4.here hx rfl (hb hby d13_20) rfl (tlt hc7).2.2.2 k_) ?_
      refine own_st (T' := T4) (g' := (mkF m 25 #[rv va, iv (1 : Int32), rv da, iv (1 : Int32), iv (3 : Int32), iv (1 : Int32), iv c1] [(.int (1 : Int32))])) (fun _ k_ => XS.iload X4.here hx rfl (hb hby d13_23) rfl  k_) ?_
      have f8 := (Keep.refl h0 [da]).wr W4 (Or.inl (List.mem_of_getElem? (i := 0) rfl))
      exact own_retI X4 hx hret hlk (hb hby d13_25) (by decide) (by decide) (by rw [e4]; exact ⟨(by unfold own_nd3; rw [if_neg hc2, if_pos hc7]), Nx4, f8, (fun q => absurd q (by unfold own_nd3; rw [if_neg hc2, if_pos hc7]; decide))⟩)
    · refine own_st (T' := T4) (g' := (mkF m 26 #[rv va, iv (1 : Int32), rv da, iv (1 : Int32), iv (3 : Int32), iv (1 : Int32), iv c1] [])) (fun _ k_ => XS.icmpYes X4.here hx rfl (pc0 := 20) (pc' := 26) rfl (hb hby d13_20) rfl (flt hc7).2.2.2 (by decide) (by decide) k_) ?_
      refine own_st (T' := T4) (g' := (mkF m 27 #[rv va, iv (1 : Int32), rv da, iv (1 : Int32), iv (3 : Int32), iv (1 : Int32), iv c1] [(.ref da)])) (fun _ k_ => XS.aloadN X4.here hx rfl (hb hby d13_26) rfl rfl  k_) ?_
      refine own_st (T' := T4) (g' := (mkF m 28 #[rv va, iv (1 : Int32), rv da, iv (1 : Int32), iv (3 : Int32), iv (1 : Int32), iv c1] [(.int (1 : Int32)), (.ref da)])) (fun _ k_ => XS.iloadN X4.here hx rfl (hb hby d13_27) rfl  k_) ?_
      refine own_st (T' := T4) (g' := (mkF m 30 #[rv va, iv (1 : Int32), rv da, iv (1 : Int32), iv (3 : Int32), iv (1 : Int32), iv c1] [(.int c1), (.int (1 : Int32)), (.ref da)])) (fun _ k_ => XS.iload X4.here hx rfl (hb hby d13_28) rfl  k_) ?_
      refine own_st (T' := T4) (g' := (mkF m 31 #[rv va, iv (1 : Int32), rv da, iv (1 : Int32), iv (3 : Int32), iv (1 : Int32), iv c1] [(.int (c1.toInt8.toInt32)), (.int (1 : Int32)), (.ref da)])) (fun _ k_ => XS.i2b X4.here hx rfl (hb hby d13_30) rfl k_) ?_
      obtain ⟨cl9, Ar9, q9, S9, N9, H9, G9⟩ := id Vn4
      have hin9 : ¬ ((1 : Int32) < 0 ∨ cl9.slots.size ≤ ((1 : Int32)).toNatClampNeg) := inb_of S9 ⟨by decide, by decide⟩
      obtain ⟨T10, h10, X10, e10, W10, st10⟩ := stB X4 hx hZ e4 Ar9 (j := (1 : Int32)) hin9 (g := (mkF m 31 #[rv va, iv (1 : Int32), rv da, iv (1 : Int32), iv (3 : Int32), iv (1 : Int32), iv c1] [(.int (c1.toInt8.toInt32)), (.int (1 : Int32)), (.ref da)])) rfl rfl (hb hby d13_31)
      have V10 : Arv Z h10 da kd .byte (3 : Int32) [(.int (c0.toInt8.toInt32)), (.int (nar .byte (c1.toInt8.toInt32))), (.int (0 : Int32))] (.int (0 : Int32)) := Arv.set Ar9 q9 S9 N9 H9 G9 (fits_nar_byte _) W10 1 rfl (Nat.le_of_ble_eq_true rfl)
      have Vn10 : Arv Z h10 da kd .byte (3 : Int32) [(.int (c0.toInt8.toInt32)), (.int (c1.toInt8.toInt32)), (.int (0 : Int32))] (.int (0 : Int32)) := by simpa only [own_bb] using V10
      have Nx10 := Fr.snoc X10 Nx4 fda
      refine own_st (T' := T10) (g' := (mkF m 32 #[rv va, iv (1 : Int32), rv da, iv (1 : Int32), iv (3 : Int32), iv (1 : Int32), iv c1] [])) st10 ?_
      clear hin9 G9 H9 N9 S9 q9 Ar9 cl9 st10
      refine own_st (T' := T10) (g' := (mkF m 35 #[rv va, iv (2 : Int32), rv da, iv (1 : Int32), iv (3 : Int32), iv (1 : Int32), iv c1] [])) (fun _ k_ => XS.iinc X10.here hx rfl (hb hby d13_32) rfl (l' := #[rv va, iv (2 : Int32), rv da, iv (1 : Int32), iv (3 : Int32), iv (1 : Int32), iv c1]) rfl k_) ?_
      refine own_st (T' := T10) (g' := (mkF m 38 #[rv va, iv (2 : Int32), rv da, iv (2 : Int32), iv (3 : Int32), iv (1 : Int32), iv c1] [])) (fun _ k_ => XS.iinc X10.here hx rfl (hb hby d13_35) rfl (l' := #[rv va, iv (2 : Int32), rv da, iv (2 : Int32), iv (3 : Int32), iv (1 : Int32), iv c1]) rfl k_) ?_
      refine own_st (T' := T10) (g' := (mkF m 41 #[rv va, iv (2 : Int32), rv da, iv (2 : Int32), iv (3 : Int32), iv (2 : Int32), iv c1] [])) (fun _ k_ => XS.iinc X10.here hx rfl (hb hby d13_38) rfl (l' := #[rv va, iv (2 : Int32), rv da, iv (2 : Int32), iv (3 : Int32), iv (2 : Int32), iv c1]) rfl k_) ?_
      refine own_st (T' := T10) (g' := (mkF m 3 #[rv va, iv (2 : Int32), rv da, iv (2 : Int32), iv (3 : Int32), iv (2 : Int32), iv c1] [])) (fun _ k_ => XS.goto X10.here hx rfl (pc0 := 41) (pc' := 3) rfl (hb hby d13_41) (by decide) (by decide) k_) ?_
      refine own_st (T' := T10) (g' := (mkF m 5 #[rv va, iv (2 : Int32), rv da, iv (2 : Int32), iv (3 : Int32), iv (2 : Int32), iv c1] [(.int (2 : Int32))])) (fun _ k_ => XS.iload X10.here hx rfl (hb hby d13_3) rfl  k_) ?_
      refine own_st (T' := T10) (g' := (mkF m 7 #[rv va, iv (2 : Int32), rv da, iv (2 : Int32), iv (3 : Int32), iv (2 : Int32), iv c1] [(.int (3 : Int32)), (.int (2 : Int32))])) (fun _ k_ => XS.iload X10.here hx rfl (hb hby d13_5) rfl  k_) ?_
      refine own_st (T' := T10) (g' := (mkF m 10 #[rv va, iv (2 : Int32), rv da, iv (2 : Int32), iv (3 : Int32), iv (2 : Int32), iv c1] [])) (fun _ k_ => XS.icmpNo X10.here hx rfl (hb hby d13_7) rfl (tlt (by decide : (2 : Int32) < (3 : Int32))).2.1 k_) ?_
      refine own_st (T' := T10) (g' := (mkF m 11 #[rv va, iv (2 : Int32), rv da, iv (2 : Int32), iv (3 : Int32), iv (2 : Int32), iv c1] [(.ref va)])) (fun _ k_ => XS.aloadN X10.here hx rfl (hb hby d13_10) rfl rfl  k_) ?_
      refine own_st (T' := T10) (g' := (mkF m 12 #[rv va, iv (2 : Int32), rv da, iv (2 : Int32), iv (3 : Int32), iv (2 : Int32), iv c1] [(.int (2 : Int32)), (.ref va)])) (fun _ k_ => XS.iloadN X10.here hx rfl (hb hby d13_11) rfl  k_) ?_
      have f11 := f5.other W10 nad
      obtain ⟨cl12, Ar12, q12, S12, N12, H12, G12⟩ := id f11
      have hin12 : ¬ ((2 : Int32) < 0 ∨ cl12.slots.size ≤ ((2 : Int32)).toNatClampNeg) := inb_of S12 ⟨by decide, by decide⟩
      refine own_st (T' := T10) (g' := (mkF m 13 #[rv va, iv (2 : Int32), rv da, iv (2 : Int32), iv (3 : Int32), iv (2 : Int32), iv c1] [(.int c2)])) (X10.caload hx (j := (2 : Int32)) (v := (.int c2)) (by rw [e10]; exact Ar12.1) (State.isArrayOf_alike hZ.alike Ar12.2.1) Ar12.2.2 hin12 (H12.at hin12 rfl) (g := (mkF m 12 #[rv va, iv (2 : Int32), rv da, iv (2 : Int32), iv (3 : Int32), iv (2 : Int32), iv c1] [(.int (2 : Int32)), (.ref va)])) rfl rfl (hb hby d13_12)) ?_
      clear hin12 G12 H12 N12 S12 q12 Ar12 cl12
      refine own_st (T' := T10) (g' := (mkF m 15 #[rv va, iv (2 : Int32), rv da, iv (2 : Int32), iv (3 : Int32), iv (2 : Int32), iv c2] [])) (fun _ k_ => XS.istore X10.here hx rfl (hb hby d13_13) rfl (l' := #[rv va, iv (2 : Int32), rv da, iv (2 : Int32), iv (3 : Int32), iv (2 : Int32), iv c2]) rfl k_) ?_
      refine own_st (T' := T10) (g' := (mkF m 17 #[rv va, iv (2 : Int32), rv da, iv (2 : Int32), iv (3 : Int32), iv (2 : Int32), iv c2] [(.int c2)])) (fun _ k_ => XS.iload X10.here hx rfl (hb hby d13_15) rfl  k_) ?_
      refine own_st (T' := T10) (g' := (mkF m 20 #[rv va, iv (2 : Int32), rv da, iv (2 : Int32), iv (3 : Int32), iv (2 : Int32), iv c2] [(.int (255 : Int32)), (.int c2)])) (fun _ k_ => XS.sipush X10.here hx rfl (hb hby d13_17) k_) ?_
      by_cases hc13 : (255 : Int32) < c2
      · refine own_st (T' := T10) (g' := (mkF m 23 #[rv va, iv (2 : Int32), rv da, iv (2 : Int32), iv (3 : Int32), iv (2 : Int32), iv c2] [])) (fun _ k_ => XS.icmpNo X10.here hx rfl (hb hby d13_20) rfl (tlt hc13).2.2.2 k_) ?_
        refine own_st (T' := T10) (g' := (mkF m 25 #[rv va, iv (2 : Int32), rv da, iv (2 : Int32), iv (3 : Int32), iv (2 : Int32), iv c2] [(.int (2 : Int32))])) (fun _ k_ => XS.iload X10.here hx rfl (hb hby d13_23) rfl  k_) ?_
        have f14 := (Keep.refl h0 [da]).wr W4 (Or.inl (List.mem_of_getElem? (i := 0) rfl))
        have f15 := f14.wr W10 (Or.inl (List.mem_of_getElem? (i := 0) rfl))
        exact own_retI X10 hx hret hlk (hb hby d13_25) (by decide) (by decide) (by rw [e10]; exact ⟨(by unfold own_nd3; rw [if_neg hc2, if_neg hc7, if_pos hc13]), Nx10, f15, (fun q => absurd q (by unfold own_nd3; rw [if_neg hc2, if_neg hc7, if_pos hc13]; decide))⟩)
      · refine own_st (T' := T10) (g' := (mkF m 26 #[rv va, iv (2 : Int32), rv da, iv (2 : Int32), iv (3 : Int32), iv (2 : Int32), iv c2] [])) (fun _ k_ => XS.icmpYes X10.here hx rfl (pc0 := 20) (pc' := 26) rfl (hb hby d13_20) rfl (flt hc13).2.2.2 (by decide) (by decide) k_) ?_
        refine own_st (T' := T10) (g' := (mkF m 27 #[rv va, iv (2 : Int32), rv da, iv (2 : Int32), iv (3 : Int32), iv (2 : Int32), iv c2] [(.ref da)])) (fun _ k_ => XS.aloadN X10.here hx rfl (hb hby d13_26) rfl rfl  k_) ?_
        refine own_st (T' := T10) (g' := (mkF m 28 #[rv va, iv (2 : Int32), rv da, iv (2 : Int32), iv (3 : Int32), iv (2 : Int32), iv c2] [(.int (2 : Int32)), (.ref da)])) (fun _ k_ => XS.iloadN X10.here hx rfl (hb hby d13_27) rfl  k_) ?_
        refine own_st (T' := T10) (g' := (mkF m 30 #[rv va, iv (2 : Int32), rv da, iv (2 : Int32), iv (3 : Int32), iv (2 : Int32), iv c2] [(.int c2), (.int (2 : Int32)), (.ref da)])) (fun _ k_ => XS.iload X10.here hx rfl (hb hby d13_28) rfl  k_) ?_
        refine own_st (T' := T10) (g' := (mkF m 31 #[rv va, iv (2 : Int32), rv da, iv (2 : Int32), iv (3 : Int32), iv (2 : Int32), iv c2] [(.int (c2.toInt8.toInt32)), (.int (2 : Int32)), (.ref da)])) (fun _ k_ => XS.i2b X10.here hx rfl (hb hby d13_30) rfl k_) ?_
        obtain ⟨cl16, Ar16, q16, S16, N16, H16, G16⟩ := id Vn10
        have hin16 : ¬ ((2 : Int32) < 0 ∨ cl16.slots.size ≤ ((2 : Int32)).toNatClampNeg) := inb_of S16 ⟨by decide, by decide⟩
        obtain ⟨T17, h17, X17, e17, W17, st17⟩ := stB X10 hx hZ e10 Ar16 (j := (2 : Int32)) hin16 (g := (mkF m 31 #[rv va, iv (2 : Int32), rv da, iv (2 : Int32), iv (3 : Int32), iv (2 : Int32), iv c2] [(.int (c2.toInt8.toInt32)), (.int (2 : Int32)), (.ref da)])) rfl rfl (hb hby d13_31)
        have V17 : Arv Z h17 da kd .byte (3 : Int32) [(.int (c0.toInt8.toInt32)), (.int (c1.toInt8.toInt32)), (.int (nar .byte (c2.toInt8.toInt32)))] (.int (0 : Int32)) := Arv.set Ar16 q16 S16 N16 H16 G16 (fits_nar_byte _) W17 2 rfl (Nat.le_of_ble_eq_true rfl)
        have Vn17 : Arv Z h17 da kd .byte (3 : Int32) [(.int (c0.toInt8.toInt32)), (.int (c1.toInt8.toInt32)), (.int (c2.toInt8.toInt32))] (.int (0 : Int32)) := by simpa only [own_bb] using V17
        have Nx17 := Fr.snoc X17 Nx10 fda
        refine own_st (T' := T17) (g' := (mkF m 32 #[rv va, iv (2 : Int32), rv da, iv (2 : Int32), iv (3 : Int32), iv (2 : Int32), iv c2] [])) st17 ?_
        clear hin16 G16 H16 N16 S16 q16 Ar16 cl16 st17
        refine own_st (T' := T17) (g' := (mkF m 35 #[rv va, iv (3 : Int32), rv da, iv (2 : Int32), iv (3 : Int32), iv (2 : Int32), iv c2] [])) (fun _ k_ => XS.iinc X17.here hx rfl (hb hby d13_32) rfl (l' := #[rv va, iv (3 : Int32), rv da, iv (2 : Int32), iv (3 : Int32), iv (2 : Int32), iv c2]) rfl k_) ?_
        refine own_st (T' := T17) (g' := (mkF m 38 #[rv va, iv (3 : Int32), rv da, iv (3 : Int32), iv (3 : Int32), iv (2 : Int32), iv c2] [])) (fun _ k_ => XS.iinc X17.here hx rfl (hb hby d13_35) rfl (l' := #[rv va, iv (3 : Int32), rv da, iv (3 : Int32), iv (3 : Int32), iv (2 : Int32), iv c2]) rfl k_) ?_
        refine own_st (T' := T17) (g' := (mkF m 41 #[rv va, iv (3 : Int32), rv da, iv (3 : Int32), iv (3 : Int32), iv (3 : Int32), iv c2] [])) (fun _ k_ => XS.iinc X17.here hx rfl (hb hby d13_38) rfl (l' := #[rv va, iv (3 : Int32), rv da, iv (3 : Int32), iv (3 : Int32), iv (3 : Int32), iv c2]) rfl k_) ?_
        refine own_st (T' := T17) (g' := (mkF m 3 #[rv va, iv (3 : Int32), rv da, iv (3 : Int32), iv (3 : Int32), iv (3 : Int32), iv c2] [])) (fun _ k_ => XS.goto X17.here hx rfl (pc0 := 41) (pc' := 3) rfl (hb hby d13_41) (by decide) (by decide) k_) ?_
        refine own_st (T' := T17) (g' := (mkF m 5 #[rv va, iv (3 : Int32), rv da, iv (3 : Int32), iv (3 : Int32), iv (3 : Int32), iv c2] [(.int (3 : Int32))])) (fun _ k_ => XS.iload X17.here hx rfl (hb hby d13_3) rfl  k_) ?_
        refine own_st (T' := T17) (g' := (mkF m 7 #[rv va, iv (3 : Int32), rv da, iv (3 : Int32), iv (3 : Int32), iv (3 : Int32), iv c2] [(.int (3 : Int32)), (.int (3 : Int32))])) (fun _ k_ => XS.iload X17.here hx rfl (hb hby d13_5) rfl  k_) ?_
        refine own_st (T' := T17) (g' := (mkF m 44 #[rv va, iv (3 : Int32), rv da, iv (3 : Int32), iv (3 : Int32), iv (3 : Int32), iv c2] [])) (fun _ k_ => XS.icmpYes X17.here hx rfl (pc0 := 7) (pc' := 44) rfl (hb hby d13_7) rfl (flt (by decide : ¬ ((3 : Int32) < (3 : Int32)))).2.1 (by decide) (by decide) k_) ?_
        refine own_st (T' := T17) (g' := (mkF m 46 #[rv va, iv (3 : Int32), rv da, iv (3 : Int32), iv (3 : Int32), iv (3 : Int32), iv c2] [(.int (3 : Int32))])) (fun _ k_ => XS.iload X17.here hx rfl (hb hby d13_44) rfl  k_) ?_
        have f18 := (Keep.refl h0 [da]).wr W4 (Or.inl (List.mem_of_getElem? (i := 0) rfl))
        have f19 := f18.wr W10 (Or.inl (List.mem_of_getElem? (i := 0) rfl))
        have f20 := f19.wr W17 (Or.inl (List.mem_of_getElem? (i := 0) rfl))
        exact own_retI X17 hx hret hlk (hb hby d13_46) (by decide) (by decide) (by rw [e17]; exact ⟨(by unfold own_nd3; rw [if_neg hc2, if_neg hc7, if_neg hc13]), Nx17, f20, (fun _ => Vn17)⟩)
theorem ef_nbl_3 (m : MethodId) (x0 : Int32) : entryFrame m #[(.int x0)] 1 = mkF m 0 #[iv x0] [] := by first | (simp [entryFrame, mkF, argsToLocals, Value.category]; done) | rfl
def Q_nbl_3 (Z : State)  (h0 : Heap) (n0 : Nat) (v : Option Value) (h : Heap) (L : List Loc) : Prop := (v = some (.int (6 : Int32))) ∧ (Fr n0 L) ∧ (h = h0)
set_option maxRecDepth 65536 in
set_option maxHeartbeats 40000000 in
theorem rm_nbl_3 (l : Launch) (Z : State) (a0 : Array Value) (hw : ∀ d ∈ tables_1, d.before a0 Z = true) (ws : List Jvm.Cond)  (h0 : Heap) (n0 : Nat) (O0 : Old Z n0 h0) :
    own_MF l own_m15 (Jvm.Cond.code own_m15 jdk_52_method_3_code 1 (some .int) :: ws) ({ frames := 0, cells := 0, slots := 0, locals := 0 } : Room) #[(.int (3 : Int32))] Z h0 (Q_nbl_3 Z  h0 n0) := by
  refine own_met (own := "java/lang/StringUTF16") (nme := "newBytesLength") rfl rfl (plainFor_of_name pn_3) ?_
  intro p e s m below meth c s₁ hx hby hml hown hnm X0 e0 hret hlk hZ
  have N0 := Fr.nil n0
  rw [ef_nbl_3 m (3 : Int32)]
  refine own_st (T' := s₁) (g' := (mkF m 1 #[iv (3 : Int32)] [(.int (3 : Int32))])) (fun _ k_ => XS.iloadN X0.here hx rfl (hb hby d24_0) rfl  k_) ?_
  refine own_st (T' := s₁) (g' := (mkF m 12 #[iv (3 : Int32)] [])) (fun _ k_ => XS.ifYes X0.here hx rfl (pc0 := 1) (pc' := 12) rfl (hb hby d24_1) rfl ((if0 _ _).trans (flt (by decide : ¬ ((3 : Int32) < (0 : Int32)))).2.1) (by decide) (by decide) k_) ?_
  refine own_st (T' := s₁) (g' := (mkF m 13 #[iv (3 : Int32)] [(.int (3 : Int32))])) (fun _ k_ => XS.iloadN X0.here hx rfl (hb hby d24_12) rfl  k_) ?_
  refine own_st (T' := s₁) (g' := (mkF m 15 #[iv (3 : Int32)] [(.int (1073741823 : Int32)), (.int (3 : Int32))])) (X0.ldcInt hx hown (mvT hZ (wd hw 108 rfl)) (g := (mkF m 13 #[iv (3 : Int32)] [(.int (3 : Int32))])) rfl (hb hby d24_13)) ?_
  refine own_st (T' := s₁) (g' := (mkF m 55 #[iv (3 : Int32)] [])) (fun _ k_ => XS.icmpYes X0.here hx rfl (pc0 := 15) (pc' := 55) rfl (hb hby d24_15) rfl (tlt (by decide : (3 : Int32) < (1073741823 : Int32))).1 (by decide) (by decide) k_) ?_
  refine own_st (T' := s₁) (g' := (mkF m 56 #[iv (3 : Int32)] [(.int (3 : Int32))])) (fun _ k_ => XS.iloadN X0.here hx rfl (hb hby d24_55) rfl  k_) ?_
  refine own_st (T' := s₁) (g' := (mkF m 57 #[iv (3 : Int32)] [(.int (1 : Int32)), (.int (3 : Int32))])) (fun _ k_ => XS.iconst X0.here hx rfl (hb hby d24_56) k_) ?_
  refine own_st (T' := s₁) (g' := (mkF m 58 #[iv (3 : Int32)] [(.int (6 : Int32))])) (fun _ k_ => XS.ishl X0.here hx rfl (hb hby d24_57) rfl k_) ?_
  exact own_retI X0 hx hret hlk (hb hby d24_58) (by decide) (by decide) ⟨rfl, N0, e0⟩
theorem ef_nbf_3 (m : MethodId) (x0 : Int32) : entryFrame m #[(.int x0)] 1 = mkF m 0 #[iv x0] [] := by first | (simp [entryFrame, mkF, argsToLocals, Value.category]; done) | rfl
def Q_nbf_3 (Z : State)  (h0 : Heap) (n0 : Nat) (v : Option Value) (h : Heap) (L : List Loc) : Prop := ∃ (t : Addr) (kb : ClassId), (v = some (.ref t)) ∧ (Fr n0 L) ∧ (Keep h0 h []) ∧ (Arv Z h t kb .byte (6 : Int32) [(.int (0 : Int32)), (.int (0 : Int32)), (.int (0 : Int32)), (.int (0 : Int32)), (.int (0 : Int32)), (.int (0 : Int32))] (.int (0 : Int32))) ∧ (h0.size ≤ t)
set_option maxRecDepth 65536 in
set_option maxHeartbeats 40000000 in
theorem rm_nbf_3 (l : Launch) (Z : State) (a0 : Array Value) (hw : ∀ d ∈ tables_1, d.before a0 Z = true) (ws : List Jvm.Cond)  (h0 : Heap) (n0 : Nat) (O0 : Old Z n0 h0) :
    own_MF l own_m16 (Jvm.Cond.code own_m16 jdk_52_method_2_code 1 (some (.array .byte)) :: ws) ({ frames := 1, cells := 1, slots := 6, locals := 12 } : Room) #[(.int (3 : Int32))] Z h0 (Q_nbf_3 Z  h0 n0) := by
  refine own_met (own := "java/lang/StringUTF16") (nme := "newBytesFor") rfl rfl (plainFor_of_name pn_3) ?_
  intro p e s m below meth c s₁ hx hby hml hown hnm X0 e0 hret hlk hZ
  have N0 := Fr.nil n0
  rw [ef_nbf_3 m (3 : Int32)]
  refine own_st (T' := s₁) (g' := (mkF m 1 #[iv (3 : Int32)] [(.int (3 : Int32))])) (fun _ k_ => XS.iloadN X0.here hx rfl (hb hby d23_0) rfl  k_) ?_
  obtain ⟨_, T1, L1, X1, hQ1, st1⟩ := own_callS X0 hx (y := own_m15) hown (mvT hZ (wd hw 105 rfl)) (mvT hZ (wd hw 106 rfl)) (mvT hZ (wd hw 59 rfl)) (mvT hZ (wd hw 107 rfl)) (by decide) (backOf (W := 0) (rm_nbl_3 l Z a0 hw []  h0 n0 O0) hZ (wd hw 107 rfl) (wd hw 59 rfl) (by decide) (by decide)) (g := (mkF m 1 #[iv (3 : Int32)] [(.int (3 : Int32))])) rfl (by rw [hml]; rfl) (argsL := [(.int (3 : Int32))]) (rest := []) (lenOf pd__I_I rfl) rfl (by show 2 * 0 + _ ≤ _; exact Nat.le_of_eq rfl) (hb hby d23_1) rfl e0 (by decide) (by decide) (c' := 0) (s' := 0) rfl rfl
  obtain ⟨rfl, Nq1, eq1⟩ := hQ1
  have N1 := Fr.app N0 Nq1
  refine own_st (T' := T1) (g' := (mkF m 4 #[iv (3 : Int32)] [(.int (6 : Int32))])) st1 ?_
  clear st1
  obtain ⟨T2, h2, k2, X2, e2, E2, A2, st2⟩ := newP X1 hx hZ (wd hw 29 rfl) eq1 (g := (mkF m 4 #[iv (3 : Int32)] [(.int (6 : Int32))])) rfl (hb hby d23_4) rfl (by decide) (cap := 6) (by decide) (by decide) (by decide) (by decide)
  obtain ⟨b2, g2⟩ : ∃ z, z = h0.size := ⟨_, rfl⟩
  rw [← g2] at A2 st2
  have fr2 : n0 ≤ b2 := Nat.le_trans (own_z O0) (Nat.le_of_eq g2.symm)
  have sz2 : h0.size ≤ b2 := Nat.le_trans (Keep.refl h0 []).1 (Nat.le_of_eq g2.symm)
  have V2 : Arv Z h2 b2 k2 .byte (6 : Int32) [(.int (0 : Int32)), (.int (0 : Int32)), (.int (0 : Int32)), (.int (0 : Int32)), (.int (0 : Int32)), (.int (0 : Int32))] (.int (0 : Int32)) := (Arv.new A2 (by decide)).pad (pad_rep [] (.int (0 : Int32)) 6)
  refine own_st (T' := T2) (g' := (mkF m 6 #[iv (3 : Int32)] [(.ref b2)])) st2 ?_
  clear st2
  have f3 := (Keep.refl h0 []).ext E2
  exact own_retA X2 hx hret rfl rfl hlk (hb hby d23_6) (by decide) (by decide) (by rw [e2]; exact ⟨b2, k2, rfl, N1, f3, V2, sz2⟩)
theorem ef_tby_3 (m : MethodId) (x0 : Addr) (x1 : Int32) (x2 : Int32) : entryFrame m #[(.ref x0), (.int x1), (.int x2)] 5 = mkF m 0 #[rv x0, iv x1, iv x2, .unset, .unset] [] := by first | (simp [entryFrame, mkF, argsToLocals, Value.category]; done) | rfl
def Q_tby_3 (Z : State) (va : Addr) (kc : ClassId) (c0 : Int32) (c1 : Int32) (c2 : Int32) (h0 : Heap) (n0 : Nat) (v : Option Value) (h : Heap) (L : List Loc) : Prop := ∃ (t : Addr) (kb : ClassId), (v = some (.ref t)) ∧ (Fr n0 L) ∧ (Keep h0 h []) ∧ (Arv Z h t kb .byte (6 : Int32) [(.int (own_l16 c0)), (.int (own_h16 c0)), (.int (own_l16 c1)), (.int (own_h16 c1)), (.int (own_l16 c2)), (.int (own_h16 c2))] (.int (0 : Int32))) ∧ (h0.size ≤ t)
set_option maxRecDepth 65536 in
set_option maxHeartbeats 40000000 in
theorem rm_tby_3 (l : Launch) (Z : State) (a0 : Array Value) (hw : ∀ d ∈ tables_1, d.before a0 Z = true) (ws : List Jvm.Cond) (va : Addr) (kc : ClassId) (c0 : Int32) (c1 : Int32) (c2 : Int32) (h0 : Heap) (n0 : Nat) (O0 : Old Z n0 h0) (VA : Arv Z h0 va kc .char (3 : Int32) [(.int c0), (.int c1), (.int c2)] (.int (0 : Int32))) (SA : Sta Z Z.heap "java/lang/StringUTF16" "$assertionsDisabled" "Z" (.int (1 : Int32))) (SHI : Sta Z Z.heap "java/lang/StringUTF16" "HI_BYTE_SHIFT" "I" (.int (0 : Int32))) (SLO : Sta Z Z.heap "java/lang/StringUTF16" "LO_BYTE_SHIFT" "I" (.int (8 : Int32))) :
    own_MF l own_m17 (Jvm.Cond.code own_m17 jdk_52_method_14_code 5 (some (.array .byte)) :: ws) ({ frames := 2, cells := 1, slots := 6, locals := 24 } : Room) #[(.ref va), (.int (0 : Int32)), (.int (3 : Int32))] Z h0 (Q_tby_3 Z va kc c0 c1 c2 h0 n0) := by
  refine own_met (own := "java/lang/StringUTF16") (nme := "toBytes") rfl rfl (plainFor_of_name pn_3) ?_
  intro p e s m below meth c s₁ hx hby hml hown hnm X0 e0 hret hlk hZ
  have N0 := Fr.nil n0
  rw [ef_tby_3 m va (0 : Int32) (3 : Int32)]
  refine own_st (T' := s₁) (g' := (mkF m 1 #[rv va, iv (0 : Int32), iv (3 : Int32), .unset, .unset] [(.int (3 : Int32))])) (fun _ k_ => XS.iloadN X0.here hx rfl (hb hby d22_0) rfl  k_) ?_
  obtain ⟨_, T1, L1, X1, hQ1, st1⟩ := own_callS X0 hx (y := own_m16) hown (mvT hZ (wd hw 102 rfl)) (mvT hZ (wd hw 103 rfl)) (mvT hZ (wd hw 59 rfl)) (mvT hZ (wd hw 104 rfl)) (by decide) (backOf (W := 0) (rm_nbf_3 l Z a0 hw []  h0 n0 O0) hZ (wd hw 104 rfl) (wd hw 59 rfl) (by decide) (by decide)) (g := (mkF m 1 #[rv va, iv (0 : Int32), iv (3 : Int32), .unset, .unset] [(.int (3 : Int32))])) rfl (by rw [hml]; rfl) (argsL := [(.int (3 : Int32))]) (rest := []) (lenOf pd__I__B rfl) rfl (by show 2 * 0 + _ ≤ _; exact Nat.le_of_eq rfl) (hb hby d22_1) rfl e0 (by decide) (by decide) (c' := 1) (s' := 6) rfl rfl
  obtain ⟨t1, kb1, rfl, Nq1, K1, fq1_0, xq1_fresh_t⟩ := hQ1
  have N1 := Fr.app N0 Nq1
  refine own_st (T' := T1) (g' := (mkF m 4 #[rv va, iv (0 : Int32), iv (3 : Int32), .unset, .unset] [(.ref t1)])) st1 ?_
  clear st1
  refine own_st (T' := T1) (g' := (mkF m 5 #[rv va, iv (0 : Int32), iv (3 : Int32), rv t1, .unset] [])) (fun _ k_ => XS.astoreN X1.here hx rfl (hb hby d22_4) rfl rfl (l' := #[rv va, iv (0 : Int32), iv (3 : Int32), rv t1, .unset]) rfl k_) ?_
  refine own_st (T' := T1) (g' := (mkF m 6 #[rv va, iv (0 : Int32), iv (3 : Int32), rv t1, .unset] [(.int (0 : Int32))])) (fun _ k_ => XS.iconst X1.here hx rfl (hb hby d22_5) k_) ?_
  refine own_st (T' := T1) (g' := (mkF m 8 #[rv va, iv (0 : Int32), iv (3 : Int32), rv t1, iv (0 : Int32)] [])) (fun _ k_ => XS.istore X1.here hx rfl (hb hby d22_6) rfl (l' := #[rv va, iv (0 : Int32), iv (3 : Int32), rv t1, iv (0 : Int32)]) rfl k_) ?_
  refine own_st (T' := T1) (g' := (mkF m 10 #[rv va, iv (0 : Int32), iv (3 : Int32), rv t1, iv (0 : Int32)] [(.int (0 : Int32))])) (fun _ k_ => XS.iload X1.here hx rfl (hb hby d22_8) rfl  k_) ?_
  refine own_st (T' := T1) (g' := (mkF m 11 #[rv va, iv (0 : Int32), iv (3 : Int32), rv t1, iv (0 : Int32)] [(.int (3 : Int32)), (.int (0 : Int32))])) (fun _ k_ => XS.iloadN X1.here hx rfl (hb hby d22_10) rfl  k_) ?_
  refine own_st (T' := T1) (g' := (mkF m 14 #[rv va, iv (0 : Int32), iv (3 : Int32), rv t1, iv (0 : Int32)] [])) (fun _ k_ => XS.icmpNo X1.here hx rfl (hb hby d22_11) rfl (tlt (by decide : (0 : Int32) < (3 : Int32))).2.1 k_) ?_
  refine own_st (T' := T1) (g' := (mkF m 15 #[rv va, iv (0 : Int32), iv (3 : Int32), rv t1, iv (0 : Int32)] [(.ref t1)])) (fun _ k_ => XS.aloadN X1.here hx rfl (hb hby d22_14) rfl rfl  k_) ?_
  refine own_st (T' := T1) (g' := (mkF m 17 #[rv va, iv (0 : Int32), iv (3 : Int32), rv t1, iv (0 : Int32)] [(.int (0 : Int32)), (.ref t1)])) (fun _ k_ => XS.iload X1.here hx rfl (hb hby d22_15) rfl  k_) ?_
  refine own_st (T' := T1) (g' := (mkF m 18 #[rv va, iv (0 : Int32), iv (3 : Int32), rv t1, iv (0 : Int32)] [(.ref va), (.int (0 : Int32)), (.ref t1)])) (fun _ k_ => XS.aloadN X1.here hx rfl (hb hby d22_17) rfl rfl  k_) ?_
  refine own_st (T' := T1) (g' := (mkF m 19 #[rv va, iv (0 : Int32), iv (3 : Int32), rv t1, iv (0 : Int32)] [(.int (0 : Int32)), (.ref va), (.int (0 : Int32)), (.ref t1)])) (fun _ k_ => XS.iloadN X1.here hx rfl (hb hby d22_18) rfl  k_) ?_
  have f2 := VA.keep K1 nin0
  obtain ⟨cl3, Ar3, q3, S3, N3, H3, G3⟩ := id f2
  have hin3 : ¬ ((0 : Int32) < 0 ∨ cl3.slots.size ≤ ((0 : Int32)).toNatClampNeg) := inb_of S3 ⟨by decide, by decide⟩
  refine own_st (T' := T1) (g' := (mkF m 20 #[rv va, iv (0 : Int32), iv (3 : Int32), rv t1, iv (0 : Int32)] [(.int c0), (.int (0 : Int32)), (.ref t1)])) (X1.caload hx (j := (0 : Int32)) (v := (.int c0)) Ar3.1 (State.isArrayOf_alike hZ.alike Ar3.2.1) Ar3.2.2 hin3 (H3.at hin3 rfl) (g := (mkF m 19 #[rv va, iv (0 : Int32), iv (3 : Int32), rv t1, iv (0 : Int32)] [(.int (0 : Int32)), (.ref va), (.int (0 : Int32)), (.ref t1)])) rfl rfl (hb hby d22_19)) ?_
  clear hin3 G3 H3 N3 S3 q3 Ar3 cl3
  have f4 := O0.keep K1 all0
  obtain ⟨_, T5, L5, X5, hQ5, st5⟩ := own_callS X1 hx (y := own_m11) hown (mvT hZ (wd hw 109 rfl)) (mvT hZ (wd hw 110 rfl)) (mvT hZ (wd hw 59 rfl)) (mvT hZ (wd hw 111 rfl)) (by decide) (backOf (W := 0) (rm_putc l Z a0 hw [] t1 kb1 (6 : Int32) [(.int (0 : Int32)), (.int (0 : Int32)), (.int (0 : Int32)), (.int (0 : Int32)), (.int (0 : Int32)), (.int (0 : Int32))] (0 : Int32) 0 c0 T1.heap n0 f4 fq1_0 (Nat.le_trans (own_z O0) xq1_fresh_t) rfl (Nat.le_of_ble_eq_true rfl) (by decide) (by decide) (by decide) SA SHI SLO) hZ (wd hw 111 rfl) (wd hw 59 rfl) (by decide) (by decide)) (g := (mkF m 20 #[rv va, iv (0 : Int32), iv (3 : Int32), rv t1, iv (0 : Int32)] [(.int c0), (.int (0 : Int32)), (.ref t1)])) rfl (by rw [hml]; rfl) (argsL := [(.ref t1), (.int (0 : Int32)), (.int c0)]) (rest := []) (lenOf pd___BII_V rfl) rfl (by show 2 * 0 + _ ≤ _; exact Nat.le_of_eq rfl) (hb hby d22_20) rfl rfl (by decide) (by decide) (c' := 1) (s' := 6) rfl rfl
  obtain ⟨rfl, Nq5, K5, fq5_0⟩ := hQ5
  have N5 := Fr.app N1 Nq5
  refine own_st (T' := T5) (g' := (mkF m 23 #[rv va, iv (0 : Int32), iv (3 : Int32), rv t1, iv (0 : Int32)] [])) st5 ?_
  clear st5
  have Vp5 : Arv Z T5.heap t1 kb1 .byte (6 : Int32) [(.int (own_l16 c0)), (.int (own_h16 c0)), (.int (0 : Int32)), (.int (0 : Int32)), (.int (0 : Int32)), (.int (0 : Int32))] (.int (0 : Int32)) := fq5_0
  refine own_st (T' := T5) (g' := (mkF m 26 #[rv va, iv (1 : Int32), iv (3 : Int32), rv t1, iv (0 : Int32)] [])) (fun _ k_ => XS.iinc X5.here hx rfl (hb hby d22_23) rfl (l' := #[rv va, iv (1 : Int32), iv (3 : Int32), rv t1, iv (0 : Int32)]) rfl k_) ?_
  refine own_st (T' := T5) (g' := (mkF m 29 #[rv va, iv (1 : Int32), iv (3 : Int32), rv t1, iv (1 : Int32)] [])) (fun _ k_ => XS.iinc X5.here hx rfl (hb hby d22_26) rfl (l' := #[rv va, iv (1 : Int32), iv (3 : Int32), rv t1, iv (1 : Int32)]) rfl k_) ?_
  refine own_st (T' := T5) (g' := (mkF m 8 #[rv va, iv (1 : Int32), iv (3 : Int32), rv t1, iv (1 : Int32)] [])) (fun _ k_ => XS.goto X5.here hx rfl (pc0 := 29) (pc' := 8) rfl (hb hby d22_29) (by decide) (by decide) k_) ?_
  refine own_st (T' := T5) (g' := (mkF m 10 #[rv va, iv (1 : Int32), iv (3 : Int32), rv t1, iv (1 : Int32)] [(.int (1 : Int32))])) (fun _ k_ => XS.iload X5.here hx rfl (hb hby d22_8) rfl  k_) ?_
  refine own_st (T' := T5) (g' := (mkF m 11 #[rv va, iv (1 : Int32), iv (3 : Int32), rv t1, iv (1 : Int32)] [(.int (3 : Int32)), (.int (1 : Int32))])) (fun _ k_ => XS.iloadN X5.here hx rfl (hb hby d22_10) rfl  k_) ?_
  refine own_st (T' := T5) (g' := (mkF m 14 #[rv va, iv (1 : Int32), iv (3 : Int32), rv t1, iv (1 : Int32)] [])) (fun _ k_ => XS.icmpNo X5.here hx rfl (hb hby d22_11) rfl (tlt (by decide : (1 : Int32) < (3 : Int32))).2.1 k_) ?_
  refine own_st (T' := T5) (g' := (mkF m 15 #[rv va, iv (1 : Int32), iv (3 : Int32), rv t1, iv (1 : Int32)] [(.ref t1)])) (fun _ k_ => XS.aloadN X5.here hx rfl (hb hby d22_14) rfl rfl  k_) ?_
  refine own_st (T' := T5) (g' := (mkF m 17 #[rv va, iv (1 : Int32), iv (3 : Int32), rv t1, iv (1 : Int32)] [(.int (1 : Int32)), (.ref t1)])) (fun _ k_ => XS.iload X5.here hx rfl (hb hby d22_15) rfl  k_) ?_
  refine own_st (T' := T5) (g' := (mkF m 18 #[rv va, iv (1 : Int32), iv (3 : Int32), rv t1, iv (1 : Int32)] [(.ref va), (.int (1 : Int32)), (.ref t1)])) (fun _ k_ => XS.aloadN X5.here hx rfl (hb hby d22_17) rfl rfl  k_) ?_
  refine own_st (T' := T5) (g' := (mkF m 19 #[rv va, iv (1 : Int32), iv (3 : Int32), rv t1, iv (1 : Int32)] [(.int (1 : Int32)), (.ref va), (.int (1 : Int32)), (.ref t1)])) (fun _ k_ => XS.iloadN X5.here hx rfl (hb hby d22_18) rfl  k_) ?_
  have ne6 : va ≠ t1 := Nat.ne_of_lt (Nat.lt_of_lt_of_le VA.lt xq1_fresh_t)
  have f7 := f2.keep K5 (ninS ne6 nin0)
  obtain ⟨cl8, Ar8, q8, S8, N8, H8, G8⟩ := id f7
  have hin8 : ¬ ((1 : Int32) < 0 ∨ cl8.slots.size ≤ ((1 : Int32)).toNatClampNeg) := inb_of S8 ⟨by decide, by decide⟩
  refine own_st (T' := T5) (g' := (mkF m 20 #[rv va, iv (1 : Int32), iv (3 : Int32), rv t1, iv (1 : Int32)] [(.int c1), (.int (1 : Int32)), (.ref t1)])) (X5.caload hx (j := (1 : Int32)) (v := (.int c1)) Ar8.1 (State.isArrayOf_alike hZ.alike Ar8.2.1) Ar8.2.2 hin8 (H8.at hin8 rfl) (g := (mkF m 19 #[rv va, iv (1 : Int32), iv (3 : Int32), rv t1, iv (1 : Int32)] [(.int (1 : Int32)), (.ref va), (.int (1 : Int32)), (.ref t1)])) rfl rfl (hb hby d22_19)) ?_
  clear hin8 G8 H8 N8 S8 q8 Ar8 cl8
  have f9 := f4.keep K5 (allS (Nat.le_trans (own_z O0) xq1_fresh_t) all0)
  obtain ⟨_, T10, L10, X10, hQ10, st10⟩ := own_callS X5 hx (y := own_m11) hown (mvT hZ (wd hw 109 rfl)) (mvT hZ (wd hw 110 rfl)) (mvT hZ (wd hw 59 rfl)) (mvT hZ (wd hw 111 rfl)) (by decide) (backOf (W := 0) (rm_putc l Z a0 hw [] t1 kb1 (6 : Int32) [(.int (own_l16 c0)), (.int (own_h16 c0)), (.int (0 : Int32)), (.int (0 : Int32)), (.int (0 : Int32)), (.int (0 : Int32))] (1 : Int32) 2 c1 T5.heap n0 f9 Vp5 (Nat.le_trans (own_z O0) xq1_fresh_t) rfl (Nat.le_of_ble_eq_true rfl) (by decide) (by decide) (by decide) SA SHI SLO) hZ (wd hw 111 rfl) (wd hw 59 rfl) (by decide) (by decide)) (g := (mkF m 20 #[rv va, iv (1 : Int32), iv (3 : Int32), rv t1, iv (1 : Int32)] [(.int c1), (.int (1 : Int32)), (.ref t1)])) rfl (by rw [hml]; rfl) (argsL := [(.ref t1), (.int (1 : Int32)), (.int c1)]) (rest := []) (lenOf pd___BII_V rfl) rfl (by show 2 * 0 + _ ≤ _; exact Nat.le_of_eq rfl) (hb hby d22_20) rfl rfl (by decide) (by decide) (c' := 1) (s' := 6) rfl rfl
  obtain ⟨rfl, Nq10, K10, fq10_0⟩ := hQ10
  have N10 := Fr.app N5 Nq10
  refine own_st (T' := T10) (g' := (mkF m 23 #[rv va, iv (1 : Int32), iv (3 : Int32), rv t1, iv (1 : Int32)] [])) st10 ?_
  clear st10
  have Vp10 : Arv Z T10.heap t1 kb1 .byte (6 : Int32) [(.int (own_l16 c0)), (.int (own_h16 c0)), (.int (own_l16 c1)), (.int (own_h16 c1)), (.int (0 : Int32)), (.int (0 : Int32))] (.int (0 : Int32)) := fq10_0
  refine own_st (T' := T10) (g' := (mkF m 26 #[rv va, iv (2 : Int32), iv (3 : Int32), rv t1, iv (1 : Int32)] [])) (fun _ k_ => XS.iinc X10.here hx rfl (hb hby d22_23) rfl (l' := #[rv va, iv (2 : Int32), iv (3 : Int32), rv t1, iv (1 : Int32)]) rfl k_) ?_
  refine own_st (T' := T10) (g' := (mkF m 29 #[rv va, iv (2 : Int32), iv (3 : Int32), rv t1, iv (2 : Int32)] [])) (fun _ k_ => XS.iinc X10.here hx rfl (hb hby d22_26) rfl (l' := #[rv va, iv (2 : Int32), iv (3 : Int32), rv t1, iv (2 : Int32)]) rfl k_) ?_
  refine own_st (T' := T10) (g' := (mkF m 8 #[rv va, iv (2 : Int32), iv (3 : Int32), rv t1, iv (2 : Int32)] [])) (fun _ k_ => XS.goto X10.here hx rfl (pc0 := 29) (pc' := 8) rfl (hb hby d22_29) (by decide) (by decide) k_) ?_
  refine own_st (T' := T10) (g' := (mkF m 10 #[rv va, iv (2 : Int32), iv (3 : Int32), rv t1, iv (2 : Int32)] [(.int (2 : Int32))])) (fun _ k_ => XS.iload X10.here hx rfl (hb hby d22_8) rfl  k_) ?_
  refine own_st (T' := T10) (g' := (mkF m 11 #[rv va, iv (2 : Int32), iv (3 : Int32), rv t1, iv (2 : Int32)] [(.int (3 : Int32)), (.int (2 : Int32))])) (fun _ k_ => XS.iloadN X10.here hx rfl (hb hby d22_10) rfl  k_) ?_
  refine own_st (T' := T10) (g' := (mkF m 14 #[rv va, iv (2 : Int32), iv (3 : Int32), rv t1, iv (2 : Int32)] [])) (fun _ k_ => XS.icmpNo X10.here hx rfl (hb hby d22_11) rfl (tlt (by decide : (2 : Int32) < (3 : Int32))).2.1 k_) ?_
  refine own_st (T' := T10) (g' := (mkF m 15 #[rv va, iv (2 : Int32), iv (3 : Int32), rv t1, iv (2 : Int32)] [(.ref t1)])) (fun _ k_ => XS.aloadN X10.here hx rfl (hb hby d22_14) rfl rfl  k_) ?_
  refine own_st (T' := T10) (g' := (mkF m 17 #[rv va, iv (2 : Int32), iv (3 : Int32), rv t1, iv (2 : Int32)] [(.int (2 : Int32)), (.ref t1)])) (fun _ k_ => XS.iload X10.here hx rfl (hb hby d22_15) rfl  k_) ?_
  refine own_st (T' := T10) (g' := (mkF m 18 #[rv va, iv (2 : Int32), iv (3 : Int32), rv t1, iv (2 : Int32)] [(.ref va), (.int (2 : Int32)), (.ref t1)])) (fun _ k_ => XS.aloadN X10.here hx rfl (hb hby d22_17) rfl rfl  k_) ?_
  refine own_st (T' := T10) (g' := (mkF m 19 #[rv va, iv (2 : Int32), iv (3 : Int32), rv t1, iv (2 : Int32)] [(.int (2 : Int32)), (.ref va), (.int (2 : Int32)), (.ref t1)])) (fun _ k_ => XS.iloadN X10.here hx rfl (hb hby d22_18) rfl  k_) ?_
  have f11 := f7.keep K10 (ninS ne6 nin0)
  obtain ⟨cl12, Ar12, q12, S12, N12, H12, G12⟩ := id f11
  have hin12 : ¬ ((2 : Int32) < 0 ∨ cl12.slots.size ≤ ((2 : Int32)).toNatClampNeg) := inb_of S12 ⟨by decide, by decide⟩
  refine own_st (T' := T10) (g' := (mkF m 20 #[rv va, iv (2 : Int32), iv (3 : Int32), rv t1, iv (2 : Int32)] [(.int c2), (.int (2 : Int32)), (.ref t1)])) (X10.caload hx (j := (2 : Int32)) (v := (.int c2)) Ar12.1 (State.isArrayOf_alike hZ.alike Ar12.2.1) Ar12.2.2 hin12 (H12.at hin12 rfl) (g := (mkF m 19 #[rv va, iv (2 : Int32), iv (3 : Int32), rv t1, iv (2 : Int32)] [(.int (2 : Int32)), (.ref va), (.int (2 : Int32)), (.ref t1)])) rfl rfl (hb hby d22_19)) ?_
  clear hin12 G12 H12 N12 S12 q12 Ar12 cl12
  have f13 := f9.keep K10 (allS (Nat.le_trans (own_z O0) xq1_fresh_t) all0)
  obtain ⟨_, T14, L14, X14, hQ14, st14⟩ := own_callS X10 hx (y := own_m11) hown (mvT hZ (wd hw 109 rfl)) (mvT hZ (wd hw 110 rfl)) (mvT hZ (wd hw 59 rfl)) (mvT hZ (wd hw 111 rfl)) (by decide) (backOf (W := 0) (rm_putc l Z a0 hw [] t1 kb1 (6 : Int32) [(.int (own_l16 c0)), (.int (own_h16 c0)), (.int (own_l16 c1)), (.int (own_h16 c1)), (.int (0 : Int32)), (.int (0 : Int32))] (2 : Int32) 4 c2 T10.heap n0 f13 Vp10 (Nat.le_trans (own_z O0) xq1_fresh_t) rfl (Nat.le_of_ble_eq_true rfl) (by decide) (by decide) (by decide) SA SHI SLO) hZ (wd hw 111 rfl) (wd hw 59 rfl) (by decide) (by decide)) (g := (mkF m 20 #[rv va, iv (2 : Int32), iv (3 : Int32), rv t1, iv (2 : Int32)] [(.int c2), (.int (2 : Int32)), (.ref t1)])) rfl (by rw [hml]; rfl) (argsL := [(.ref t1), (.int (2 : Int32)), (.int c2)]) (rest := []) (lenOf pd___BII_V rfl) rfl (by show 2 * 0 + _ ≤ _; exact Nat.le_of_eq rfl) (hb hby d22_20) rfl rfl (by decide) (by decide) (c' := 1) (s' := 6) rfl rfl
  obtain ⟨rfl, Nq14, K14, fq14_0⟩ := hQ14
  have N14 := Fr.app N10 Nq14
  refine own_st (T' := T14) (g' := (mkF m 23 #[rv va, iv (2 : Int32), iv (3 : Int32), rv t1, iv (2 : Int32)] [])) st14 ?_
  clear st14
  have Vp14 : Arv Z T14.heap t1 kb1 .byte (6 : Int32) [(.int (own_l16 c0)), (.int (own_h16 c0)), (.int (own_l16 c1)), (.int (own_h16 c1)), (.int (own_l16 c2)), (.int (own_h16 c2))] (.int (0 : Int32)) := fq14_0
  refine own_st (T' := T14) (g' := (mkF m 26 #[rv va, iv (3 : Int32), iv (3 : Int32), rv t1, iv (2 : Int32)] [])) (fun _ k_ => XS.iinc X14.here hx rfl (hb hby d22_23) rfl (l' := #[rv va, iv (3 : Int32), iv (3 : Int32), rv t1, iv (2 : Int32)]) rfl k_) ?_
  refine own_st (T' := T14) (g' := (mkF m 29 #[rv va, iv (3 : Int32), iv (3 : Int32), rv t1, iv (3 : Int32)] [])) (fun _ k_ => XS.iinc X14.here hx rfl (hb hby d22_26) rfl (l' := #[rv va, iv (3 : Int32), iv (3 : Int32), rv t1, iv (3 : Int32)]) rfl k_) ?_
  refine own_st (T' := T14) (g' := (mkF m 8 #[rv va, iv (3 : Int32), iv (3 : Int32), rv t1, iv (3 : Int32)] [])) (fun _ k_ => XS.goto X14.here hx rfl (pc0 := 29) (pc' := 8) rfl (hb hby d22_29) (by decide) (by decide) k_) ?_
  refine own_st (T' := T14) (g' := (mkF m 10 #[rv va, iv (3 : Int32), iv (3 : Int32), rv t1, iv (3 : Int32)] [(.int (3 : Int32))])) (fun _ k_ => XS.iload X14.here hx rfl (hb hby d22_8) rfl  k_) ?_
  refine own_st (T' := T14) (g' := (mkF m 11 #[rv va, iv (3 : Int32), iv (3 : Int32), rv t1, iv (3 : Int32)] [(.int (3 : Int32)), (.int (3 : Int32))])) (fun _ k_ => XS.iloadN X14.here hx rfl (hb hby d22_10) rfl  k_) ?_
  refine own_st (T' := T14) (g' := (mkF m 32 #[rv va, iv (3 : Int32), iv (3 : Int32), rv t1, iv (3 : Int32)] [])) (fun _ k_ => XS.icmpYes X14.here hx rfl (pc0 := 11) (pc' := 32) rfl (hb hby d22_11) rfl (flt (by decide : ¬ ((3 : Int32) < (3 : Int32)))).2.1 (by decide) (by decide) k_) ?_
  refine own_st (T' := T14) (g' := (mkF m 33 #[rv va, iv (3 : Int32), iv (3 : Int32), rv t1, iv (3 : Int32)] [(.ref t1)])) (fun _ k_ => XS.aloadN X14.here hx rfl (hb hby d22_32) rfl rfl  k_) ?_
  have f15 := (Keep.refl h0 []).trans K1 all0
  have f16 := f15.trans K5 (allS (Or.inr (Nat.le_trans (Keep.refl h0 []).1 xq1_fresh_t)) all0)
  have f17 := f16.trans K10 (allS (Or.inr (Nat.le_trans (Keep.refl h0 []).1 xq1_fresh_t)) all0)
  have f18 := f17.trans K14 (allS (Or.inr (Nat.le_trans (Keep.refl h0 []).1 xq1_fresh_t)) all0)
  exact own_retA X14 hx hret rfl rfl hlk (hb hby d22_33) (by decide) (by decide) ⟨t1, kb1, rfl, N14, f18, Vp14, (Nat.le_trans (Keep.refl h0 []).1 xq1_fresh_t)⟩
theorem ef_c3u_3 (m : MethodId) (x0 : Addr) (x1 : Int32) (x2 : Int32) : entryFrame m #[(.ref x0), (.int x1), (.int x2)] 6 = mkF m 0 #[rv x0, iv x1, iv x2, .unset, .unset, .unset] [] := by first | (simp [entryFrame, mkF, argsToLocals, Value.category]; done) | rfl
def Q_c3u_3 (Z : State) (va : Addr) (kc : ClassId) (c0 : Int32) (c1 : Int32) (c2 : Int32) (h0 : Heap) (n0 : Nat) (v : Option Value) (h : Heap) (L : List Loc) : Prop := ∃ (t : Addr) (kb : ClassId), (v = some (.ref t)) ∧ (Fr n0 L) ∧ (Keep h0 h []) ∧ (Arv Z h t kb .byte (6 : Int32) [(.int (own_l16 c0)), (.int (own_h16 c0)), (.int (own_l16 c1)), (.int (own_h16 c1)), (.int (own_l16 c2)), (.int (own_h16 c2))] (.int (0 : Int32))) ∧ (h0.size ≤ t)
set_option maxRecDepth 65536 in
set_option maxHeartbeats 40000000 in
theorem rm_c3u_3 (l : Launch) (Z : State) (a0 : Array Value) (hw : ∀ d ∈ tables_1, d.before a0 Z = true) (ws : List Jvm.Cond) (va : Addr) (kc : ClassId) (c0 : Int32) (c1 : Int32) (c2 : Int32) (h0 : Heap) (n0 : Nat) (O0 : Old Z n0 h0) (VA : Arv Z h0 va kc .char (3 : Int32) [(.int c0), (.int c1), (.int c2)] (.int (0 : Int32))) (hr0 : own_R c0) (hr1 : own_R c1) (hr2 : own_R c2) (hU : ¬ (own_nd3 c0 c1 c2) = (3 : Int32)) (SA : Sta Z Z.heap "java/lang/StringUTF16" "$assertionsDisabled" "Z" (.int (1 : Int32))) (SHI : Sta Z Z.heap "java/lang/StringUTF16" "HI_BYTE_SHIFT" "I" (.int (0 : Int32))) (SLO : Sta Z Z.heap "java/lang/StringUTF16" "LO_BYTE_SHIFT" "I" (.int (8 : Int32))) :
    own_MF l own_m18 (Jvm.Cond.code own_m18 jdk_52_method_16_code 6 (some (.array .byte)) :: ws) ({ frames := 3, cells := 2, slots := 9, locals := 40 } : Room) #[(.ref va), (.int (0 : Int32)), (.int (3 : Int32))] Z h0 (Q_c3u_3 Z va kc c0 c1 c2 h0 n0) := by
  refine own_met (own := "java/lang/StringUTF16") (nme := "compress") rfl rfl (plainFor_of_name pn_3) ?_
  intro p e s m below meth c s₁ hx hby hml hown hnm X0 e0 hret hlk hZ
  have N0 := Fr.nil n0
  rw [ef_c3u_3 m va (0 : Int32) (3 : Int32)]
  refine own_st (T' := s₁) (g' := (mkF m 1 #[rv va, iv (0 : Int32), iv (3 : Int32), .unset, .unset, .unset] [(.int (3 : Int32))])) (fun _ k_ => XS.iloadN X0.here hx rfl (hb hby d12_0) rfl  k_) ?_
  obtain ⟨T1, h1, k1, X1, e1, E1, A1, st1⟩ := newP X0 hx hZ (wd hw 29 rfl) e0 (g := (mkF m 1 #[rv va, iv (0 : Int32), iv (3 : Int32), .unset, .unset, .unset] [(.int (3 : Int32))])) rfl (hb hby d12_1) rfl (by decide) (cap := 3) (by decide) (by decide) (by decide) (by decide)
  obtain ⟨b1, g1⟩ : ∃ z, z = h0.size := ⟨_, rfl⟩
  rw [← g1] at A1 st1
  have fr1 : n0 ≤ b1 := Nat.le_trans (own_z O0) (Nat.le_of_eq g1.symm)
  have sz1 : h0.size ≤ b1 := Nat.le_trans (Keep.refl h0 []).1 (Nat.le_of_eq g1.symm)
  have V1 : Arv Z h1 b1 k1 .byte (3 : Int32) [(.int (0 : Int32)), (.int (0 : Int32)), (.int (0 : Int32))] (.int (0 : Int32)) := (Arv.new A1 (by decide)).pad (pad_rep [] (.int (0 : Int32)) 3)
  refine own_st (T' := T1) (g' := (mkF m 3 #[rv va, iv (0 : Int32), iv (3 : Int32), .unset, .unset, .unset] [(.ref b1)])) st1 ?_
  clear st1
  refine own_st (T' := T1) (g' := (mkF m 4 #[rv va, iv (0 : Int32), iv (3 : Int32), rv b1, .unset, .unset] [])) (fun _ k_ => XS.astoreN X1.here hx rfl (hb hby d12_3) rfl rfl (l' := #[rv va, iv (0 : Int32), iv (3 : Int32), rv b1, .unset, .unset]) rfl k_) ?_
  refine own_st (T' := T1) (g' := (mkF m 5 #[rv va, iv (0 : Int32), iv (3 : Int32), rv b1, .unset, .unset] [(.ref va)])) (fun _ k_ => XS.aloadN X1.here hx rfl (hb hby d12_4) rfl rfl  k_) ?_
  refine own_st (T' := T1) (g' := (mkF m 6 #[rv va, iv (0 : Int32), iv (3 : Int32), rv b1, .unset, .unset] [(.int (0 : Int32)), (.ref va)])) (fun _ k_ => XS.iloadN X1.here hx rfl (hb hby d12_5) rfl  k_) ?_
  refine own_st (T' := T1) (g' := (mkF m 7 #[rv va, iv (0 : Int32), iv (3 : Int32), rv b1, .unset, .unset] [(.ref b1), (.int (0 : Int32)), (.ref va)])) (fun _ k_ => XS.aloadN X1.here hx rfl (hb hby d12_6) rfl rfl  k_) ?_
  refine own_st (T' := T1) (g' := (mkF m 8 #[rv va, iv (0 : Int32), iv (3 : Int32), rv b1, .unset, .unset] [(.int (0 : Int32)), (.ref b1), (.int (0 : Int32)), (.ref va)])) (fun _ k_ => XS.iconst X1.here hx rfl (hb hby d12_7) k_) ?_
  refine own_st (T' := T1) (g' := (mkF m 9 #[rv va, iv (0 : Int32), iv (3 : Int32), rv b1, .unset, .unset] [(.int (3 : Int32)), (.int (0 : Int32)), (.ref b1), (.int (0 : Int32)), (.ref va)])) (fun _ k_ => XS.iloadN X1.here hx rfl (hb hby d12_8) rfl  k_) ?_
  have f2 := VA.ext E1
  have ne3 : va ≠ b1 := Nat.ne_of_lt (Nat.lt_of_lt_of_le VA.lt (Nat.le_of_eq g1.symm))
  have f4 := O0.ext E1
  obtain ⟨_, T5, L5, X5, hQ5, st5⟩ := own_callS X1 hx (y := own_m14) hown (mvT hZ (wd hw 61 rfl)) (mvT hZ (wd hw 62 rfl)) (mvT hZ (wd hw 59 rfl)) (mvT hZ (wd hw 63 rfl)) (by decide) (backOf (W := 0) (rm_c5u_3 l Z a0 hw [] va b1 kc k1 c0 c1 c2 h1 n0 f4 f2 V1 ne3 fr1) hZ (wd hw 63 rfl) (wd hw 59 rfl) (by decide) (by decide)) (g := (mkF m 9 #[rv va, iv (0 : Int32), iv (3 : Int32), rv b1, .unset, .unset] [(.int (3 : Int32)), (.int (0 : Int32)), (.ref b1), (.int (0 : Int32)), (.ref va)])) rfl (by rw [hml]; rfl) (argsL := [(.ref va), (.int (0 : Int32)), (.ref b1), (.int (0 : Int32)), (.int (3 : Int32))]) (rest := []) (lenOf pd___CI_BII_I rfl) rfl (by show 2 * 0 + _ ≤ _; exact Nat.le_of_eq rfl) (hb hby d12_9) rfl e1 (by decide) (by decide) (c' := 1) (s' := 3) rfl rfl
  obtain ⟨rfl, Nq5, K5, xq5_full⟩ := hQ5
  have N5 := Fr.app N0 Nq5
  refine own_st (T' := T5) (g' := (mkF m 12 #[rv va, iv (0 : Int32), iv (3 : Int32), rv b1, .unset, .unset] [(.int (own_nd3 c0 c1 c2))])) st5 ?_
  clear st5
  refine own_st (T' := T5) (g' := (mkF m 14 #[rv va, iv (0 : Int32), iv (3 : Int32), rv b1, iv (own_nd3 c0 c1 c2), .unset] [])) (fun _ k_ => XS.istore X5.here hx rfl (hb hby d12_12) rfl (l' := #[rv va, iv (0 : Int32), iv (3 : Int32), rv b1, iv (own_nd3 c0 c1 c2), .unset]) rfl k_) ?_
  refine own_st (T' := T5) (g' := (mkF m 16 #[rv va, iv (0 : Int32), iv (3 : Int32), rv b1, iv (own_nd3 c0 c1 c2), .unset] [(.int (own_nd3 c0 c1 c2))])) (fun _ k_ => XS.iload X5.here hx rfl (hb hby d12_14) rfl  k_) ?_
  refine own_st (T' := T5) (g' := (mkF m 17 #[rv va, iv (0 : Int32), iv (3 : Int32), rv b1, iv (own_nd3 c0 c1 c2), .unset] [(.int (3 : Int32)), (.int (own_nd3 c0 c1 c2))])) (fun _ k_ => XS.iloadN X5.here hx rfl (hb hby d12_16) rfl  k_) ?_
  refine own_st (T' := T5) (g' := (mkF m 20 #[rv va, iv (0 : Int32), iv (3 : Int32), rv b1, iv (own_nd3 c0 c1 c2), .unset] [])) (fun _ k_ => XS.icmpNo X5.here hx rfl (hb hby d12_17) rfl (feq (hU : ¬ ((own_nd3 c0 c1 c2) = (3 : Int32)))).1 k_) ?_
  refine own_st (T' := T5) (g' := (mkF m 21 #[rv va, iv (0 : Int32), iv (3 : Int32), rv b1, iv (own_nd3 c0 c1 c2), .unset] [(.ref va)])) (fun _ k_ => XS.aloadN X5.here hx rfl (hb hby d12_20) rfl rfl  k_) ?_
  refine own_st (T' := T5) (g' := (mkF m 22 #[rv va, iv (0 : Int32), iv (3 : Int32), rv b1, iv (own_nd3 c0 c1 c2), .unset] [(.int (0 : Int32)), (.ref va)])) (fun _ k_ => XS.iloadN X5.here hx rfl (hb hby d12_21) rfl  k_) ?_
  refine own_st (T' := T5) (g' := (mkF m 23 #[rv va, iv (0 : Int32), iv (3 : Int32), rv b1, iv (own_nd3 c0 c1 c2), .unset] [(.int (3 : Int32)), (.int (0 : Int32)), (.ref va)])) (fun _ k_ => XS.iloadN X5.here hx rfl (hb hby d12_22) rfl  k_) ?_
  have f6 := f2.keep K5 (ninS ne3 nin0)
  have f7 := f4.keep K5 (allS fr1 all0)
  have f8 := (Keep.refl h0 []).ext E1
  have f9 := f8.trans K5 (allS (Or.inr sz1) all0)
  obtain ⟨_, T10, L10, X10, hQ10, st10⟩ := own_callS X5 hx (y := own_m17) hown (mvT hZ (wd hw 99 rfl)) (mvT hZ (wd hw 100 rfl)) (mvT hZ (wd hw 59 rfl)) (mvT hZ (wd hw 101 rfl)) (by decide) (backOf (W := 0) (rm_tby_3 l Z a0 hw [] va kc c0 c1 c2 T5.heap n0 f7 f6 SA SHI SLO) hZ (wd hw 101 rfl) (wd hw 59 rfl) (by decide) (by decide)) (g := (mkF m 23 #[rv va, iv (0 : Int32), iv (3 : Int32), rv b1, iv (own_nd3 c0 c1 c2), .unset] [(.int (3 : Int32)), (.int (0 : Int32)), (.ref va)])) rfl (by rw [hml]; rfl) (argsL := [(.ref va), (.int (0 : Int32)), (.int (3 : Int32))]) (rest := []) (lenOf pd___CII__B rfl) rfl (by show 2 * 0 + _ ≤ _; exact Nat.le_of_eq rfl) (hb hby d12_23) rfl rfl (by decide) (by decide) (c' := 2) (s' := 9) rfl rfl
  obtain ⟨t10, kb10, rfl, Nq10, K10, fq10_0, xq10_fresh_t⟩ := hQ10
  have N10 := Fr.app N5 Nq10
  refine own_st (T' := T10) (g' := (mkF m 26 #[rv va, iv (0 : Int32), iv (3 : Int32), rv b1, iv (own_nd3 c0 c1 c2), .unset] [(.ref t10)])) st10 ?_
  clear st10
  refine own_st (T' := T10) (g' := (mkF m 28 #[rv va, iv (0 : Int32), iv (3 : Int32), rv b1, iv (own_nd3 c0 c1 c2), rv t10] [])) (fun _ k_ => XS.astore X10.here hx rfl (hb hby d12_26) rfl rfl (l' := #[rv va, iv (0 : Int32), iv (3 : Int32), rv b1, iv (own_nd3 c0 c1 c2), rv t10]) rfl k_) ?_
  refine own_st (T' := T10) (g' := (mkF m 30 #[rv va, iv (0 : Int32), iv (3 : Int32), rv b1, iv (own_nd3 c0 c1 c2), rv t10] [(.ref t10)])) (fun _ k_ => XS.aload X10.here hx rfl (hb hby d12_28) rfl rfl  k_) ?_
  refine own_st (T' := T10) (g' := (mkF m 32 #[rv va, iv (0 : Int32), iv (3 : Int32), rv b1, iv (own_nd3 c0 c1 c2), rv t10] [(.int (own_nd3 c0 c1 c2)), (.ref t10)])) (fun _ k_ => XS.iload X10.here hx rfl (hb hby d12_30) rfl  k_) ?_
  rcases own_ndB3 hU with hq | hq | hq
  · rw [hq.1]
    have f11 := f7.keep K10 all0
    obtain ⟨_, T12, L12, X12, hQ12, st12⟩ := own_callS X10 hx (y := own_m6) hown (mvT hZ (wd hw 115 rfl)) (mvT hZ (wd hw 116 rfl)) (mvT hZ (wd hw 59 rfl)) (mvT hZ (wd hw 117 rfl)) (by decide) (backOf (W := 0) (rm_getc l Z a0 hw [] t10 kb10 [c0, c1, c2] (0 : Int32) 0 T10.heap n0 f11 fq10_0 rfl (Nat.le_of_ble_eq_true rfl : 0 < List.length [c0, c1, c2]) (Nat.le_of_ble_eq_true rfl) (own_aS hr0 (own_aS hr1 (own_aS hr2 own_a0))) SA SHI SLO) hZ (wd hw 117 rfl) (wd hw 59 rfl) (by decide) (by decide)) (g := (mkF m 32 #[rv va, iv (0 : Int32), iv (3 : Int32), rv b1, iv (0 : Int32), rv t10] [(.int (0 : Int32)), (.ref t10)])) rfl (by rw [hml]; rfl) (argsL := [(.ref t10), (.int (0 : Int32))]) (rest := []) (lenOf pd___BI_C rfl) rfl (by show 2 * 0 + _ ≤ _; exact Nat.le_of_eq rfl) (hb hby d12_32) rfl rfl (by decide) (by decide) (c' := 2) (s' := 9) rfl rfl
    obtain ⟨rfl, Nq12, eq12⟩ := hQ12
    have N12 := Fr.app N10 Nq12
    refine own_st (T' := T12) (g' := (mkF m 35 #[rv va, iv (0 : Int32), iv (3 : Int32), rv b1, iv (0 : Int32), rv t10] [(.int c0)])) st12 ?_
    clear st12
    refine own_st (T' := T12) (g' := (mkF m 38 #[rv va, iv (0 : Int32), iv (3 : Int32), rv b1, iv (0 : Int32), rv t10] [(.int (255 : Int32)), (.int c0)])) (fun _ k_ => XS.sipush X12.here hx rfl (hb hby d12_35) k_) ?_
    refine own_st (T' := T12) (g' := (mkF m 54 #[rv va, iv (0 : Int32), iv (3 : Int32), rv b1, iv (0 : Int32), rv t10] [])) (fun _ k_ => XS.icmpYes X12.here hx rfl (pc0 := 38) (pc' := 54) rfl (hb hby d12_38) rfl (tlt (hq.2 : (255 : Int32) < c0)).2.2.1 (by decide) (by decide) k_) ?_
    refine own_st (T' := T12) (g' := (mkF m 56 #[rv va, iv (0 : Int32), iv (3 : Int32), rv b1, iv (0 : Int32), rv t10] [(.ref t10)])) (fun _ k_ => XS.aload X12.here hx rfl (hb hby d12_54) rfl rfl  k_) ?_
    have f13 := f9.trans K10 all0
    exact own_retA X12 hx hret rfl rfl hlk (hb hby d12_56) (by decide) (by decide) (by rw [eq12]; exact ⟨t10, kb10, rfl, N12, f13, fq10_0, (Nat.le_trans f9.1 xq10_fresh_t)⟩)
  · rw [hq.1]
    have f14 := f7.keep K10 all0
    obtain ⟨_, T15, L15, X15, hQ15, st15⟩ := own_callS X10 hx (y := own_m6) hown (mvT hZ (wd hw 115 rfl)) (mvT hZ (wd hw 116 rfl)) (mvT hZ (wd hw 59 rfl)) (mvT hZ (wd hw 117 rfl)) (by decide) (backOf (W := 0) (rm_getc l Z a0 hw [] t10 kb10 [c0, c1, c2] (1 : Int32) 1 T10.heap n0 f14 fq10_0 rfl (Nat.le_of_ble_eq_true rfl : 1 < List.length [c0, c1, c2]) (Nat.le_of_ble_eq_true rfl) (own_aS hr0 (own_aS hr1 (own_aS hr2 own_a0))) SA SHI SLO) hZ (wd hw 117 rfl) (wd hw 59 rfl) (by decide) (by decide)) (g := (mkF m 32 #[rv va, iv (0 : Int32), iv (3 : Int32), rv b1, iv (1 : Int32), rv t10] [(.int (1 : Int32)), (.ref t10)])) rfl (by rw [hml]; rfl) (argsL := [(.ref t10), (.int (1 : Int32))]) (rest := []) (lenOf pd___BI_C rfl) rfl (by show 2 * 0 + _ ≤ _; exact Nat.le_of_eq rfl) (hb hby d12_32) rfl rfl (by decide) (by decide) (c' := 2) (s' := 9) rfl rfl
    obtain ⟨rfl, Nq15, eq15⟩ := hQ15
    have N15 := Fr.app N10 Nq15
    refine own_st (T' := T15) (g' := (mkF m 35 #[rv va, iv (0 : Int32), iv (3 : Int32), rv b1, iv (1 : Int32), rv t10] [(.int c1)])) st15 ?_
    clear st15
    refine own_st (T' := T15) (g' := (mkF m 38 #[rv va, iv (0 : Int32), iv (3 : Int32), rv b1, iv (1 : Int32), rv t10] [(.int (255 : Int32)), (.int c1)])) (fun _ k_ => XS.sipush X15.here hx rfl (hb hby d12_35) k_) ?_
    refine own_st (T' := T15) (g' := (mkF m 54 #[rv va, iv (0 : Int32), iv (3 : Int32), rv b1, iv (1 : Int32), rv t10] [])) (fun _ k_ => XS.icmpYes X15.here hx rfl (pc0 := 38) (pc' := 54) rfl (hb hby d12_38) rfl (tlt (hq.2 : (255 : Int32) < c1)).2.2.1 (by decide) (by decide) k_) ?_
    refine own_st (T' := T15) (g' := (mkF m 56 #[rv va, iv (0 : Int32), iv (3 : Int32), rv b1, iv (1 : Int32), rv t10] [(.ref t10)])) (fun _ k_ => XS.aload X15.here hx rfl (hb hby d12_54) rfl rfl  k_) ?_
    have f16 := f9.trans K10 all0
    exact own_retA X15 hx hret rfl rfl hlk (hb hby d12_56) (by decide) (by decide) (by rw [eq15]; exact ⟨t10, kb10, rfl, N15, f16, fq10_0, (Nat.le_trans f9.1 xq10_fresh_t)⟩)
  · rw [hq.1]
    have f17 := f7.keep K10 all0
    obtain ⟨_, T18, L18, X18, hQ18, st18⟩ := own_callS X10 hx (y := own_m6) hown (mvT hZ (wd hw 115 rfl)) (mvT hZ (wd hw 116 rfl)) (mvT hZ (wd hw 59 rfl)) (mvT hZ (wd hw 117 rfl)) (by decide) (backOf (W := 0) (rm_getc l Z a0 hw [] t10 kb10 [c0, c1, c2] (2 : Int32) 2 T10.heap n0 f17 fq10_0 rfl (Nat.le_of_ble_eq_true rfl : 2 < List.length [c0, c1, c2]) (Nat.le_of_ble_eq_true rfl) (own_aS hr0 (own_aS hr1 (own_aS hr2 own_a0))) SA SHI SLO) hZ (wd hw 117 rfl) (wd hw 59 rfl) (by decide) (by decide)) (g := (mkF m 32 #[rv va, iv (0 : Int32), iv (3 : Int32), rv b1, iv (2 : Int32), rv t10] [(.int (2 : Int32)), (.ref t10)])) rfl (by rw [hml]; rfl) (argsL := [(.ref t10), (.int (2 : Int32))]) (rest := []) (lenOf pd___BI_C rfl) rfl (by show 2 * 0 + _ ≤ _; exact Nat.le_of_eq rfl) (hb hby d12_32) rfl rfl (by decide) (by decide) (c' := 2) (s' := 9) rfl rfl
    obtain ⟨rfl, Nq18, eq18⟩ := hQ18
    have N18 := Fr.app N10 Nq18
    refine own_st (T' := T18) (g' := (mkF m 35 #[rv va, iv (0 : Int32), iv (3 : Int32), rv b1, iv (2 : Int32), rv t10] [(.int c2)])) st18 ?_
    clear st18
    refine own_st (T' := T18) (g' := (mkF m 38 #[rv va, iv (0 : Int32), iv (3 : Int32), rv b1, iv (2 : Int32), rv t10] [(.int (255 : Int32)), (.int c2)])) (fun _ k_ => XS.sipush X18.here hx rfl (hb hby d12_35) k_) ?_
    refine own_st (T' := T18) (g' := (mkF m 54 #[rv va, iv (0 : Int32), iv (3 : Int32), rv b1, iv (2 : Int32), rv t10] [])) (fun _ k_ => XS.icmpYes X18.here hx rfl (pc0 := 38) (pc' := 54) rfl (hb hby d12_38) rfl (tlt (hq.2 : (255 : Int32) < c2)).2.2.1 (by decide) (by decide) k_) ?_
    refine own_st (T' := T18) (g' := (mkF m 56 #[rv va, iv (0 : Int32), iv (3 : Int32), rv b1, iv (2 : Int32), rv t10] [(.ref t10)])) (fun _ k_ => XS.aload X18.here hx rfl (hb hby d12_54) rfl rfl  k_) ?_
    have f19 := f9.trans K10 all0
    exact own_retA X18 hx hret rfl rfl hlk (hb hby d12_56) (by decide) (by decide) (by rw [eq18]; exact ⟨t10, kb10, rfl, N18, f19, fq10_0, (Nat.le_trans f9.1 xq10_fresh_t)⟩)
theorem ef_cdu_3 (m : MethodId) (x0 : Addr) (x1 : Int32) : entryFrame m #[(.ref x0), (.int x1)] 2 = mkF m 0 #[rv x0, iv x1] [] := by first | (simp [entryFrame, mkF, argsToLocals, Value.category]; done) | rfl
def Q_cdu_3 (Z : State) (t : Addr) (kb : ClassId) (vs : List Value) (h0 : Heap) (n0 : Nat) (v : Option Value) (h : Heap) (L : List Loc) : Prop := (v = some (.int (1 : Int32))) ∧ (Fr n0 L) ∧ (h = h0)
set_option maxRecDepth 65536 in
set_option maxHeartbeats 40000000 in
theorem rm_cdu_3 (l : Launch) (Z : State) (a0 : Array Value) (hw : ∀ d ∈ tables_1, d.before a0 Z = true) (ws : List Jvm.Cond) (t : Addr) (kb : ClassId) (vs : List Value) (h0 : Heap) (n0 : Nat) (O0 : Old Z n0 h0) (VT : Arv Z h0 t kb .byte (6 : Int32) vs (.int (0 : Int32))) :
    own_MF l own_m19 (Jvm.Cond.code own_m19 jdk_52_method_15_code 2 (some .byte) :: ws) ({ frames := 0, cells := 0, slots := 0, locals := 0 } : Room) #[(.ref t), (.int (3 : Int32))] Z h0 (Q_cdu_3 Z t kb vs h0 n0) := by
  refine own_met (own := "java/lang/StringUTF16") (nme := "coderFromArrayLen") rfl rfl (plainFor_of_name pn_3) ?_
  intro p e s m below meth c s₁ hx hby hml hown hnm X0 e0 hret hlk hZ
  have N0 := Fr.nil n0
  rw [ef_cdu_3 m t (3 : Int32)]
  refine own_st (T' := s₁) (g' := (mkF m 1 #[rv t, iv (3 : Int32)] [(.int (3 : Int32))])) (fun _ k_ => XS.iloadN X0.here hx rfl (hb hby d14_0) rfl  k_) ?_
  refine own_st (T' := s₁) (g' := (mkF m 2 #[rv t, iv (3 : Int32)] [(.ref t), (.int (3 : Int32))])) (fun _ k_ => XS.aloadN X0.here hx rfl (hb hby d14_1) rfl rfl  k_) ?_
  obtain ⟨cl1, Ar1, -, S1, N1, -, -⟩ := id VT
  refine own_st (T' := s₁) (g' := (mkF m 3 #[rv t, iv (3 : Int32)] [(.int (6 : Int32)), (.int (3 : Int32))])) (fun t_ k_ => X0.arraylength hx (by rw [e0]; exact Ar1.1) (State.isArrayOf_alike hZ.alike Ar1.2.1) (g := (mkF m 2 #[rv t, iv (3 : Int32)] [(.ref t), (.int (3 : Int32))])) rfl rfl (hb hby d14_2) _ (by rw [len_of S1 N1]; exact k_)) ?_
  refine own_st (T' := s₁) (g' := (mkF m 4 #[rv t, iv (3 : Int32)] [(.int (-3 : Int32))])) (fun _ k_ => XS.isub X0.here hx rfl (hb hby d14_3) rfl k_) ?_
  refine own_st (T' := s₁) (g' := (mkF m 6 #[rv t, iv (3 : Int32)] [(.int (31 : Int32)), (.int (-3 : Int32))])) (fun _ k_ => XS.bipush X0.here hx rfl (hb hby d14_4) k_) ?_
  refine own_st (T' := s₁) (g' := (mkF m 7 #[rv t, iv (3 : Int32)] [(.int (((-3 : Int32).toUInt32 >>> ((31 : Int32) &&& 31).toUInt32).toInt32))])) (fun _ k_ => XS.iushr X0.here hx rfl (hb hby d14_6) rfl k_) ?_
  refine own_st (T' := s₁) (g' := (mkF m 8 #[rv t, iv (3 : Int32)] [(.int ((((-3 : Int32).toUInt32 >>> ((31 : Int32) &&& 31).toUInt32).toInt32).toInt8.toInt32))])) (fun _ k_ => XS.i2b X0.here hx rfl (hb hby d14_7) rfl k_) ?_
  exact own_retN X0 hx (t := .byte) hret (by simp) hlk (hb hby d14_8) (by decide) (by decide) ⟨(by decide), N0, e0⟩
theorem ef_in4u_3 (m : MethodId) (x0 : Addr) (x1 : Addr) (x2 : Int32) (x3 : Int32) : entryFrame m #[(.ref x0), (.ref x1), (.int x2), (.int x3), .null] 6 = mkF m 0 #[rv x0, rv x1, iv x2, iv x3, .val .null, .unset] [] := by first | (simp [entryFrame, mkF, argsToLocals, Value.category]; done) | rfl
def Q_in4u_3 (Z : State) (a : Addr) (va : Addr) (kc : ClassId) (cz : Int32) (c0 : Int32) (c1 : Int32) (c2 : Int32) (h0 : Heap) (n0 : Nat) (v : Option Value) (h : Heap) (L : List Loc) : Prop := ∃ (t : Addr) (kb : ClassId), (v = none) ∧ (Fr n0 L) ∧ (Keep h0 h [a]) ∧ (Exa Z h a "java/lang/String") ∧ (Fld Z h a "java/lang/String" "coder" "B" (.int (1 : Int32))) ∧ (Fld Z h a "java/lang/String" "value" "[B" (.ref t)) ∧ (Arv Z h t kb .byte (6 : Int32) [(.int (own_l16 c0)), (.int (own_h16 c0)), (.int (own_l16 c1)), (.int (own_h16 c1)), (.int (own_l16 c2)), (.int (own_h16 c2))] (.int (0 : Int32))) ∧ (h0.size ≤ t)
set_option maxRecDepth 65536 in
set_option maxHeartbeats 40000000 in
theorem rm_in4u_3 (l : Launch) (Z : State) (a0 : Array Value) (hw : ∀ d ∈ tables_1, d.before a0 Z = true) (ws : List Jvm.Cond) (a : Addr) (va : Addr) (kc : ClassId) (cz : Int32) (c0 : Int32) (c1 : Int32) (c2 : Int32) (h0 : Heap) (n0 : Nat) (O0 : Old Z n0 h0) (EA : Exa Z h0 a "java/lang/String") (FV : Fld Z h0 a "java/lang/String" "value" "[B" .null) (FC : Fld Z h0 a "java/lang/String" "coder" "B" (.int (0 : Int32))) (fa : n0 ≤ a) (VA : Arv Z h0 va kc .char (3 : Int32) [(.int c0), (.int c1), (.int c2)] (.int (0 : Int32))) (SC : Sta Z Z.heap "java/lang/String" "COMPACT_STRINGS" "Z" (.int cz)) (hcz : ¬ cz = (0 : Int32)) (hr0 : own_R c0) (hr1 : own_R c1) (hr2 : own_R c2) (hU : ¬ (own_nd3 c0 c1 c2) = (3 : Int32)) (SA : Sta Z Z.heap "java/lang/StringUTF16" "$assertionsDisabled" "Z" (.int (1 : Int32))) (SHI : Sta Z Z.heap "java/lang/StringUTF16" "HI_BYTE_SHIFT" "I" (.int (0 : Int32))) (SLO : Sta Z Z.heap "java/lang/StringUTF16" "LO_BYTE_SHIFT" "I" (.int (8 : Int32))) :
    own_MF l own_m12 (Jvm.Cond.code own_m12 jdk_42_method_149_code 6 none :: ws) ({ frames := 4, cells := 2, slots := 9, locals := 57 } : Room) #[(.ref a), (.ref va), (.int (0 : Int32)), (.int (3 : Int32)), .null] Z h0 (Q_in4u_3 Z a va kc cz c0 c1 c2 h0 n0) := by
  refine own_met (own := "java/lang/String") (nme := "<init>") rfl rfl (plainFor_of_name pn_0) ?_
  intro p e s m below meth c s₁ hx hby hml hown hnm X0 e0 hret hlk hZ
  have N0 := Fr.nil n0
  rw [ef_in4u_3 m a va (0 : Int32) (3 : Int32)]
  refine own_st (T' := s₁) (g' := (mkF m 1 #[rv a, rv va, iv (0 : Int32), iv (3 : Int32), .val .null, .unset] [(.ref a)])) (fun _ k_ => XS.aloadN X0.here hx rfl (hb hby d5_0) rfl rfl  k_) ?_
  obtain ⟨T1, X1, e1, st1⟩ := initO X0 hx hZ hown (wd hw 25 rfl) (wd hw 26 rfl) (wd hw 27 rfl) e0 (g := (mkF m 1 #[rv a, rv va, iv (0 : Int32), iv (3 : Int32), .val .null, .unset] [(.ref a)])) rfl (by rw [hml]; rfl) rfl (hb hby d5_1) (by decide) (W := 0) (by show 2 * 0 + _ ≤ _; exact Nat.le_of_eq rfl) (by decide)
  refine own_st (T' := T1) (g' := (mkF m 4 #[rv a, rv va, iv (0 : Int32), iv (3 : Int32), .val .null, .unset] [])) st1 ?_
  clear st1
  refine own_st (T' := T1) (g' := (mkF m 5 #[rv a, rv va, iv (0 : Int32), iv (3 : Int32), .val .null, .unset] [(.int (3 : Int32))])) (fun _ k_ => XS.iloadN X1.here hx rfl (hb hby d5_4) rfl  k_) ?_
  refine own_st (T' := T1) (g' := (mkF m 27 #[rv a, rv va, iv (0 : Int32), iv (3 : Int32), .val .null, .unset] [])) (fun _ k_ => XS.ifYes X1.here hx rfl (pc0 := 5) (pc' := 27) rfl (hb hby d5_5) rfl ((if0 _ _).trans (feq (by decide : ¬ ((3 : Int32) = (0 : Int32)))).2) (by decide) (by decide) k_) ?_
  obtain ⟨T2, X2, e2, st2⟩ := getS2 X1 hx hZ hown (host := "") (Or.inl (wd hw 50 rfl)) Via.refl e1 (SC.ext O0.2) (g := (mkF m 27 #[rv a, rv va, iv (0 : Int32), iv (3 : Int32), .val .null, .unset] [])) rfl (hb hby d5_27)
  refine own_st (T' := T2) (g' := (mkF m 30 #[rv a, rv va, iv (0 : Int32), iv (3 : Int32), .val .null, .unset] [(.int cz)])) st2 ?_
  clear st2
  refine own_st (T' := T2) (g' := (mkF m 33 #[rv a, rv va, iv (0 : Int32), iv (3 : Int32), .val .null, .unset] [])) (fun _ k_ => XS.ifNo X2.here hx rfl (hb hby d5_30) rfl ((if0 _ _).trans (feq (hcz : ¬ (cz = (0 : Int32)))).1) k_) ?_
  refine own_st (T' := T2) (g' := (mkF m 34 #[rv a, rv va, iv (0 : Int32), iv (3 : Int32), .val .null, .unset] [(.ref va)])) (fun _ k_ => XS.aloadN X2.here hx rfl (hb hby d5_33) rfl rfl  k_) ?_
  refine own_st (T' := T2) (g' := (mkF m 35 #[rv a, rv va, iv (0 : Int32), iv (3 : Int32), .val .null, .unset] [(.int (0 : Int32)), (.ref va)])) (fun _ k_ => XS.iloadN X2.here hx rfl (hb hby d5_34) rfl  k_) ?_
  refine own_st (T' := T2) (g' := (mkF m 36 #[rv a, rv va, iv (0 : Int32), iv (3 : Int32), .val .null, .unset] [(.int (3 : Int32)), (.int (0 : Int32)), (.ref va)])) (fun _ k_ => XS.iloadN X2.here hx rfl (hb hby d5_35) rfl  k_) ?_
  obtain ⟨_, T3, L3, X3, hQ3, st3⟩ := own_callS X2 hx (y := own_m18) hown (mvT hZ (wd hw 57 rfl)) (mvT hZ (wd hw 58 rfl)) (mvT hZ (wd hw 59 rfl)) (mvT hZ (wd hw 60 rfl)) (by decide) (backOf (W := 0) (rm_c3u_3 l Z a0 hw [] va kc c0 c1 c2 h0 n0 O0 VA hr0 hr1 hr2 hU SA SHI SLO) hZ (wd hw 60 rfl) (wd hw 59 rfl) (by decide) (by decide)) (g := (mkF m 36 #[rv a, rv va, iv (0 : Int32), iv (3 : Int32), .val .null, .unset] [(.int (3 : Int32)), (.int (0 : Int32)), (.ref va)])) rfl (by rw [hml]; rfl) (argsL := [(.ref va), (.int (0 : Int32)), (.int (3 : Int32))]) (rest := []) (lenOf pd___CII__B rfl) rfl (by show 2 * 0 + _ ≤ _; exact Nat.le_of_eq rfl) (hb hby d5_36) rfl e2 (by decide) (by decide) (c' := 2) (s' := 9) rfl rfl
  obtain ⟨t3, kb3, rfl, Nq3, K3, fq3_0, xq3_fresh_t⟩ := hQ3
  have N3 := Fr.app N0 Nq3
  refine own_st (T' := T3) (g' := (mkF m 39 #[rv a, rv va, iv (0 : Int32), iv (3 : Int32), .val .null, .unset] [(.ref t3)])) st3 ?_
  clear st3
  refine own_st (T' := T3) (g' := (mkF m 41 #[rv a, rv va, iv (0 : Int32), iv (3 : Int32), .val .null, rv t3] [])) (fun _ k_ => XS.astore X3.here hx rfl (hb hby d5_39) rfl rfl (l' := #[rv a, rv va, iv (0 : Int32), iv (3 : Int32), .val .null, rv t3]) rfl k_) ?_
  refine own_st (T' := T3) (g' := (mkF m 42 #[rv a, rv va, iv (0 : Int32), iv (3 : Int32), .val .null, rv t3] [(.ref a)])) (fun _ k_ => XS.aloadN X3.here hx rfl (hb hby d5_41) rfl rfl  k_) ?_
  refine own_st (T' := T3) (g' := (mkF m 44 #[rv a, rv va, iv (0 : Int32), iv (3 : Int32), .val .null, rv t3] [(.ref t3), (.ref a)])) (fun _ k_ => XS.aload X3.here hx rfl (hb hby d5_42) rfl rfl  k_) ?_
  refine own_st (T' := T3) (g' := (mkF m 45 #[rv a, rv va, iv (0 : Int32), iv (3 : Int32), .val .null, rv t3] [(.int (3 : Int32)), (.ref t3), (.ref a)])) (fun _ k_ => XS.iloadN X3.here hx rfl (hb hby d5_44) rfl  k_) ?_
  have f4 := O0.keep K3 all0
  obtain ⟨_, T5, L5, X5, hQ5, st5⟩ := own_callS X3 hx (y := own_m19) hown (mvT hZ (wd hw 64 rfl)) (mvT hZ (wd hw 65 rfl)) (mvT hZ (wd hw 59 rfl)) (mvT hZ (wd hw 66 rfl)) (by decide) (backOf (W := 1) (rm_cdu_3 l Z a0 hw [] t3 kb3 [(.int (own_l16 c0)), (.int (own_h16 c0)), (.int (own_l16 c1)), (.int (own_h16 c1)), (.int (own_l16 c2)), (.int (own_h16 c2))] T3.heap n0 f4 fq3_0) hZ (wd hw 66 rfl) (wd hw 59 rfl) (by decide) (by decide)) (g := (mkF m 45 #[rv a, rv va, iv (0 : Int32), iv (3 : Int32), .val .null, rv t3] [(.int (3 : Int32)), (.ref t3), (.ref a)])) rfl (by rw [hml]; rfl) (argsL := [(.ref t3), (.int (3 : Int32))]) (rest := [(.ref a)]) (lenOf pd___BI_B rfl) rfl (by show 2 * 0 + _ ≤ _; exact Nat.le_of_eq rfl) (hb hby d5_45) rfl rfl (by decide) (by decide) (c' := 2) (s' := 9) rfl rfl
  obtain ⟨rfl, Nq5, eq5⟩ := hQ5
  have N5 := Fr.app N3 Nq5
  refine own_st (T' := T5) (g' := (mkF m 48 #[rv a, rv va, iv (0 : Int32), iv (3 : Int32), .val .null, rv t3] [(.int (1 : Int32)), (.ref a)])) st5 ?_
  clear st5
  have f6 := EA.keep K3
  have f7 := FC.keep K3 nin0
  obtain ⟨T8, h8, X8, e8, W8, st8⟩ := putFN X5 hx hZ hown (wd hw 35 rfl) Via.refl eq5 f7 f6 (Or.inr ⟨(wd hw 31 rfl), rfl, hnm⟩) (wd hw 16 rfl) (ty := .byte) (v' := (.int (1 : Int32))) (by decide) rfl (by decide) (g := (mkF m 48 #[rv a, rv va, iv (0 : Int32), iv (3 : Int32), .val .null, rv t3] [(.int (1 : Int32)), (.ref a)])) rfl rfl (hb hby d5_48)
  have Fw8 : Fld Z h8 a "java/lang/String" "coder" "B" (.int (1 : Int32)) := Fld.same W8 f7
  have N8 := Fr.snoc X8 N5 fa
  refine own_st (T' := T8) (g' := (mkF m 51 #[rv a, rv va, iv (0 : Int32), iv (3 : Int32), .val .null, rv t3] [])) st8 ?_
  clear st8
  refine own_st (T' := T8) (g' := (mkF m 52 #[rv a, rv va, iv (0 : Int32), iv (3 : Int32), .val .null, rv t3] [(.ref a)])) (fun _ k_ => XS.aloadN X8.here hx rfl (hb hby d5_51) rfl rfl  k_) ?_
  refine own_st (T' := T8) (g' := (mkF m 54 #[rv a, rv va, iv (0 : Int32), iv (3 : Int32), .val .null, rv t3] [(.ref t3), (.ref a)])) (fun _ k_ => XS.aload X8.here hx rfl (hb hby d5_52) rfl rfl  k_) ?_
  have f9 := f6.wr W8
  have f10 := FV.keep K3 nin0
  have f11 := f10.other W8 (Or.inr (slot_ne (Or.inr (wd hw 30 rfl)) (Or.inr (wd hw 31 rfl)) (by decide) (t := (.array .byte)) (t' := .byte) (by decide) (by decide)))
  obtain ⟨T12, h12, X12, e12, W12, st12⟩ := putF X8 hx hZ hown (host := "") (Or.inl (wd hw 34 rfl)) Via.refl e8 f11 f9 (Or.inr ⟨(wd hw 30 rfl), rfl, hnm⟩) (wd hw 16 rfl) (ty := (.array .byte)) (by decide) rfl rfl (g := (mkF m 54 #[rv a, rv va, iv (0 : Int32), iv (3 : Int32), .val .null, rv t3] [(.ref t3), (.ref a)])) rfl rfl (hb hby d5_54)
  have Fw12 : Fld Z h12 a "java/lang/String" "value" "[B" (.ref t3) := Fld.same W12 f11
  have N12 := Fr.snoc X12 N8 fa
  refine own_st (T' := T12) (g' := (mkF m 57 #[rv a, rv va, iv (0 : Int32), iv (3 : Int32), .val .null, rv t3] [])) st12 ?_
  clear st12
  have f13 := (Keep.refl h0 [a]).trans K3 all0
  have f14 := f13.wr W8 (Or.inl (List.mem_of_getElem? (i := 0) rfl))
  have f15 := f14.wr W12 (Or.inl (List.mem_of_getElem? (i := 0) rfl))
  have f16 := f9.wr W12
  have f17 := Fw8.other W12 (Or.inr (slot_ne (Or.inr (wd hw 31 rfl)) (Or.inr (wd hw 30 rfl)) (by decide) (t := .byte) (t' := (.array .byte)) (by decide) (by decide)))
  have ne18 : a ≠ t3 := Nat.ne_of_lt (Nat.lt_of_lt_of_le EA.lt xq3_fresh_t)
  have f19 := fq3_0.other W8 (Ne.symm ne18)
  have f20 := f19.other W12 (Ne.symm ne18)
  exact own_retV X12 hx hret hlk (hb hby d5_57) (by decide) (by decide) (by rw [e12]; exact ⟨t3, kb3, rfl, N12, f15, f16, f17, Fw12, f20, (Nat.le_trans (Keep.refl h0 [a]).1 xq3_fresh_t)⟩)
theorem ef_in1u_3 (m : MethodId) (x0 : Addr) (x1 : Addr) : entryFrame m #[(.ref x0), (.ref x1)] 2 = mkF m 0 #[rv x0, rv x1] [] := by first | (simp [entryFrame, mkF, argsToLocals, Value.category]; done) | rfl
def Q_in1u_3 (Z : State) (a : Addr) (va : Addr) (kc : ClassId) (cz : Int32) (c0 : Int32) (c1 : Int32) (c2 : Int32) (h0 : Heap) (n0 : Nat) (v : Option Value) (h : Heap) (L : List Loc) : Prop := ∃ (t : Addr) (kb : ClassId), (v = none) ∧ (Fr n0 L) ∧ (Keep h0 h [a]) ∧ (Exa Z h a "java/lang/String") ∧ (Fld Z h a "java/lang/String" "coder" "B" (.int (1 : Int32))) ∧ (Fld Z h a "java/lang/String" "value" "[B" (.ref t)) ∧ (Arv Z h t kb .byte (6 : Int32) [(.int (own_l16 c0)), (.int (own_h16 c0)), (.int (own_l16 c1)), (.int (own_h16 c1)), (.int (own_l16 c2)), (.int (own_h16 c2))] (.int (0 : Int32))) ∧ (h0.size ≤ t)
set_option maxRecDepth 65536 in
set_option maxHeartbeats 40000000 in
theorem rm_in1u_3 (l : Launch) (Z : State) (a0 : Array Value) (hw : ∀ d ∈ tables_1, d.before a0 Z = true) (ws : List Jvm.Cond) (a : Addr) (va : Addr) (kc : ClassId) (cz : Int32) (c0 : Int32) (c1 : Int32) (c2 : Int32) (h0 : Heap) (n0 : Nat) (O0 : Old Z n0 h0) (EA : Exa Z h0 a "java/lang/String") (FV : Fld Z h0 a "java/lang/String" "value" "[B" .null) (FC : Fld Z h0 a "java/lang/String" "coder" "B" (.int (0 : Int32))) (fa : n0 ≤ a) (VA : Arv Z h0 va kc .char (3 : Int32) [(.int c0), (.int c1), (.int c2)] (.int (0 : Int32))) (SC : Sta Z Z.heap "java/lang/String" "COMPACT_STRINGS" "Z" (.int cz)) (hcz : ¬ cz = (0 : Int32)) (hr0 : own_R c0) (hr1 : own_R c1) (hr2 : own_R c2) (hU : ¬ (own_nd3 c0 c1 c2) = (3 : Int32)) (SA : Sta Z Z.heap "java/lang/StringUTF16" "$assertionsDisabled" "Z" (.int (1 : Int32))) (SHI : Sta Z Z.heap "java/lang/StringUTF16" "HI_BYTE_SHIFT" "I" (.int (0 : Int32))) (SLO : Sta Z Z.heap "java/lang/StringUTF16" "LO_BYTE_SHIFT" "I" (.int (8 : Int32))) :
    own_MF l own_m13 (Jvm.Cond.code own_m13 jdk_42_method_3_code 2 none :: ws) ({ frames := 5, cells := 2, slots := 9, locals := 74 } : Room) #[(.ref a), (.ref va)] Z h0 (Q_in1u_3 Z a va kc cz c0 c1 c2 h0 n0) := by
  refine own_met (own := "java/lang/String") (nme := "<init>") rfl rfl (plainFor_of_name pn_0) ?_
  intro p e s m below meth c s₁ hx hby hml hown hnm X0 e0 hret hlk hZ
  have N0 := Fr.nil n0
  rw [ef_in1u_3 m a va]
  refine own_st (T' := s₁) (g' := (mkF m 1 #[rv a, rv va] [(.ref a)])) (fun _ k_ => XS.aloadN X0.here hx rfl (hb hby d4_0) rfl rfl  k_) ?_
  refine own_st (T' := s₁) (g' := (mkF m 2 #[rv a, rv va] [(.ref va), (.ref a)])) (fun _ k_ => XS.aloadN X0.here hx rfl (hb hby d4_1) rfl rfl  k_) ?_
  refine own_st (T' := s₁) (g' := (mkF m 3 #[rv a, rv va] [(.int (0 : Int32)), (.ref va), (.ref a)])) (fun _ k_ => XS.iconst X0.here hx rfl (hb hby d4_2) k_) ?_
  refine own_st (T' := s₁) (g' := (mkF m 4 #[rv a, rv va] [(.ref va), (.int (0 : Int32)), (.ref va), (.ref a)])) (fun _ k_ => XS.aloadN X0.here hx rfl (hb hby d4_3) rfl rfl  k_) ?_
  obtain ⟨cl1, Ar1, -, S1, N1, -, -⟩ := id VA
  refine own_st (T' := s₁) (g' := (mkF m 5 #[rv a, rv va] [(.int (3 : Int32)), (.int (0 : Int32)), (.ref va), (.ref a)])) (fun t_ k_ => X0.arraylength hx (by rw [e0]; exact Ar1.1) (State.isArrayOf_alike hZ.alike Ar1.2.1) (g := (mkF m 4 #[rv a, rv va] [(.ref va), (.int (0 : Int32)), (.ref va), (.ref a)])) rfl rfl (hb hby d4_4) _ (by rw [len_of S1 N1]; exact k_)) ?_
  refine own_st (T' := s₁) (g' := (mkF m 6 #[rv a, rv va] [.null, (.int (3 : Int32)), (.int (0 : Int32)), (.ref va), (.ref a)])) (fun _ k_ => XS.aconstNull X0.here hx rfl (hb hby d4_5) k_) ?_
  obtain ⟨_, T2, L2, X2, hQ2, st2⟩ := own_callI X0 hx (y := own_m12) rfl hown (mvT hZ (wd hw 21 rfl)) (mvT hZ (wd hw 22 rfl)) (mvT hZ (wd hw 24 rfl)) (by decide) (backOf (W := 0) (rm_in4u_3 l Z a0 hw [] a va kc cz c0 c1 c2 h0 n0 O0 EA FV FC fa VA SC hcz hr0 hr1 hr2 hU SA SHI SLO) hZ (wd hw 24 rfl) (wd hw 17 rfl) (by decide) (by decide)) (g := (mkF m 6 #[rv a, rv va] [.null, (.int (3 : Int32)), (.int (0 : Int32)), (.ref va), (.ref a)])) rfl (by rw [hml]; rfl) (a := a) (argsL := [(.ref va), (.int (0 : Int32)), (.int (3 : Int32)), .null]) (rest := []) (lenOf pd___CIILjava_lang_Void__V rfl) rfl (by show 2 * 0 + _ ≤ _; exact Nat.le_of_eq rfl) (hb hby d4_6) rfl e0 (by decide) (by decide) (c' := 2) (s' := 9) rfl rfl
  obtain ⟨t2, kb2, rfl, Nq2, K2, fq2_0, fq2_1, fq2_2, fq2_3, xq2_fresh_t⟩ := hQ2
  have N2 := Fr.app N0 Nq2
  refine own_st (T' := T2) (g' := (mkF m 9 #[rv a, rv va] [])) st2 ?_
  clear st2
  have f3 := (Keep.refl h0 [a]).trans K2 (allS (Or.inl (List.mem_of_getElem? (i := 0) rfl)) all0)
  exact own_retV X2 hx hret hlk (hb hby d4_9) (by decide) (by decide) ⟨t2, kb2, rfl, N2, f3, fq2_0, fq2_1, fq2_2, fq2_3, (Nat.le_trans (Keep.refl h0 [a]).1 xq2_fresh_t)⟩
theorem ef_cmp3_3 (m : MethodId) (x0 : Addr) (x1 : Int32) (x2 : Int32) : entryFrame m #[(.ref x0), (.int x1), (.int x2)] 6 = mkF m 0 #[rv x0, iv x1, iv x2, .unset, .unset, .unset] [] := by first | (simp [entryFrame, mkF, argsToLocals, Value.category]; done) | rfl
def Q_cmp3_3 (Z : State) (va : Addr) (kc : ClassId) (c0 : Int32) (c1 : Int32) (c2 : Int32) (h0 : Heap) (n0 : Nat) (v : Option Value) (h : Heap) (L : List Loc) : Prop := ∃ (t : Addr) (kb : ClassId), (v = some (.ref t)) ∧ (Fr n0 L) ∧ (Keep h0 h []) ∧ (Arv Z h t kb .byte (3 : Int32) [(.int (c0.toInt8.toInt32)), (.int (c1.toInt8.toInt32)), (.int (c2.toInt8.toInt32))] (.int (0 : Int32))) ∧ (h0.size ≤ t)
set_option maxRecDepth 65536 in
set_option maxHeartbeats 40000000 in
theorem rm_cmp3_3 (l : Launch) (Z : State) (a0 : Array Value) (hw : ∀ d ∈ tables_1, d.before a0 Z = true) (ws : List Jvm.Cond) (va : Addr) (kc : ClassId) (c0 : Int32) (c1 : Int32) (c2 : Int32) (h0 : Heap) (n0 : Nat) (O0 : Old Z n0 h0) (VA : Arv Z h0 va kc .char (3 : Int32) [(.int c0), (.int c1), (.int c2)] (.int (0 : Int32))) (hp0 : ¬ (255 : Int32) < c0) (hp1 : ¬ (255 : Int32) < c1) (hp2 : ¬ (255 : Int32) < c2) :
    own_MF l own_m18 (Jvm.Cond.code own_m18 jdk_52_method_16_code 6 (some (.array .byte)) :: ws) ({ frames := 1, cells := 1, slots := 3, locals := 18 } : Room) #[(.ref va), (.int (0 : Int32)), (.int (3 : Int32))] Z h0 (Q_cmp3_3 Z va kc c0 c1 c2 h0 n0) := by
  refine own_met (own := "java/lang/StringUTF16") (nme := "compress") rfl rfl (plainFor_of_name pn_3) ?_
  intro p e s m below meth c s₁ hx hby hml hown hnm X0 e0 hret hlk hZ
  have N0 := Fr.nil n0
  rw [ef_cmp3_3 m va (0 : Int32) (3 : Int32)]
  refine own_st (T' := s₁) (g' := (mkF m 1 #[rv va, iv (0 : Int32), iv (3 : Int32), .unset, .unset, .unset] [(.int (3 : Int32))])) (fun _ k_ => XS.iloadN X0.here hx rfl (hb hby d12_0) rfl  k_) ?_
  obtain ⟨T1, h1, k1, X1, e1, E1, A1, st1⟩ := newP X0 hx hZ (wd hw 29 rfl) e0 (g := (mkF m 1 #[rv va, iv (0 : Int32), iv (3 : Int32), .unset, .unset, .unset] [(.int (3 : Int32))])) rfl (hb hby d12_1) rfl (by decide) (cap := 3) (by decide) (by decide) (by decide) (by decide)
  obtain ⟨b1, g1⟩ : ∃ z, z = h0.size := ⟨_, rfl⟩
  rw [← g1] at A1 st1
  have fr1 : n0 ≤ b1 := Nat.le_trans (own_z O0) (Nat.le_of_eq g1.symm)
  have sz1 : h0.size ≤ b1 := Nat.le_trans (Keep.refl h0 []).1 (Nat.le_of_eq g1.symm)
  have V1 : Arv Z h1 b1 k1 .byte (3 : Int32) [(.int (0 : Int32)), (.int (0 : Int32)), (.int (0 : Int32))] (.int (0 : Int32)) := (Arv.new A1 (by decide)).pad (pad_rep [] (.int (0 : Int32)) 3)
  refine own_st (T' := T1) (g' := (mkF m 3 #[rv va, iv (0 : Int32), iv (3 : Int32), .unset, .unset, .unset] [(.ref b1)])) st1 ?_
  clear st1
  refine own_st (T' := T1) (g' := (mkF m 4 #[rv va, iv (0 : Int32), iv (3 : Int32), rv b1, .unset, .unset] [])) (fun _ k_ => XS.astoreN X1.here hx rfl (hb hby d12_3) rfl rfl (l' := #[rv va, iv (0 : Int32), iv (3 : Int32), rv b1, .unset, .unset]) rfl k_) ?_
  refine own_st (T' := T1) (g' := (mkF m 5 #[rv va, iv (0 : Int32), iv (3 : Int32), rv b1, .unset, .unset] [(.ref va)])) (fun _ k_ => XS.aloadN X1.here hx rfl (hb hby d12_4) rfl rfl  k_) ?_
  refine own_st (T' := T1) (g' := (mkF m 6 #[rv va, iv (0 : Int32), iv (3 : Int32), rv b1, .unset, .unset] [(.int (0 : Int32)), (.ref va)])) (fun _ k_ => XS.iloadN X1.here hx rfl (hb hby d12_5) rfl  k_) ?_
  refine own_st (T' := T1) (g' := (mkF m 7 #[rv va, iv (0 : Int32), iv (3 : Int32), rv b1, .unset, .unset] [(.ref b1), (.int (0 : Int32)), (.ref va)])) (fun _ k_ => XS.aloadN X1.here hx rfl (hb hby d12_6) rfl rfl  k_) ?_
  refine own_st (T' := T1) (g' := (mkF m 8 #[rv va, iv (0 : Int32), iv (3 : Int32), rv b1, .unset, .unset] [(.int (0 : Int32)), (.ref b1), (.int (0 : Int32)), (.ref va)])) (fun _ k_ => XS.iconst X1.here hx rfl (hb hby d12_7) k_) ?_
  refine own_st (T' := T1) (g' := (mkF m 9 #[rv va, iv (0 : Int32), iv (3 : Int32), rv b1, .unset, .unset] [(.int (3 : Int32)), (.int (0 : Int32)), (.ref b1), (.int (0 : Int32)), (.ref va)])) (fun _ k_ => XS.iloadN X1.here hx rfl (hb hby d12_8) rfl  k_) ?_
  have f2 := VA.ext E1
  have ne3 : va ≠ b1 := Nat.ne_of_lt (Nat.lt_of_lt_of_le VA.lt (Nat.le_of_eq g1.symm))
  have f4 := O0.ext E1
  obtain ⟨_, T5, L5, X5, hQ5, st5⟩ := own_callS X1 hx (y := own_m14) hown (mvT hZ (wd hw 61 rfl)) (mvT hZ (wd hw 62 rfl)) (mvT hZ (wd hw 59 rfl)) (mvT hZ (wd hw 63 rfl)) (by decide) (backOf (W := 0) (rm_c5u_3 l Z a0 hw [] va b1 kc k1 c0 c1 c2 h1 n0 f4 f2 V1 ne3 fr1) hZ (wd hw 63 rfl) (wd hw 59 rfl) (by decide) (by decide)) (g := (mkF m 9 #[rv va, iv (0 : Int32), iv (3 : Int32), rv b1, .unset, .unset] [(.int (3 : Int32)), (.int (0 : Int32)), (.ref b1), (.int (0 : Int32)), (.ref va)])) rfl (by rw [hml]; rfl) (argsL := [(.ref va), (.int (0 : Int32)), (.ref b1), (.int (0 : Int32)), (.int (3 : Int32))]) (rest := []) (lenOf pd___CI_BII_I rfl) rfl (by show 2 * 0 + _ ≤ _; exact Nat.le_of_eq rfl) (hb hby d12_9) rfl e1 (by decide) (by decide) (c' := 1) (s' := 3) rfl rfl
  obtain ⟨rfl, Nq5, K5, xq5_full⟩ := hQ5
  have N5 := Fr.app N0 Nq5
  refine own_st (T' := T5) (g' := (mkF m 12 #[rv va, iv (0 : Int32), iv (3 : Int32), rv b1, .unset, .unset] [(.int (own_nd3 c0 c1 c2))])) st5 ?_
  clear st5
  have hnd : (own_nd3 c0 c1 c2) = (3 : Int32) := own_ndC3 hp0 hp1 hp2
  rw [hnd]
  have Vd : Arv Z T5.heap b1 k1 .byte (3 : Int32) [(.int (c0.toInt8.toInt32)), (.int (c1.toInt8.toInt32)), (.int (c2.toInt8.toInt32))] (.int (0 : Int32)) := xq5_full hnd
  refine own_st (T' := T5) (g' := (mkF m 14 #[rv va, iv (0 : Int32), iv (3 : Int32), rv b1, iv (3 : Int32), .unset] [])) (fun _ k_ => XS.istore X5.here hx rfl (hb hby d12_12) rfl (l' := #[rv va, iv (0 : Int32), iv (3 : Int32), rv b1, iv (3 : Int32), .unset]) rfl k_) ?_
  refine own_st (T' := T5) (g' := (mkF m 16 #[rv va, iv (0 : Int32), iv (3 : Int32), rv b1, iv (3 : Int32), .unset] [(.int (3 : Int32))])) (fun _ k_ => XS.iload X5.here hx rfl (hb hby d12_14) rfl  k_) ?_
  refine own_st (T' := T5) (g' := (mkF m 17 #[rv va, iv (0 : Int32), iv (3 : Int32), rv b1, iv (3 : Int32), .unset] [(.int (3 : Int32)), (.int (3 : Int32))])) (fun _ k_ => XS.iloadN X5.here hx rfl (hb hby d12_16) rfl  k_) ?_
  refine own_st (T' := T5) (g' := (mkF m 57 #[rv va, iv (0 : Int32), iv (3 : Int32), rv b1, iv (3 : Int32), .unset] [])) (fun _ k_ => XS.icmpYes X5.here hx rfl (pc0 := 17) (pc' := 57) rfl (hb hby d12_17) rfl (teq (rfl : (3 : Int32) = (3 : Int32))).1 (by decide) (by decide) k_) ?_
  refine own_st (T' := T5) (g' := (mkF m 58 #[rv va, iv (0 : Int32), iv (3 : Int32), rv b1, iv (3 : Int32), .unset] [(.ref b1)])) (fun _ k_ => XS.aloadN X5.here hx rfl (hb hby d12_57) rfl rfl  k_) ?_
  have f6 := (Keep.refl h0 []).ext E1
  have f7 := f6.trans K5 (allS (Or.inr sz1) all0)
  exact own_retA X5 hx hret rfl rfl hlk (hb hby d12_58) (by decide) (by decide) ⟨b1, k1, rfl, N5, f7, Vd, sz1⟩
theorem ef_cdr_3 (m : MethodId) (x0 : Addr) (x1 : Int32) : entryFrame m #[(.ref x0), (.int x1)] 2 = mkF m 0 #[rv x0, iv x1] [] := by first | (simp [entryFrame, mkF, argsToLocals, Value.category]; done) | rfl
def Q_cdr_3 (Z : State) (t : Addr) (kb : ClassId) (vs : List Value) (h0 : Heap) (n0 : Nat) (v : Option Value) (h : Heap) (L : List Loc) : Prop := (v = some (.int (0 : Int32))) ∧ (Fr n0 L) ∧ (h = h0)
set_option maxRecDepth 65536 in
set_option maxHeartbeats 40000000 in
theorem rm_cdr_3 (l : Launch) (Z : State) (a0 : Array Value) (hw : ∀ d ∈ tables_1, d.before a0 Z = true) (ws : List Jvm.Cond) (t : Addr) (kb : ClassId) (vs : List Value) (h0 : Heap) (n0 : Nat) (O0 : Old Z n0 h0) (VT : Arv Z h0 t kb .byte (3 : Int32) vs (.int (0 : Int32))) :
    own_MF l own_m19 (Jvm.Cond.code own_m19 jdk_52_method_15_code 2 (some .byte) :: ws) ({ frames := 0, cells := 0, slots := 0, locals := 0 } : Room) #[(.ref t), (.int (3 : Int32))] Z h0 (Q_cdr_3 Z t kb vs h0 n0) := by
  refine own_met (own := "java/lang/StringUTF16") (nme := "coderFromArrayLen") rfl rfl (plainFor_of_name pn_3) ?_
  intro p e s m below meth c s₁ hx hby hml hown hnm X0 e0 hret hlk hZ
  have N0 := Fr.nil n0
  rw [ef_cdr_3 m t (3 : Int32)]
  refine own_st (T' := s₁) (g' := (mkF m 1 #[rv t, iv (3 : Int32)] [(.int (3 : Int32))])) (fun _ k_ => XS.iloadN X0.here hx rfl (hb hby d14_0) rfl  k_) ?_
  refine own_st (T' := s₁) (g' := (mkF m 2 #[rv t, iv (3 : Int32)] [(.ref t), (.int (3 : Int32))])) (fun _ k_ => XS.aloadN X0.here hx rfl (hb hby d14_1) rfl rfl  k_) ?_
  obtain ⟨cl1, Ar1, -, S1, N1, -, -⟩ := id VT
  refine own_st (T' := s₁) (g' := (mkF m 3 #[rv t, iv (3 : Int32)] [(.int (3 : Int32)), (.int (3 : Int32))])) (fun t_ k_ => X0.arraylength hx (by rw [e0]; exact Ar1.1) (State.isArrayOf_alike hZ.alike Ar1.2.1) (g := (mkF m 2 #[rv t, iv (3 : Int32)] [(.ref t), (.int (3 : Int32))])) rfl rfl (hb hby d14_2) _ (by rw [len_of S1 N1]; exact k_)) ?_
  refine own_st (T' := s₁) (g' := (mkF m 4 #[rv t, iv (3 : Int32)] [(.int (0 : Int32))])) (fun _ k_ => XS.isub X0.here hx rfl (hb hby d14_3) rfl k_) ?_
  refine own_st (T' := s₁) (g' := (mkF m 6 #[rv t, iv (3 : Int32)] [(.int (31 : Int32)), (.int (0 : Int32))])) (fun _ k_ => XS.bipush X0.here hx rfl (hb hby d14_4) k_) ?_
  refine own_st (T' := s₁) (g' := (mkF m 7 #[rv t, iv (3 : Int32)] [(.int (((0 : Int32).toUInt32 >>> ((31 : Int32) &&& 31).toUInt32).toInt32))])) (fun _ k_ => XS.iushr X0.here hx rfl (hb hby d14_6) rfl k_) ?_
  refine own_st (T' := s₁) (g' := (mkF m 8 #[rv t, iv (3 : Int32)] [(.int ((((0 : Int32).toUInt32 >>> ((31 : Int32) &&& 31).toUInt32).toInt32).toInt8.toInt32))])) (fun _ k_ => XS.i2b X0.here hx rfl (hb hby d14_7) rfl k_) ?_
  exact own_retN X0 hx (t := .byte) hret (by simp) hlk (hb hby d14_8) (by decide) (by decide) ⟨(by decide), N0, e0⟩
theorem ef_ini4_3 (m : MethodId) (x0 : Addr) (x1 : Addr) (x2 : Int32) (x3 : Int32) : entryFrame m #[(.ref x0), (.ref x1), (.int x2), (.int x3), .null] 6 = mkF m 0 #[rv x0, rv x1, iv x2, iv x3, .val .null, .unset] [] := by first | (simp [entryFrame, mkF, argsToLocals, Value.category]; done) | rfl
def Q_ini4_3 (Z : State) (a : Addr) (va : Addr) (kc : ClassId) (cz : Int32) (c0 : Int32) (c1 : Int32) (c2 : Int32) (h0 : Heap) (n0 : Nat) (v : Option Value) (h : Heap) (L : List Loc) : Prop := ∃ (t : Addr) (kb : ClassId), (v = none) ∧ (Fr n0 L) ∧ (Keep h0 h [a]) ∧ (Exa Z h a "java/lang/String") ∧ (Fld Z h a "java/lang/String" "coder" "B" (.int (0 : Int32))) ∧ (Fld Z h a "java/lang/String" "value" "[B" (.ref t)) ∧ (Arv Z h t kb .byte (3 : Int32) [(.int (c0.toInt8.toInt32)), (.int (c1.toInt8.toInt32)), (.int (c2.toInt8.toInt32))] (.int (0 : Int32))) ∧ (h0.size ≤ t)
set_option maxRecDepth 65536 in
set_option maxHeartbeats 40000000 in
theorem rm_ini4_3 (l : Launch) (Z : State) (a0 : Array Value) (hw : ∀ d ∈ tables_1, d.before a0 Z = true) (ws : List Jvm.Cond) (a : Addr) (va : Addr) (kc : ClassId) (cz : Int32) (c0 : Int32) (c1 : Int32) (c2 : Int32) (h0 : Heap) (n0 : Nat) (O0 : Old Z n0 h0) (EA : Exa Z h0 a "java/lang/String") (FV : Fld Z h0 a "java/lang/String" "value" "[B" .null) (FC : Fld Z h0 a "java/lang/String" "coder" "B" (.int (0 : Int32))) (fa : n0 ≤ a) (VA : Arv Z h0 va kc .char (3 : Int32) [(.int c0), (.int c1), (.int c2)] (.int (0 : Int32))) (SC : Sta Z Z.heap "java/lang/String" "COMPACT_STRINGS" "Z" (.int cz)) (hcz : ¬ cz = (0 : Int32)) (hp0 : ¬ (255 : Int32) < c0) (hp1 : ¬ (255 : Int32) < c1) (hp2 : ¬ (255 : Int32) < c2) :
    own_MF l own_m12 (Jvm.Cond.code own_m12 jdk_42_method_149_code 6 none :: ws) ({ frames := 2, cells := 1, slots := 3, locals := 35 } : Room) #[(.ref a), (.ref va), (.int (0 : Int32)), (.int (3 : Int32)), .null] Z h0 (Q_ini4_3 Z a va kc cz c0 c1 c2 h0 n0) := by
  refine own_met (own := "java/lang/String") (nme := "<init>") rfl rfl (plainFor_of_name pn_0) ?_
  intro p e s m below meth c s₁ hx hby hml hown hnm X0 e0 hret hlk hZ
  have N0 := Fr.nil n0
  rw [ef_ini4_3 m a va (0 : Int32) (3 : Int32)]
  refine own_st (T' := s₁) (g' := (mkF m 1 #[rv a, rv va, iv (0 : Int32), iv (3 : Int32), .val .null, .unset] [(.ref a)])) (fun _ k_ => XS.aloadN X0.here hx rfl (hb hby d5_0) rfl rfl  k_) ?_
  obtain ⟨T1, X1, e1, st1⟩ := initO X0 hx hZ hown (wd hw 25 rfl) (wd hw 26 rfl) (wd hw 27 rfl) e0 (g := (mkF m 1 #[rv a, rv va, iv (0 : Int32), iv (3 : Int32), .val .null, .unset] [(.ref a)])) rfl (by rw [hml]; rfl) rfl (hb hby d5_1) (by decide) (W := 0) (by show 2 * 0 + _ ≤ _; exact Nat.le_of_eq rfl) (by decide)
  refine own_st (T' := T1) (g' := (mkF m 4 #[rv a, rv va, iv (0 : Int32), iv (3 : Int32), .val .null, .unset] [])) st1 ?_
  clear st1
  refine own_st (T' := T1) (g' := (mkF m 5 #[rv a, rv va, iv (0 : Int32), iv (3 : Int32), .val .null, .unset] [(.int (3 : Int32))])) (fun _ k_ => XS.iloadN X1.here hx rfl (hb hby d5_4) rfl  k_) ?_
  refine own_st (T' := T1) (g' := (mkF m 27 #[rv a, rv va, iv (0 : Int32), iv (3 : Int32), .val .null, .unset] [])) (fun _ k_ => XS.ifYes X1.here hx rfl (pc0 := 5) (pc' := 27) rfl (hb hby d5_5) rfl ((if0 _ _).trans (feq (by decide : ¬ ((3 : Int32) = (0 : Int32)))).2) (by decide) (by decide) k_) ?_
  obtain ⟨T2, X2, e2, st2⟩ := getS2 X1 hx hZ hown (host := "") (Or.inl (wd hw 50 rfl)) Via.refl e1 (SC.ext O0.2) (g := (mkF m 27 #[rv a, rv va, iv (0 : Int32), iv (3 : Int32), .val .null, .unset] [])) rfl (hb hby d5_27)
  refine own_st (T' := T2) (g' := (mkF m 30 #[rv a, rv va, iv (0 : Int32), iv (3 : Int32), .val .null, .unset] [(.int cz)])) st2 ?_
  clear st2
  refine own_st (T' := T2) (g' := (mkF m 33 #[rv a, rv va, iv (0 : Int32), iv (3 : Int32), .val .null, .unset] [])) (fun _ k_ => XS.ifNo X2.here hx rfl (hb hby d5_30) rfl ((if0 _ _).trans (feq (hcz : ¬ (cz = (0 : Int32)))).1) k_) ?_
  refine own_st (T' := T2) (g' := (mkF m 34 #[rv a, rv va, iv (0 : Int32), iv (3 : Int32), .val .null, .unset] [(.ref va)])) (fun _ k_ => XS.aloadN X2.here hx rfl (hb hby d5_33) rfl rfl  k_) ?_
  refine own_st (T' := T2) (g' := (mkF m 35 #[rv a, rv va, iv (0 : Int32), iv (3 : Int32), .val .null, .unset] [(.int (0 : Int32)), (.ref va)])) (fun _ k_ => XS.iloadN X2.here hx rfl (hb hby d5_34) rfl  k_) ?_
  refine own_st (T' := T2) (g' := (mkF m 36 #[rv a, rv va, iv (0 : Int32), iv (3 : Int32), .val .null, .unset] [(.int (3 : Int32)), (.int (0 : Int32)), (.ref va)])) (fun _ k_ => XS.iloadN X2.here hx rfl (hb hby d5_35) rfl  k_) ?_
  obtain ⟨_, T3, L3, X3, hQ3, st3⟩ := own_callS X2 hx (y := own_m18) hown (mvT hZ (wd hw 57 rfl)) (mvT hZ (wd hw 58 rfl)) (mvT hZ (wd hw 59 rfl)) (mvT hZ (wd hw 60 rfl)) (by decide) (backOf (W := 0) (rm_cmp3_3 l Z a0 hw [] va kc c0 c1 c2 h0 n0 O0 VA hp0 hp1 hp2) hZ (wd hw 60 rfl) (wd hw 59 rfl) (by decide) (by decide)) (g := (mkF m 36 #[rv a, rv va, iv (0 : Int32), iv (3 : Int32), .val .null, .unset] [(.int (3 : Int32)), (.int (0 : Int32)), (.ref va)])) rfl (by rw [hml]; rfl) (argsL := [(.ref va), (.int (0 : Int32)), (.int (3 : Int32))]) (rest := []) (lenOf pd___CII__B rfl) rfl (by show 2 * 0 + _ ≤ _; exact Nat.le_of_eq rfl) (hb hby d5_36) rfl e2 (by decide) (by decide) (c' := 1) (s' := 3) rfl rfl
  obtain ⟨t3, kb3, rfl, Nq3, K3, fq3_0, xq3_fresh_t⟩ := hQ3
  have N3 := Fr.app N0 Nq3
  refine own_st (T' := T3) (g' := (mkF m 39 #[rv a, rv va, iv (0 : Int32), iv (3 : Int32), .val .null, .unset] [(.ref t3)])) st3 ?_
  clear st3
  refine own_st (T' := T3) (g' := (mkF m 41 #[rv a, rv va, iv (0 : Int32), iv (3 : Int32), .val .null, rv t3] [])) (fun _ k_ => XS.astore X3.here hx rfl (hb hby d5_39) rfl rfl (l' := #[rv a, rv va, iv (0 : Int32), iv (3 : Int32), .val .null, rv t3]) rfl k_) ?_
  refine own_st (T' := T3) (g' := (mkF m 42 #[rv a, rv va, iv (0 : Int32), iv (3 : Int32), .val .null, rv t3] [(.ref a)])) (fun _ k_ => XS.aloadN X3.here hx rfl (hb hby d5_41) rfl rfl  k_) ?_
  refine own_st (T' := T3) (g' := (mkF m 44 #[rv a, rv va, iv (0 : Int32), iv (3 : Int32), .val .null, rv t3] [(.ref t3), (.ref a)])) (fun _ k_ => XS.aload X3.here hx rfl (hb hby d5_42) rfl rfl  k_) ?_
  refine own_st (T' := T3) (g' := (mkF m 45 #[rv a, rv va, iv (0 : Int32), iv (3 : Int32), .val .null, rv t3] [(.int (3 : Int32)), (.ref t3), (.ref a)])) (fun _ k_ => XS.iloadN X3.here hx rfl (hb hby d5_44) rfl  k_) ?_
  have f4 := O0.keep K3 all0
  obtain ⟨_, T5, L5, X5, hQ5, st5⟩ := own_callS X3 hx (y := own_m19) hown (mvT hZ (wd hw 64 rfl)) (mvT hZ (wd hw 65 rfl)) (mvT hZ (wd hw 59 rfl)) (mvT hZ (wd hw 66 rfl)) (by decide) (backOf (W := 1) (rm_cdr_3 l Z a0 hw [] t3 kb3 [(.int (c0.toInt8.toInt32)), (.int (c1.toInt8.toInt32)), (.int (c2.toInt8.toInt32))] T3.heap n0 f4 fq3_0) hZ (wd hw 66 rfl) (wd hw 59 rfl) (by decide) (by decide)) (g := (mkF m 45 #[rv a, rv va, iv (0 : Int32), iv (3 : Int32), .val .null, rv t3] [(.int (3 : Int32)), (.ref t3), (.ref a)])) rfl (by rw [hml]; rfl) (argsL := [(.ref t3), (.int (3 : Int32))]) (rest := [(.ref a)]) (lenOf pd___BI_B rfl) rfl (by show 2 * 0 + _ ≤ _; exact Nat.le_of_eq rfl) (hb hby d5_45) rfl rfl (by decide) (by decide) (c' := 1) (s' := 3) rfl rfl
  obtain ⟨rfl, Nq5, eq5⟩ := hQ5
  have N5 := Fr.app N3 Nq5
  refine own_st (T' := T5) (g' := (mkF m 48 #[rv a, rv va, iv (0 : Int32), iv (3 : Int32), .val .null, rv t3] [(.int (0 : Int32)), (.ref a)])) st5 ?_
  clear st5
  have f6 := EA.keep K3
  have f7 := FC.keep K3 nin0
  obtain ⟨T8, h8, X8, e8, W8, st8⟩ := putFN X5 hx hZ hown (wd hw 35 rfl) Via.refl eq5 f7 f6 (Or.inr ⟨(wd hw 31 rfl), rfl, hnm⟩) (wd hw 16 rfl) (ty := .byte) (v' := (.int (0 : Int32))) (by decide) rfl (by decide) (g := (mkF m 48 #[rv a, rv va, iv (0 : Int32), iv (3 : Int32), .val .null, rv t3] [(.int (0 : Int32)), (.ref a)])) rfl rfl (hb hby d5_48)
  have Fw8 : Fld Z h8 a "java/lang/String" "coder" "B" (.int (0 : Int32)) := Fld.same W8 f7
  have N8 := Fr.snoc X8 N5 fa
  refine own_st (T' := T8) (g' := (mkF m 51 #[rv a, rv va, iv (0 : Int32), iv (3 : Int32), .val .null, rv t3] [])) st8 ?_
  clear st8
  refine own_st (T' := T8) (g' := (mkF m 52 #[rv a, rv va, iv (0 : Int32), iv (3 : Int32), .val .null, rv t3] [(.ref a)])) (fun _ k_ => XS.aloadN X8.here hx rfl (hb hby d5_51) rfl rfl  k_) ?_
  refine own_st (T' := T8) (g' := (mkF m 54 #[rv a, rv va, iv (0 : Int32), iv (3 : Int32), .val .null, rv t3] [(.ref t3), (.ref a)])) (fun _ k_ => XS.aload X8.here hx rfl (hb hby d5_52) rfl rfl  k_) ?_
  have f9 := f6.wr W8
  have f10 := FV.keep K3 nin0
  have f11 := f10.other W8 (Or.inr (slot_ne (Or.inr (wd hw 30 rfl)) (Or.inr (wd hw 31 rfl)) (by decide) (t := (.array .byte)) (t' := .byte) (by decide) (by decide)))
  obtain ⟨T12, h12, X12, e12, W12, st12⟩ := putF X8 hx hZ hown (host := "") (Or.inl (wd hw 34 rfl)) Via.refl e8 f11 f9 (Or.inr ⟨(wd hw 30 rfl), rfl, hnm⟩) (wd hw 16 rfl) (ty := (.array .byte)) (by decide) rfl rfl (g := (mkF m 54 #[rv a, rv va, iv (0 : Int32), iv (3 : Int32), .val .null, rv t3] [(.ref t3), (.ref a)])) rfl rfl (hb hby d5_54)
  have Fw12 : Fld Z h12 a "java/lang/String" "value" "[B" (.ref t3) := Fld.same W12 f11
  have N12 := Fr.snoc X12 N8 fa
  refine own_st (T' := T12) (g' := (mkF m 57 #[rv a, rv va, iv (0 : Int32), iv (3 : Int32), .val .null, rv t3] [])) st12 ?_
  clear st12
  have f13 := (Keep.refl h0 [a]).trans K3 all0
  have f14 := f13.wr W8 (Or.inl (List.mem_of_getElem? (i := 0) rfl))
  have f15 := f14.wr W12 (Or.inl (List.mem_of_getElem? (i := 0) rfl))
  have f16 := f9.wr W12
  have f17 := Fw8.other W12 (Or.inr (slot_ne (Or.inr (wd hw 31 rfl)) (Or.inr (wd hw 30 rfl)) (by decide) (t := .byte) (t' := (.array .byte)) (by decide) (by decide)))
  have ne18 : a ≠ t3 := Nat.ne_of_lt (Nat.lt_of_lt_of_le EA.lt xq3_fresh_t)
  have f19 := fq3_0.other W8 (Ne.symm ne18)
  have f20 := f19.other W12 (Ne.symm ne18)
  exact own_retV X12 hx hret hlk (hb hby d5_57) (by decide) (by decide) (by rw [e12]; exact ⟨t3, kb3, rfl, N12, f15, f16, f17, Fw12, f20, (Nat.le_trans (Keep.refl h0 [a]).1 xq3_fresh_t)⟩)
theorem ef_ini1_3 (m : MethodId) (x0 : Addr) (x1 : Addr) : entryFrame m #[(.ref x0), (.ref x1)] 2 = mkF m 0 #[rv x0, rv x1] [] := by first | (simp [entryFrame, mkF, argsToLocals, Value.category]; done) | rfl
def Q_ini1_3 (Z : State) (a : Addr) (va : Addr) (kc : ClassId) (cz : Int32) (c0 : Int32) (c1 : Int32) (c2 : Int32) (h0 : Heap) (n0 : Nat) (v : Option Value) (h : Heap) (L : List Loc) : Prop := ∃ (t : Addr) (kb : ClassId), (v = none) ∧ (Fr n0 L) ∧ (Keep h0 h [a]) ∧ (Exa Z h a "java/lang/String") ∧ (Fld Z h a "java/lang/String" "coder" "B" (.int (0 : Int32))) ∧ (Fld Z h a "java/lang/String" "value" "[B" (.ref t)) ∧ (Arv Z h t kb .byte (3 : Int32) [(.int (c0.toInt8.toInt32)), (.int (c1.toInt8.toInt32)), (.int (c2.toInt8.toInt32))] (.int (0 : Int32))) ∧ (h0.size ≤ t)
set_option maxRecDepth 65536 in
set_option maxHeartbeats 40000000 in
theorem rm_ini1_3 (l : Launch) (Z : State) (a0 : Array Value) (hw : ∀ d ∈ tables_1, d.before a0 Z = true) (ws : List Jvm.Cond) (a : Addr) (va : Addr) (kc : ClassId) (cz : Int32) (c0 : Int32) (c1 : Int32) (c2 : Int32) (h0 : Heap) (n0 : Nat) (O0 : Old Z n0 h0) (EA : Exa Z h0 a "java/lang/String") (FV : Fld Z h0 a "java/lang/String" "value" "[B" .null) (FC : Fld Z h0 a "java/lang/String" "coder" "B" (.int (0 : Int32))) (fa : n0 ≤ a) (VA : Arv Z h0 va kc .char (3 : Int32) [(.int c0), (.int c1), (.int c2)] (.int (0 : Int32))) (SC : Sta Z Z.heap "java/lang/String" "COMPACT_STRINGS" "Z" (.int cz)) (hcz : ¬ cz = (0 : Int32)) (hp0 : ¬ (255 : Int32) < c0) (hp1 : ¬ (255 : Int32) < c1) (hp2 : ¬ (255 : Int32) < c2) :
    own_MF l own_m13 (Jvm.Cond.code own_m13 jdk_42_method_3_code 2 none :: ws) ({ frames := 3, cells := 1, slots := 3, locals := 52 } : Room) #[(.ref a), (.ref va)] Z h0 (Q_ini1_3 Z a va kc cz c0 c1 c2 h0 n0) := by
  refine own_met (own := "java/lang/String") (nme := "<init>") rfl rfl (plainFor_of_name pn_0) ?_
  intro p e s m below meth c s₁ hx hby hml hown hnm X0 e0 hret hlk hZ
  have N0 := Fr.nil n0
  rw [ef_ini1_3 m a va]
  refine own_st (T' := s₁) (g' := (mkF m 1 #[rv a, rv va] [(.ref a)])) (fun _ k_ => XS.aloadN X0.here hx rfl (hb hby d4_0) rfl rfl  k_) ?_
  refine own_st (T' := s₁) (g' := (mkF m 2 #[rv a, rv va] [(.ref va), (.ref a)])) (fun _ k_ => XS.aloadN X0.here hx rfl (hb hby d4_1) rfl rfl  k_) ?_
  refine own_st (T' := s₁) (g' := (mkF m 3 #[rv a, rv va] [(.int (0 : Int32)), (.ref va), (.ref a)])) (fun _ k_ => XS.iconst X0.here hx rfl (hb hby d4_2) k_) ?_
  refine own_st (T' := s₁) (g' := (mkF m 4 #[rv a, rv va] [(.ref va), (.int (0 : Int32)), (.ref va), (.ref a)])) (fun _ k_ => XS.aloadN X0.here hx rfl (hb hby d4_3) rfl rfl  k_) ?_
  obtain ⟨cl1, Ar1, -, S1, N1, -, -⟩ := id VA
  refine own_st (T' := s₁) (g' := (mkF m 5 #[rv a, rv va] [(.int (3 : Int32)), (.int (0 : Int32)), (.ref va), (.ref a)])) (fun t_ k_ => X0.arraylength hx (by rw [e0]; exact Ar1.1) (State.isArrayOf_alike hZ.alike Ar1.2.1) (g := (mkF m 4 #[rv a, rv va] [(.ref va), (.int (0 : Int32)), (.ref va), (.ref a)])) rfl rfl (hb hby d4_4) _ (by rw [len_of S1 N1]; exact k_)) ?_
  refine own_st (T' := s₁) (g' := (mkF m 6 #[rv a, rv va] [.null, (.int (3 : Int32)), (.int (0 : Int32)), (.ref va), (.ref a)])) (fun _ k_ => XS.aconstNull X0.here hx rfl (hb hby d4_5) k_) ?_
  obtain ⟨_, T2, L2, X2, hQ2, st2⟩ := own_callI X0 hx (y := own_m12) rfl hown (mvT hZ (wd hw 21 rfl)) (mvT hZ (wd hw 22 rfl)) (mvT hZ (wd hw 24 rfl)) (by decide) (backOf (W := 0) (rm_ini4_3 l Z a0 hw [] a va kc cz c0 c1 c2 h0 n0 O0 EA FV FC fa VA SC hcz hp0 hp1 hp2) hZ (wd hw 24 rfl) (wd hw 17 rfl) (by decide) (by decide)) (g := (mkF m 6 #[rv a, rv va] [.null, (.int (3 : Int32)), (.int (0 : Int32)), (.ref va), (.ref a)])) rfl (by rw [hml]; rfl) (a := a) (argsL := [(.ref va), (.int (0 : Int32)), (.int (3 : Int32)), .null]) (rest := []) (lenOf pd___CIILjava_lang_Void__V rfl) rfl (by show 2 * 0 + _ ≤ _; exact Nat.le_of_eq rfl) (hb hby d4_6) rfl e0 (by decide) (by decide) (c' := 1) (s' := 3) rfl rfl
  obtain ⟨t2, kb2, rfl, Nq2, K2, fq2_0, fq2_1, fq2_2, fq2_3, xq2_fresh_t⟩ := hQ2
  have N2 := Fr.app N0 Nq2
  refine own_st (T' := T2) (g' := (mkF m 9 #[rv a, rv va] [])) st2 ?_
  clear st2
  have f3 := (Keep.refl h0 [a]).trans K2 (allS (Or.inl (List.mem_of_getElem? (i := 0) rfl)) all0)
  exact own_retV X2 hx hret hlk (hb hby d4_9) (by decide) (by decide) ⟨t2, kb2, rfl, N2, f3, fq2_0, fq2_1, fq2_2, fq2_3, (Nat.le_trans (Keep.refl h0 [a]).1 xq2_fresh_t)⟩
def own_nd4 (c0 c1 c2 c3 : Int32) : Int32 := if (255 : Int32) < c0 then (0 : Int32) else if (255 : Int32) < c1 then (1 : Int32) else if (255 : Int32) < c2 then (2 : Int32) else if (255 : Int32) < c3 then (3 : Int32) else 4
theorem own_ndA4 {c0 c1 c2 c3 : Int32} (h : own_nd4 c0 c1 c2 c3 = (4 : Int32)) : ¬ (255 : Int32) < c0 ∧ ¬ (255 : Int32) < c1 ∧ ¬ (255 : Int32) < c2 ∧ ¬ (255 : Int32) < c3 ∧ True := by
  unfold own_nd4 at h
  by_cases h0 : (255 : Int32) < c0
  · rw [if_pos h0] at h; exact absurd h (by decide)
  by_cases h1 : (255 : Int32) < c1
  · rw [if_neg h0, if_pos h1] at h; exact absurd h (by decide)
  by_cases h2 : (255 : Int32) < c2
  · rw [if_neg h0, if_neg h1, if_pos h2] at h; exact absurd h (by decide)
  by_cases h3 : (255 : Int32) < c3
  · rw [if_neg h0, if_neg h1, if_neg h2, if_pos h3] at h; exact absurd h (by decide)
  exact ⟨h0, h1, h2, h3, trivial⟩
theorem own_ndB4 {c0 c1 c2 c3 : Int32} (h : ¬ own_nd4 c0 c1 c2 c3 = (4 : Int32)) : (own_nd4 c0 c1 c2 c3 = (0 : Int32) ∧ (255 : Int32) < c0) ∨ (own_nd4 c0 c1 c2 c3 = (1 : Int32) ∧ (255 : Int32) < c1) ∨ (own_nd4 c0 c1 c2 c3 = (2 : Int32) ∧ (255 : Int32) < c2) ∨ (own_nd4 c0 c1 c2 c3 = (3 : Int32) ∧ (255 : Int32) < c3) := by
  unfold own_nd4 at h ⊢
  by_cases h0 : (255 : Int32) < c0
  · exact Or.inl ⟨by rw [if_pos h0], h0⟩
  by_cases h1 : (255 : Int32) < c1
  · exact Or.inr (Or.inl ⟨by rw [if_neg h0, if_pos h1], h1⟩)
  by_cases h2 : (255 : Int32) < c2
  · exact Or.inr (Or.inr (Or.inl ⟨by rw [if_neg h0, if_neg h1, if_pos h2], h2⟩))
  by_cases h3 : (255 : Int32) < c3
  · exact Or.inr (Or.inr (Or.inr (⟨by rw [if_neg h0, if_neg h1, if_neg h2, if_pos h3], h3⟩)))
  exact absurd (by rw [if_neg h0, if_neg h1, if_neg h2, if_neg h3]) h
theorem own_ndC4 {c0 c1 c2 c3 : Int32} (h0 : ¬ (255 : Int32) < c0) (h1 : ¬ (255 : Int32) < c1) (h2 : ¬ (255 : Int32) < c2) (h3 : ¬ (255 : Int32) < c3) : own_nd4 c0 c1 c2 c3 = (4 : Int32) := by unfold own_nd4; rw [if_neg h0, if_neg h1, if_neg h2, if_neg h3]
theorem ef_c5u_4 (m : MethodId) (x0 : Addr) (x1 : Int32) (x2 : Addr) (x3 : Int32) (x4 : Int32) : entryFrame m #[(.ref x0), (.int x1), (.ref x2), (.int x3), (.int x4)] 7 = mkF m 0 #[rv x0, iv x1, rv x2, iv x3, iv x4, .unset, .unset] [] := by first | (simp [entryFrame, mkF, argsToLocals, Value.category]; done) | rfl
def Q_c5u_4 (Z : State) (va : Addr) (da : Addr) (kc : ClassId) (kd : ClassId) (c0 : Int32) (c1 : Int32) (c2 : Int32) (c3 : Int32) (h0 : Heap) (n0 : Nat) (v : Option Value) (h : Heap) (L : List Loc) : Prop := (v = some (.int (own_nd4 c0 c1 c2 c3))) ∧ (Fr n0 L) ∧ (Keep h0 h [da]) ∧ ((own_nd4 c0 c1 c2 c3) = (4 : Int32) → Arv Z h da kd .byte (4 : Int32) [(.int (c0.toInt8.toInt32)), (.int (c1.toInt8.toInt32)), (.int (c2.toInt8.toInt32)), (.int (c3.toInt8.toInt32))] (.int (0 : Int32)))
set_option maxRecDepth 65536 in
set_option maxHeartbeats 40000000 in
theorem rm_c5u_4 (l : Launch) (Z : State) (a0 : Array Value) (hw : ∀ d ∈ tables_1, d.before a0 Z = true) (ws : List Jvm.Cond) (va : Addr) (da : Addr) (kc : ClassId) (kd : ClassId) (c0 : Int32) (c1 : Int32) (c2 : Int32) (c3 : Int32) (h0 : Heap) (n0 : Nat) (O0 : Old Z n0 h0) (VA : Arv Z h0 va kc .char (4 : Int32) [(.int c0), (.int c1), (.int c2), (.int c3)] (.int (0 : Int32))) (VD : Arv Z h0 da kd .byte (4 : Int32) [(.int (0 : Int32)), (.int (0 : Int32)), (.int (0 : Int32)), (.int (0 : Int32))] (.int (0 : Int32))) (nad : va ≠ da) (fda : n0 ≤ da) :
    own_MF l own_m14 (Jvm.Cond.code own_m14 jdk_52_method_21_code 7 (some .int) :: ws) ({ frames := 0, cells := 0, slots := 0, locals := 0 } : Room) #[(.ref va), (.int (0 : Int32)), (.ref da), (.int (0 : Int32)), (.int (4 : Int32))] Z h0 (Q_c5u_4 Z va da kc kd c0 c1 c2 c3 h0 n0) := by
  refine own_met (own := "java/lang/StringUTF16") (nme := "compress") rfl rfl (plainFor_of_name pn_3) ?_
  intro p e s m below meth c s₁ hx hby hml hown hnm X0 e0 hret hlk hZ
  have N0 := Fr.nil n0
  rw [ef_c5u_4 m va (0 : Int32) da (0 : Int32) (4 : Int32)]
  refine own_st (T' := s₁) (g' := (mkF m 1 #[rv va, iv (0 : Int32), rv da, iv (0 : Int32), iv (4 : Int32), .unset, .unset] [(.int (0 : Int32))])) (fun _ k_ => XS.iconst X0.here hx rfl (hb hby d13_0) k_) ?_
  refine own_st (T' := s₁) (g' := (mkF m 3 #[rv va, iv (0 : Int32), rv da, iv (0 : Int32), iv (4 : Int32), iv (0 : Int32), .unset] [])) (fun _ k_ => XS.istore X0.here hx rfl (hb hby d13_1) rfl (l' := #[rv va, iv (0 : Int32), rv da, iv (0 : Int32), iv (4 : Int32), iv (0 : Int32), .unset]) rfl k_) ?_
  refine own_st (T' := s₁) (g' := (mkF m 5 #[rv va, iv (0 : Int32), rv da, iv (0 : Int32), iv (4 : Int32), iv (0 : Int32), .unset] [(.int (0 : Int32))])) (fun _ k_ => XS.iload X0.here hx rfl (hb hby d13_3) rfl  k_) ?_
  refine own_st (T' := s₁) (g' := (mkF m 7 #[rv va, iv (0 : Int32), rv da, iv (0 : Int32), iv (4 : Int32), iv (0 : Int32), .unset] [(.int (4 : Int32)), (.int (0 : Int32))])) (fun _ k_ => XS.iload X0.here hx rfl (hb hby d13_5) rfl  k_) ?_
  refine own_st (T' := s₁) (g' := (mkF m 10 #[rv va, iv (0 : Int32), rv da, iv (0 : Int32), iv (4 : Int32), iv (0 : Int32), .unset] [])) (fun _ k_ => XS.icmpNo X0.here hx rfl (hb hby d13_7) rfl (tlt (by decide : (0 : Int32) < (4 : Int32))).2.1 k_) ?_
  refine own_st (T' := s₁) (g' := (mkF m 11 #[rv va, iv (0 : Int32), rv da, iv (0 : Int32), iv (4 : Int32), iv (0 : Int32), .unset] [(.ref va)])) (fun _ k_ => XS.aloadN X0.here hx rfl (hb hby d13_10) rfl rfl  k_) ?_
  refine own_st (T' := s₁) (g' := (mkF m 12 #[rv va, iv (0 : Int32), rv da, iv (0 : Int32), iv (4 : Int32), iv (0 : Int32), .unset] [(.int (0 : Int32)), (.ref va)])) (fun _ k_ => XS.iloadN X0.here hx rfl (hb hby d13_11) rfl  k_) ?_
  obtain ⟨cl1, Ar1, q1, S1, N1, H1, G1⟩ := id VA
  have hin1 : ¬ ((0 : Int32) < 0 ∨ cl1.slots.size ≤ ((0 : Int32)).toNatClampNeg) := inb_of S1 ⟨by decide, by decide⟩
  refine own_st (T' := s₁) (g' := (mkF m 13 #[rv va, iv (0 : Int32), rv da, iv (0 : Int32), iv (4 : Int32), iv (0 : Int32), .unset] [(.int c0)])) (X0.caload hx (j := (0 : Int32)) (v := (.int c0)) (by rw [e0]; exact Ar1.1) (State.isArrayOf_alike hZ.alike Ar1.2.1) Ar1.2.2 hin1 (H1.at hin1 rfl) (g := (mkF m 12 #[rv va, iv (0 : Int32), rv da, iv (0 : Int32), iv (4 : Int32), iv (0 : Int32), .unset] [(.int (0 : Int32)), (.ref va)])) rfl rfl (hb hby d13_12)) ?_
  clear hin1 G1 H1 N1 S1 q1 Ar1 cl1
  refine own_st (T' := s₁) (g' := (mkF m 15 #[rv va, iv (0 : Int32), rv da, iv (0 : Int32), iv (4 : Int32), iv (0 : Int32), iv c0] [])) (fun _ k_ => XS.istore X0.here hx rfl (hb hby d13_13) rfl (l' := #[rv va, iv (0 : Int32), rv da, iv (0 : Int32), iv (4 : Int32), iv (0 : Int32), iv c0]) rfl k_) ?_
  refine own_st (T' := s₁) (g' := (mkF m 17 #[rv va, iv (0 : Int32), rv da, iv (0 : Int32), iv (4 : Int32), iv (0 : Int32), iv c0] [(.int c0)])) (fun _ k_ => XS.iload X0.here hx rfl (hb hby d13_15) rfl  k_) ?_
  refine own_st (T' := s₁) (g' := (mkF m 20 #[rv va, iv (0 : Int32), rv da, iv (0 : Int32), iv (4 : Int32), iv (0 : Int32), iv c0] [(.int (255 : Int32)), (.int c0)])) (fun _ k_ => XS.sipush X0.here hx rfl (hb hby d13_17) k_) ?_
  by_cases hc2 : (255 : Int32) < c0
  · refine own_st (T' := s₁) (g' := (mkF m 23 #[rv va, iv (0 : Int32), rv da, iv (0 : Int32), iv (4 : Int32), iv (0 : Int32), iv c0] [])) (fun _ k_ => XS.icmpNo X0.here hx rfl (hb hby d13_20) rfl (tlt hc2).2.2.2 k_) ?_
    refine own_st (T' := s₁) (g' := (mkF m 25 #[rv va, iv (0 : Int32), rv da, iv (0 : Int32), iv (4 : Int32), iv (0 : Int32), iv c0] [(.int (0 : Int32))])) (fun _ k_ => XS.iload X0.here hx rfl (hb hby d13_23) rfl  k_) ?_
    exact own_retI X0 hx hret hlk (hb hby d13_25) (by decide) (by decide) (by rw [e0]; exact ⟨(by unfold own_nd4; rw [if_pos hc2]), N0, (Keep.refl h0 [da]), (fun q => absurd q (by unfold own_nd4; rw [if_pos hc2]; decide))⟩)
  · refine own_st (T' := s₁) (g' := (mkF m 26 #[rv va, iv (0 : Int32), rv da, iv (0 : Int32), iv (4 : Int32), iv (0 : Int32), iv c0] [])) (fun _ k_ => XS.icmpYes X0.here hx rfl (pc0 := 20) (pc' := 26) rfl (hb hby d13_20) rfl (flt hc2).2.2.2 (by decide) (by decide) k_) ?_
    refine own_st (T' := s₁) (g' := (mkF m 27 #[rv va, iv (0 : Int32), rv da, iv (0 : Int32), iv (4 : Int32), iv (0 : Int32), iv c0] [(.ref da)])) (fun _ k_ => XS.aloadN X0.here hx rfl (hb hby d13_26) rfl rfl  k_) ?_
    refine own_st (T' := s₁) (g' := (mkF m 28 #[rv va, iv (0 : Int32), rv da, iv (0 : Int32), iv (4 : Int32), iv (0 : Int32), iv c0] [(.int (0 : Int32)), (.ref da)])) (fun _ k_ => XS.iloadN X0.here hx rfl (hb hby d13_27) rfl  k_) ?_
    refine own_st (T' := s₁) (g' := (mkF m 30 #[rv va, iv (0 : Int32), rv da, iv (0 : Int32), iv (4 : Int32), iv (0 : Int32), iv c0] [(.int c0), (.int (0 : Int32)), (.ref da)])) (fun _ k_ => XS.iload X0.here hx rfl (hb hby d13_28) rfl  k_) ?_
    refine own_st (T' := s₁) (g' := (mkF m 31 #[rv va, iv (0 : Int32), rv da, iv (0 : Int32), iv (4 : Int32), iv (0 : Int32), iv c0] [(.int (c0.toInt8.toInt32)), (.int (0 : Int32)), (.ref da)])) (fun _ k_ => XS.i2b X0.here hx rfl (hb hby d13_30) rfl k_) ?_
    obtain ⟨cl3, Ar3, q3, S3, N3, H3, G3⟩ := id VD
    have hin3 : ¬ ((0 : Int32) < 0 ∨ cl3.slots.size ≤ ((0 : Int32)).toNatClampNeg) := inb_of S3 ⟨by decide, by decide⟩
    obtain ⟨T4, h4, X4, e4, W4, st4⟩ := stB X0 hx hZ e0 Ar3 (j := (0 : Int32)) hin3 (g := (mkF m 31 #[rv va, iv (0 : Int32), rv da, iv (0 : Int32), iv (4 : Int32), iv (0 : Int32), iv c0] [(.int (c0.toInt8.toInt32)), (.int (0 : Int32)), (.ref da)])) rfl rfl (hb hby d13_31)
    have V4 : Arv Z h4 da kd .byte (4 : Int32) [(.int (nar .byte (c0.toInt8.toInt32))), (.int (0 : Int32)), (.int (0 : Int32)), (.int (0 : Int32))] (.int (0 : Int32)) := Arv.set Ar3 q3 S3 N3 H3 G3 (fits_nar_byte _) W4 0 rfl (Nat.le_of_ble_eq_true rfl)
    have Vn4 : Arv Z h4 da kd .byte (4 : Int32) [(.int (c0.toInt8.toInt32)), (.int (0 : Int32)), (.int (0 : Int32)), (.int (0 : Int32))] (.int (0 : Int32)) := by simpa only [own_bb] using V4
    have Nx4 := Fr.snoc X4 N0 fda
    refine own_st (T' := T4) (g' := (mkF m 32 #[rv va, iv (0 : Int32), rv da, iv (0 : Int32), iv (4 : Int32), iv (0 : Int32), iv c0] [])) st4 ?_
    clear hin3 G3 H3 N3 S3 q3 Ar3 cl3 st4
    refine own_st (T' := T4) (g' := (mkF m 35 #[rv va, iv (1 : Int32), rv da, iv (0 : Int32), iv (4 : Int32), iv (0 : Int32), iv c0] [])) (fun _ k_ => XS.iinc X4.here hx rfl (hb hby d13_32) rfl (l' := #[rv va, iv (1 : Int32), rv da, iv (0 : Int32), iv (4 : Int32), iv (0 : Int32), iv c0]) rfl k_) ?_
    refine own_st (T' := T4) (g' := (mkF m 38 #[rv va, iv (1 : Int32), rv da, iv (1 : Int32), iv (4 : Int32), iv (0 : Int32), iv c0] [])) (fun _ k_ => XS.iinc X4.here hx rfl (hb hby d13_35) rfl (l' := #[rv va, iv (1 : Int32), rv da, iv (1 : Int32), iv (4 : Int32), iv (0 : Int32), iv c0]) rfl k_) ?_
    refine own_st (T' := T4) (g' := (mkF m 41 #[rv va, iv (1 : Int32), rv da, iv (1 : Int32), iv (4 : Int32), iv (1 : Int32), iv c0] [])) (fun _ k_ => XS.iinc X4.here hx rfl (hb hby d13_38) rfl (l' := #[rv va, iv (1 : Int32), rv da, iv (1 : Int32), iv (4 : Int32), iv (1 : Int32), iv c0]) rfl k_) ?_
    refine own_st (T' := T4) (g' := (mkF m 3 #[rv va, iv (1 : Int32), rv da, iv (1 : Int32), iv (4 : Int32), iv (1 : Int32), iv c0] [])) (fun _ k_ => XS.goto X4.here hx rfl (pc0 := 41) (pc' := 3) rfl (hb hby d13_41) (by decide) (by decide) k_) ?_
    refine own_st (T' := T4) (g' := (mkF m 5 #[rv va, iv (1 : Int32), rv da, iv (1 : Int32), iv (4 : Int32), iv (1 : Int32), iv c0] [(.int (1 : Int32))])) (fun _ k_ => XS.iload X4.here hx rfl (hb hby d13_3) rfl  k_) ?_
    refine own_st (T' := T4) (g' := (mkF m 7 #[rv va, iv (1 : Int32), rv da, iv (1 : Int32), iv (4 : Int32), iv (1 : Int32), iv c0] [(.int (4 : Int32)), (.int (1 : Int32))])) (fun _ k_ => XS.iload X4.here hx rfl (hb hby d13_5) rfl  k_) ?_
    refine own_st (T' := T4) (g' := (mkF m 10 #[rv va, iv (1 : Int32), rv da, iv (1 : Int32), iv (4 : Int32), iv (1 : Int32), iv c0] [])) (fun _ k_ => XS.icmpNo X4.here hx rfl (hb hby d13_7) rfl (tlt (by decide : (1 : Int32) < (4 : Int32))).2.1 k_) ?_
    refine own_st (T' := T4) (g' := (mkF m 11 #[rv va, iv (1 : Int32), rv da, iv (1 : Int32), iv (4 : Int32), iv (1 : Int32), iv c0] [(.ref va)])) (fun _ k_ => XS.aloadN X4.here hx rfl (hb hby d13_10) rfl rfl  k_) ?_
    refine own_st (T' := T4) (g' := (mkF m 12 #[rv va, iv (1 : Int32), rv da, iv (1 : Int32), iv (4 : Int32), iv (1 : Int32), iv c0] [(.int (1 : Int32)), (.ref va)])) (fun _ k_ => XS.iloadN X4.here hx rfl (hb hby d13_11) rfl  k_) ?_
    have f5 := VA.other W4 nad
    obtain ⟨cl6, Ar6, q6, S6, N6, H6, G6⟩ := id f5
    have hin6 : ¬ ((1 : Int32) < 0 ∨ cl6.slots.size ≤ ((1 : Int32)).toNatClampNeg) := inb_of S6 ⟨by decide, by decide⟩
    refine own_st (T' := T4) (g' := (mkF m 13 #[rv va, iv (1 : Int32), rv da, iv (1 : Int32), iv (4 : Int32), iv (1 : Int32), iv c0] [(.int c1)])) (X4.caload hx (j := (1 : Int32)) (v := (.int c1)) (by rw [e4]; exact Ar6.1) (State.isArrayOf_alike hZ.alike Ar6.2.1) Ar6.2.2 hin6 (H6.at hin6 rfl) (g := (mkF m 12 #[rv va, iv (1 : Int32), rv da, iv (1 : Int32), iv (4 : Int32), iv (1 : Int32), iv c0] [(.int (1 : Int32)), (.ref va)])) rfl rfl (hb hby d13_12)) ?_
    clear hin6 G6 H6 N6 S6 q6 Ar6 cl6
    refine own_st (T' := T4) (g' := (mkF m 15 #[rv va, iv (1 : Int32), rv da, iv (1 : Int32), iv (4 : Int32), iv (1 : Int32), iv c1] [])) (fun _ k_ => XS.istore X4.here hx rfl (hb hby d13_13) rfl (l' := #[rv va, iv (1 : Int32), rv da, iv (1 : Int32), iv (4 : Int32), iv (1 : Int32), iv c1]) rfl k_) ?_
    refine own_st (T' := T4) (g' := (mkF m 17 #[rv va, iv (1 : Int32), rv da, iv (1 : Int32), iv (4 : Int32), iv (1 : Int32), iv c1] [(.int c1)])) (fun _ k_ => XS.iload X4.here hx rfl (hb hby d13_15) rfl  k_) ?_
    refine own_st (T' := T4) (g' := (mkF m 20 #[rv va, iv (1 : Int32), rv da, iv (1 : Int32), iv (4 : Int32), iv (1 : Int32), iv c1] [(.int (255 : Int32)), (.int c1)])) (fun _ k_ => XS.sipush X4.here hx rfl (hb hby d13_17) k_) ?_
    by_cases hc7 : (255 : Int32) < c1
    · refine own_st (T' := T4) (g' := (mkF m 23 #[rv va, iv (1 : Int32), rv da, iv (1 : Int32), iv (4 : Int32), iv (1 : Int32), iv c1] [])) (fun _ k_ => XS.icmpNo X4.here hx rfl (hb hby d13_20) rfl (tlt hc7).2.2.2 k_) ?_
      refine own_st (T' := T4) (g' := (mkF m 25 #[rv va, iv (1 : Int32), rv da, iv (1 : Int32), iv (4 : Int32), iv (1 : Int32), iv c1] [(.int (1 : Int32))])) (fun _ k_ => XS.iload X4.here hx rfl (hb hby d13_23) rfl  k_) ?_
      have f8 := (Keep.refl h0 [da]).wr W4 (Or.inl (List.mem_of_getElem? (i := 0) rfl))
      exact own_retI X4 hx hret hlk (hb hby d13_25) (by decide) (by decide) (by rw [e4]; exact ⟨(by unfold own_nd4; rw [if_neg hc2, if_pos hc7]), Nx4, f8, (fun q => absurd q (by unfold own_nd4; rw [if_neg hc2, if_pos hc7]; decide))⟩)
    · refine own_st (T' := T4) (g' := (mkF m 26 #[rv va, iv (1 : Int32), rv da, iv (1 : Int32), iv (4 : Int32), iv (1 : Int32), iv c1] [])) (fun _ k_ => XS.icmpYes X4.here hx rfl (pc0 := 20) (pc' := 26) rfl (hb hby d13_20) rfl (flt hc7).2.2.2 (by decide) (by decide) k_) ?_
      refine own_st (T' := T4) (g' := (mkF m 27 #[rv va, iv (1 : Int32), rv da, iv (1 : Int32), iv (4 : Int32), iv (1 : Int32), iv c1] [(.ref da)])) (fun _ k_ => XS.aloadN X4.here hx rfl (hb hby d13_26) rfl rfl  k_) ?_
      refine own_st (T' := T4) (g' := (mkF m 28 #[rv va, iv (1 : Int32), rv da, iv (1 : Int32), iv (4 : Int32), iv (1 : Int32), iv c1] [(.int (1 : Int32)), (.ref da)])) (fun _ k_ => XS.iloadN X4.here hx rfl (hb hby d13_27) rfl  k_) ?_
      refine own_st (T' := T4) (g' := (mkF m 30 #[rv va, iv (1 : Int32), rv da, iv (1 : Int32), iv (4 : Int32), iv (1 : Int32), iv c1] [(.int c1), (.int (1 : Int32)), (.ref da)])) (fun _ k_ => XS.iload X4.here hx rfl (hb hby d13_28) rfl  k_) ?_
      refine own_st (T' := T4) (g' := (mkF m 31 #[rv va, iv (1 : Int32), rv da, iv (1 : Int32), iv (4 : Int32), iv (1 : Int32), iv c1] [(.int (c1.toInt8.toInt32)), (.int (1 : Int32)), (.ref da)])) (fun _ k_ => XS.i2b X4.here hx rfl (hb hby d13_30) rfl k_) ?_
      obtain ⟨cl9, Ar9, q9, S9, N9, H9, G9⟩ := id Vn4
      have hin9 : ¬ ((1 : Int32) < 0 ∨ cl9.slots.size ≤ ((1 : Int32)).toNatClampNeg) := inb_of S9 ⟨by decide, by decide⟩
      obtain ⟨T10, h10, X10, e10, W10, st10⟩ := stB X4 hx hZ e4 Ar9 (j := (1 : Int32)) hin9 (g := (mkF m 31 #[rv va, iv (1 : Int32), rv da, iv (1 : Int32), iv (4 : Int32), iv (1 : Int32), iv c1] [(.int (c1.toInt8.toInt32)), (.int (1 : Int32)), (.ref da)])) rfl rfl (hb hby d13_31)
      have V10 : Arv Z h10 da kd .byte (4 : Int32) [(.int (c0.toInt8.toInt32)), (.int (nar .byte (c1.toInt8.toInt32))), (.int (0 : Int32)), (.int (0 : Int32))] (.int (0 : Int32)) := Arv.set Ar9 q9 S9 N9 H9 G9 (fits_nar_byte _) W10 1 rfl (Nat.le_of_ble_eq_true rfl)
      have Vn10 : Arv Z h10 da kd .byte (4 : Int32) [(.int (c0.toInt8.toInt32)), (.int (c1.toInt8.toInt32)), (.int (0 : Int32)), (.int (0 : Int32))] (.int (0 : Int32)) := by simpa only [own_bb] using V10
      have Nx10 := Fr.snoc X10 Nx4 fda
      refine own_st (T' := T10) (g' := (mkF m 32 #[rv va, iv (1 : Int32), rv da, iv (1 : Int32), iv (4 : Int32), iv (1 : Int32), iv c1] [])) st10 ?_
      clear hin9 G9 H9 N9 S9 q9 Ar9 cl9 st10
      refine own_st (T' := T10) (g' := (mkF m 35 #[rv va, iv (2 : Int32), rv da, iv (1 : Int32), iv (4 : Int32), iv (1 : Int32), iv c1] [])) (fun _ k_ => XS.iinc X10.here hx rfl (hb hby d13_32) rfl (l' := #[rv va, iv (2 : Int32), rv da, iv (1 : Int32), iv (4 : Int32), iv (1 : Int32), iv c1]) rfl k_) ?_
      refine own_st (T' := T10) (g' := (mkF m 38 #[rv va, iv (2 : Int32), rv da, iv (2 : Int32), iv (4 : Int32), iv (1 : Int32), iv c1] [])) (fun _ k_ => XS.iinc X10.here hx rfl (hb hby d13_35) rfl (l' := #[rv va, iv (2 : Int32), rv da, iv (2 : Int32), iv (4 : Int32), iv (1 : Int32), iv c1]) rfl k_) ?_
      refine own_st (T' := T10) (g' := (mkF m 41 #[rv va, iv (2 : Int32), rv da, iv (2 : Int32), iv (4 : Int32), iv (2 : Int32), iv c1] [])) (fun _ k_ => XS.iinc X10.here hx rfl (hb hby d13_38) rfl (l' := #[rv va, iv (2 : Int32), rv da, iv (2 : Int32), iv (4 : Int32), iv (2 : Int32), iv c1]) rfl k_) ?_
      refine own_st (T' := T10) (g' := (mkF m 3 #[rv va, iv (2 : Int32), rv da, iv (2 : Int32), iv (4 : Int32), iv (2 : Int32), iv c1] [])) (fun _ k_ => XS.goto X10.here hx rfl (pc0 := 41) (pc' := 3) rfl (hb hby d13_41) (by decide) (by decide) k_) ?_
      refine own_st (T' := T10) (g' := (mkF m 5 #[rv va, iv (2 : Int32), rv da, iv (2 : Int32), iv (4 : Int32), iv (2 : Int32), iv c1] [(.int (2 : Int32))])) (fun _ k_ => XS.iload X10.here hx rfl (hb hby d13_3) rfl  k_) ?_
      refine own_st (T' := T10) (g' := (mkF m 7 #[rv va, iv (2 : Int32), rv da, iv (2 : Int32), iv (4 : Int32), iv (2 : Int32), iv c1] [(.int (4 : Int32)), (.int (2 : Int32))])) (fun _ k_ => XS.iload X10.here hx rfl (hb hby d13_5) rfl  k_) ?_
      refine own_st (T' := T10) (g' := (mkF m 10 #[rv va, iv (2 : Int32), rv da, iv (2 : Int32), iv (4 : Int32), iv (2 : Int32), iv c1] [])) (fun _ k_ => XS.icmpNo X10.here hx rfl (hb hby d13_7) rfl (tlt (by decide : (2 : Int32) < (4 : Int32))).2.1 k_) ?_
      refine own_st (T' := T10) (g' := (mkF m 11 #[rv va, iv (2 : Int32), rv da, iv (2 : Int32), iv (4 : Int32), iv (2 : Int32), iv c1] [(.ref va)])) (fun _ k_ => XS.aloadN X10.here hx rfl (hb hby d13_10) rfl rfl  k_) ?_
      refine own_st (T' := T10) (g' := (mkF m 12 #[rv va, iv (2 : Int32), rv da, iv (2 : Int32), iv (4 : Int32), iv (2 : Int32), iv c1] [(.int (2 : Int32)), (.ref va)])) (fun _ k_ => XS.iloadN X10.here hx rfl (hb hby d13_11) rfl  k_) ?_
      have f11 := f5.other W10 nad
      obtain ⟨cl12, Ar12, q12, S12, N12, H12, G12⟩ := id f11
      have hin12 : ¬ ((2 : Int32) < 0 ∨ cl12.slots.size ≤ ((2 : Int32)).toNatClampNeg) := inb_of S12 ⟨by decide, by decide⟩
      refine own_st (T' := T10) (g' := (mkF m 13 #[rv va, iv (2 : Int32), rv da, iv (2 : Int32), iv (4 : Int32), iv (2 : Int32), iv c1] [(.int c2)])) (X10.caload hx (j := (2 : Int32)) (v := (.int c2)) (by rw [e10]; exact Ar12.1) (State.isArrayOf_alike hZ.alike Ar12.2.1) Ar12.2.2 hin12 (H12.at hin12 rfl) (g := (mkF m 12 #[rv va, iv (2 : Int32), rv da, iv (2 : Int32), iv (4 : Int32), iv (2 : Int32), iv c1] [(.int (2 : Int32)), (.ref va)])) rfl rfl (hb hby d13_12)) ?_
      clear hin12 G12 H12 N12 S12 q12 Ar12 cl12
      refine own_st (T' := T10) (g' := (mkF m 15 #[rv va, iv (2 : Int32), rv da, iv (2 : Int32), iv (4 : Int32), iv (2 : Int32), iv c2] [])) (fun _ k_ => XS.istore X10.here hx rfl (hb hby d13_13) rfl (l' := #[rv va, iv (2 : Int32), rv da, iv (2 : Int32), iv (4 : Int32), iv (2 : Int32), iv c2]) rfl k_) ?_
      refine own_st (T' := T10) (g' := (mkF m 17 #[rv va, iv (2 : Int32), rv da, iv (2 : Int32), iv (4 : Int32), iv (2 : Int32), iv c2] [(.int c2)])) (fun _ k_ => XS.iload X10.here hx rfl (hb hby d13_15) rfl  k_) ?_
      refine own_st (T' := T10) (g' := (mkF m 20 #[rv va, iv (2 : Int32), rv da, iv (2 : Int32), iv (4 : Int32), iv (2 : Int32), iv c2] [(.int (255 : Int32)), (.int c2)])) (fun _ k_ => XS.sipush X10.here hx rfl (hb hby d13_17) k_) ?_
      by_cases hc13 : (255 : Int32) < c2
      · refine own_st (T' := T10) (g' := (mkF m 23 #[rv va, iv (2 : Int32), rv da, iv (2 : Int32), iv (4 : Int32), iv (2 : Int32), iv c2] [])) (fun _ k_ => XS.icmpNo X10.here hx rfl (hb hby d13_20) rfl (tlt hc13).2.2.2 k_) ?_
        refine own_st (T' := T10) (g' := (mkF m 25 #[rv va, iv (2 : Int32), rv da, iv (2 : Int32), iv (4 : Int32), iv (2 : Int32), iv c2] [(.int (2 : Int32))])) (fun _ k_ => XS.iload X10.here hx rfl (hb hby d13_23) rfl  k_) ?_
        have f14 := (Keep.refl h0 [da]).wr W4 (Or.inl (List.mem_of_getElem? (i := 0) rfl))
        have f15 := f14.wr W10 (Or.inl (List.mem_of_getElem? (i := 0) rfl))
        exact own_retI X10 hx hret hlk (hb hby d13_25) (by decide) (by decide) (by rw [e10]; exact ⟨(by unfold own_nd4; rw [if_neg hc2, if_neg hc7, if_pos hc13]), Nx10, f15, (fun q => absurd q (by unfold own_nd4; rw [if_neg hc2, if_neg hc7, if_pos hc13]; decide))⟩)
      · refine own_st (T' := T10) (g' := (mkF m 26 #[rv va, iv (2 : Int32), rv da, iv (2 : Int32), iv (4 : Int32), iv (2 : Int32), iv c2] [])) (fun _ k_ => XS.icmpYes X10.here hx rfl (pc0 := 20) (pc' := 26) rfl (hb hby d13_20) rfl (flt hc13).2.2.2 (by decide) (by decide) k_) ?_
        refine own_st (T' := T10) (g' := (mkF m 27 #[rv va, iv (2 : Int32), rv da, iv (2 : Int32), iv (4 : Int32), iv (2 : Int32), iv c2] [(.ref da)])) (fun _ k_ => XS.aloadN X10.here hx rfl (hb hby d13_26) rfl rfl  k_) ?_
        refine own_st (T' := T10) (g' := (mkF m 28 #[rv va, iv (2 : Int32), rv da, iv (2 : Int32), iv (4 : Int32), iv (2 : Int32), iv c2] [(.int (2 : Int32)), (.ref da)])) (fun _ k_ => XS.iloadN X10.here hx rfl (hb hby d13_27) rfl  k_) ?_
        refine own_st (T' := T10) (g' := (mkF m 30 #[rv va, iv (2 : Int32), rv da, iv (2 : Int32), iv (4 : Int32), iv (2 : Int32), iv c2] [(.int c2), (.int (2 : Int32)), (.ref da)])) (fun _ k_ => XS.iload X10.here hx rfl (hb hby d13_28) rfl  k_) ?_
        refine own_st (T' := T10) (g' := (mkF m 31 #[rv va, iv (2 : Int32), rv da, iv (2 : Int32), iv (4 : Int32), iv (2 : Int32), iv c2] [(.int (c2.toInt8.toInt32)), (.int (2 : Int32)), (.ref da)])) (fun _ k_ => XS.i2b X10.here hx rfl (hb hby d13_30) rfl k_) ?_
        obtain ⟨cl16, Ar16, q16, S16, N16, H16, G16⟩ := id Vn10
        have hin16 : ¬ ((2 : Int32) < 0 ∨ cl16.slots.size ≤ ((2 : Int32)).toNatClampNeg) := inb_of S16 ⟨by decide, by decide⟩
        obtain ⟨T17, h17, X17, e17, W17, st17⟩ := stB X10 hx hZ e10 Ar16 (j := (2 : Int32)) hin16 (g := (mkF m 31 #[rv va, iv (2 : Int32), rv da, iv (2 : Int32), iv (4 : Int32), iv (2 : Int32), iv c2] [(.int (c2.toInt8.toInt32)), (.int (2 : Int32)), (.ref da)])) rfl rfl (hb hby d13_31)
        have V17 : Arv Z h17 da kd .byte (4 : Int32) [(.int (c0.toInt8.toInt32)), (.int (c1.toInt8.toInt32)), (.int (nar .byte (c2.toInt8.toInt32))), (.int (0 : Int32))] (.int (0 : Int32)) := Arv.set Ar16 q16 S16 N16 H16 G16 (fits_nar_byte _) W17 2 rfl (Nat.le_of_ble_eq_true rfl)
        have Vn17 : Arv Z h17 da kd .byte (4 : Int32) [(.int (c0.toInt8.toInt32)), (.int (c1.toInt8.toInt32)), (.int (c2.toInt8.toInt32)), (.int (0 : Int32))] (.int (0 : Int32)) := by simpa only [own_bb] using V17
        have Nx17 := Fr.snoc X17 Nx10 fda
        refine own_st (T' := T17) (g' := (mkF m 32 #[rv va, iv (2 : Int32), rv da, iv (2 : Int32), iv (4 : Int32), iv (2 : Int32), iv c2] [])) st17 ?_
        clear hin16 G16 H16 N16 S16 q16 Ar16 cl16 st17
        refine own_st (T' := T17) (g' := (mkF m 35 #[rv va, iv (3 : Int32), rv da, iv (2 : Int32), iv (4 : Int32), iv (2 : Int32), iv c2] [])) (fun _ k_ => XS.iinc X17.here hx rfl (hb hby d13_32) rfl (l' := #[rv va, iv (3 : Int32), rv da, iv (2 : Int32), iv (4 : Int32), iv (2 : Int32), iv c2]) rfl k_) ?_
        refine own_st (T' := T17) (g' := (mkF m 38 #[rv va, iv (3 : Int32), rv da, iv (3 : Int32), iv (4 : Int32), iv (2 : Int32), iv c2] [])) (fun _ k_ => XS.iinc X17.here hx rfl (hb hby d13_35) rfl (l' := #[rv va, iv (3 : Int32), rv da, iv (3 : Int32), iv (4 : Int32), iv (2 : Int32), iv c2]) rfl k_) ?_
        refine own_st (T' := T17) (g' := (mkF m 41 #[rv va, iv (3 : Int32), rv da, iv (3 : Int32), iv (4 : Int32), iv (3 : Int32), iv c2] [])) (fun _ k_ => XS.iinc X17.here hx rfl (hb hby d13_38) rfl (l' := #[rv va, iv (3 : Int32), rv da, iv (3 : Int32), iv (4 : Int32), iv (3 : Int32), iv c2]) rfl k_) ?_
        refine own_st (T' := T17) (g' := (mkF m 3 #[rv va, iv (3 : Int32), rv da, iv (3 : Int32), iv (4 : Int32), iv (3 : Int32), iv c2] [])) (fun _ k_ => XS.goto X17.here hx rfl (pc0 := 41) (pc' := 3) rfl (hb hby d13_41) (by decide) (by decide) k_) ?_
        refine own_st (T' := T17) (g' := (mkF m 5 #[rv va, iv (3 : Int32), rv da, iv (3 : Int32), iv (4 : Int32), iv (3 : Int32), iv c2] [(.int (3 : Int32))])) (fun _ k_ => XS.iload X17.here hx rfl (hb hby d13_3) rfl  k_) ?_
        refine own_st (T' := T17) (g' := (mkF m 7 #[rv va, iv (3 : Int32), rv da, iv (3 : Int32), iv (4 : Int32), iv (3 : Int32), iv c2] [(.int (4 : Int32)), (.int (3 : Int32))])) (fun _ k_ => XS.iload X17.here hx rfl (hb hby d13_5) rfl  k_) ?_
        refine own_st (T' := T17) (g' := (mkF m 10 #[rv va, iv (3 : Int32), rv da, iv (3 : Int32), iv (4 : Int32), iv (3 : Int32), iv c2] [])) (fun _ k_ => XS.icmpNo X17.here hx rfl (hb hby d13_7) rfl (tlt (by decide : (3 : Int32) < (4 : Int32))).2.1 k_) ?_
        refine own_st (T' := T17) (g' := (mkF m 11 #[rv va, iv (3 : Int32), rv da, iv (3 : Int32), iv (4 : Int32), iv (3 : Int32), iv c2] [(.ref va)])) (fun _ k_ => XS.aloadN X17.here hx rfl (hb hby d13_10) rfl rfl  k_) ?_
        refine own_st (T' := T17) (g' := (mkF m 12 #[rv va, iv (3 : Int32), rv da, iv (3 : Int32), iv (4 : Int32), iv (3 : Int32), iv c2] [(.int (3 : Int32)), (.ref va)])) (fun _ k_ => XS.iloadN X17.here hx rfl (hb hby d13_11) rfl  k_) ?_
        have f18 := f11.other W17 nad
        obtain ⟨cl19, Ar19, q19, S19, N19, H19, G19⟩ := id f18
        have hin19 : ¬ ((3 : Int32) < 0 ∨ cl19.slots.size ≤ ((3 : Int32)).toNatClampNeg) := inb_of S19 ⟨by decide, by decide⟩
        refine own_st (T' := T17) (g' := (mkF m 13 #[rv va, iv (3 : Int32), rv da, iv (3 : Int32), iv (4 : Int32), iv (3 : Int32), iv c2] [(.int c3)])) (X17.caload hx (j := (3 : Int32)) (v := (.int c3)) (by rw [e17]; exact Ar19.1) (State.isArrayOf_alike hZ.alike Ar19.2.1) Ar19.2.2 hin19 (H19.at hin19 rfl) (g := (mkF m 12 #[rv va, iv (3 : Int32), rv da, iv (3 : Int32), iv (4 : Int32), iv (3 : Int32), iv c2] [(.int (3 : Int32)), (.ref va)])) rfl rfl (hb hby d13_12)) ?_
        clear hin19 G19 H19 N19 S19 q19 Ar19 cl19
        refine own_st (T' := T17) (g' := (mkF m 15 #[rv va, iv (3 : Int32), rv da, iv (3 : Int32), iv (4 : Int32), iv (3 : Int32), iv c3] [])) (fun _ k_ => XS.istore X17.here hx rfl (hb hby d13_13) rfl (l' := #[rv va, iv (3 : Int32), rv da, iv (3 : Int32), iv (4 : Int32), iv (3 : Int32), iv c3]) rfl k_) ?_
        refine own_st (T' := T17) (g' := (mkF m 17 #[rv va, iv (3 : Int32), rv da, iv (3 : Int32), iv (4 : Int32), iv (3 : Int32), iv c3] [(.int c3)])) (fun _ k_ => XS.iload X17.here hx rfl (hb hby d13_15) rfl  k_) ?_
        refine own_st (T' := T17) (g' := (mkF m 20 #[rv va, iv (3 : Int32), rv da, iv (3 : Int32), iv (4 : Int32), iv (3 : Int32), iv c3] [(.int (255 : Int32)), (.int c3)])) (fun _ k_ => XS.sipush X17.here hx rfl (hb hby d13_17) k_) ?_
        by_cases hc20 : (255 : Int32) < c3
        · refine own_st (T' := T17) (g' := (mkF m 23 #[rv va, iv (3 : Int32), rv da, iv (3 : Int32), iv (4 : Int32), iv (3 : Int32), iv c3] [])) (fun _ k_ => XS.icmpNo X17.here hx rfl (hb hby d13_20) rfl (tlt hc20).2.2.2 k_) ?_
          refine own_st (T' := T17) (g' := (mkF m 25 #[rv va, iv (3 : Int32), rv da, iv (3 : Int32), iv (4 : Int32), iv (3 : Int32), iv c3] [(.int (3 : Int32))])) (fun _ k_ => XS.iload X17.here hx rfl (hb hby d13_23) rfl  k_) ?_
          have f21 := (Keep.refl h0 [da]).wr W4 (Or.inl (List.mem_of_getElem? (i := 0) rfl))
          have f22 := f21.wr W10 (Or.inl (List.mem_of_getElem? (i := 0) rfl))
          have f23 := f22.wr W17 (Or.inl (List.mem_of_getElem? (i := 0) rfl))
          exact own_retI X17 hx hret hlk (hb hby d13_25) (by decide) (by decide) (by rw [e17]; exact ⟨(by unfold own_nd4; rw [if_neg hc2, if_neg hc7, if_neg hc13, if_pos hc20]), Nx17, f23, (fun q => absurd q (by unfold own_nd4; rw [if_neg hc2, if_neg hc7, if_neg hc13, if_pos hc20]; decide))⟩)
        · refine own_st (T' := T17) (g' := (mkF m 26 #[rv va, iv (3 : Int32), rv da, iv (3 : Int32), iv (4 : Int32), iv (3 : Int32), iv c3] [])) (fun _ k_ => XS.icmpYes X17.here hx rfl (pc0 := 20) (pc' := 26) rfl (hb hby d13_20) rfl (flt hc20).2.2.2 (by decide) (by decide) k_) ?_
          refine own_st (T' := T17) (g' := (mkF m 27 #[rv va, iv (3 : Int32), rv da, iv (3 : Int32), iv (4 : Int32), iv (3 : Int32), iv c3] [(.ref da)])) (fun _ k_ => XS.aloadN X17.here hx rfl (hb hby d13_26) rfl rfl  k_) ?_
          refine own_st (T' := T17) (g' := (mkF m 28 #[rv va, iv (3 : Int32), rv da, iv (3 : Int32), iv (4 : Int32), iv (3 : Int32), iv c3] [(.int (3 : Int32)), (.ref da)])) (fun _ k_ => XS.iloadN X17.here hx rfl (hb hby d13_27) rfl  k_) ?_
          refine own_st (T' := T17) (g' := (mkF m 30 #[rv va, iv (3 : Int32), rv da, iv (3 : Int32), iv (4 : Int32), iv (3 : Int32), iv c3] [(.int c3), (.int (3 : Int32)), (.ref da)])) (fun _ k_ => XS.iload X17.here hx rfl (hb hby d13_28) rfl  k_) ?_
          refine own_st (T' := T17) (g' := (mkF m 31 #[rv va, iv (3 : Int32), rv da, iv (3 : Int32), iv (4 : Int32), iv (3 : Int32), iv c3] [(.int (c3.toInt8.toInt32)), (.int (3 : Int32)), (.ref da)])) (fun _ k_ => XS.i2b X17.here hx rfl (hb hby d13_30) rfl k_) ?_
          obtain ⟨cl24, Ar24, q24, S24, N24, H24, G24⟩ := id Vn17
          have hin24 : ¬ ((3 : Int32) < 0 ∨ cl24.slots.size ≤ ((3 : Int32)).toNatClampNeg) := inb_of S24 ⟨by decide, by decide⟩
          obtain ⟨T25, h25, X25, e25, W25, st25⟩ := stB X17 hx hZ e17 Ar24 (j := (3 : Int32)) hin24 (g := (mkF m 31 #[rv va, iv (3 : Int32), rv da, iv (3 : Int32), iv (4 : Int32), iv (3 : Int32), iv c3] [(.int (c3.toInt8.toInt32)), (.int (3 : Int32)), (.ref da)])) rfl rfl (hb hby d13_31)
          have V25 : Arv Z h25 da kd .byte (4 : Int32) [(.int (c0.toInt8.toInt32)), (.int (c1.toInt8.toInt32)), (.int (c2.toInt8.toInt32)), (.int (nar .byte (c3.toInt8.toInt32)))] (.int (0 : Int32)) := Arv.set Ar24 q24 S24 N24 H24 G24 (fits_nar_byte _) W25 3 rfl (Nat.le_of_ble_eq_true rfl)
          have Vn25 : Arv Z h25 da kd .byte (4 : Int32) [(.int (c0.toInt8.toInt32)), (.int (c1.toInt8.toInt32)), (.int (c2.toInt8.toInt32)), (.int (c3.toInt8.toInt32))] (.int (0 : Int32)) := by simpa only [own_bb] using V25
          have Nx25 := Fr.snoc X25 Nx17 fda
          refine own_st (T' := T25) (g' := (mkF m 32 #[rv va, iv (3 : Int32), rv da, iv (3 : Int32), iv (4 : Int32), iv (3 : Int32), iv c3] [])) st25 ?_
          clear hin24 G24 H24 N24 S24 q24 Ar24 cl24 st25
          refine own_st (T' := T25) (g' := (mkF m 35 #[rv va, iv (4 : Int32), rv da, iv (3 : Int32), iv (4 : Int32), iv (3 : Int32), iv c3] [])) (fun _ k_ => XS.iinc X25.here hx rfl (hb hby d13_32) rfl (l' := #[rv va, iv (4 : Int32), rv da, iv (3 : Int32), iv (4 : Int32), iv (3 : Int32), iv c3]) rfl k_) ?_
          refine own_st (T' := T25) (g' := (mkF m 38 #[rv va, iv (4 : Int32), rv da, iv (4 : Int32), iv (4 : Int32), iv (3 : Int32), iv c3] [])) (fun _ k_ => XS.iinc X25.here hx rfl (hb hby d13_35) rfl (l' := #[rv va, iv (4 : Int32), rv da, iv (4 : Int32), iv (4 : Int32), iv (3 : Int32), iv c3]) rfl k_) ?_
          refine own_st (T' := T25) (g' := (mkF m 41 #[rv va, iv (4 : Int32), rv da, iv (4 : Int32), iv (4 : Int32), iv (4 : Int32), iv c3] [])) (fun _ k_ => XS.iinc X25.here hx rfl (hb hby d13_38) rfl (l' := #[rv va, iv (4 : Int32), rv da, iv (4 : Int32), iv (4 : Int32), iv (4 : Int32), iv c3]) rfl k_) ?_
          refine own_st (T' := T25) (g' := (mkF m 3 #[rv va, iv (4 : Int32), rv da, iv (4 : Int32), iv (4 : Int32), iv (4 : Int32), iv c3] [])) (fun _ k_ => XS.goto X25.here hx rfl (pc0 := 41) (pc' := 3) rfl (hb hby d13_41) (by decide) (by decide) k_) ?_
          refine own_st (T' := T25) (g' := (mkF m 5 #[rv va, iv (4 : Int32), rv da, iv (4 : Int32), iv (4 : Int32), iv (4 : Int32), iv c3] [(.int (4 : Int32))])) (fun _ k_ => XS.iload X25.here hx rfl (hb hby d13_3) rfl  k_) ?_
          refine own_st (T' := T25) (g' := (mkF m 7 #[rv va, iv (4 : Int32), rv da, iv (4 : Int32), iv (4 : Int32), iv (4 : Int32), iv c3] [(.int (4 : Int32)), (.int (4 : Int32))])) (fun _ k_ => XS.iload X25.here hx rfl (hb hby d13_5) rfl  k_) ?_
          refine own_st (T' := T25) (g' := (mkF m 44 #[rv va, iv (4 : Int32), rv da, iv (4 : Int32), iv (4 : Int32), iv (4 : Int32), iv c3] [])) (fun _ k_ => XS.icmpYes X25.here hx rfl (pc0 := 7) (pc' := 44) rfl (hb hby d13_7) rfl (flt (by decide : ¬ ((4 : Int32) < (4 : Int32)))).2.1 (by decide) (by decide) k_) ?_
          refine own_st (T' := T25) (g' := (mkF m 46 #[rv va, iv (4 : Int32), rv da, iv (4 : Int32), iv (4 : Int32), iv (4 : Int32), iv c3] [(.int (4 : Int32))])) (fun _ k_ => XS.iload X25.here hx rfl (hb hby d13_44) rfl  k_) ?_
          have f26 := (Keep.refl h0 [da]).wr W4 (Or.inl (List.mem_of_getElem? (i := 0) rfl))
          have f27 := f26.wr W10 (Or.inl (List.mem_of_getElem? (i := 0) rfl))
          have f28 := f27.wr W17 (Or.inl (List.mem_of_getElem? (i := 0) rfl))
          have f29 := f28.wr W25 (Or.inl (List.mem_of_getElem? (i := 0) rfl))
          exact own_retI X25 hx hret hlk (hb hby d13_46) (by decide) (by decide) (by rw [e25]; exact ⟨(by unfold own_nd4; rw [if_neg hc2, if_neg hc7, if_neg hc13, if_neg hc20]), Nx25, f29, (fun _ => Vn25)⟩)
theorem ef_nbl_4 (m : MethodId) (x0 : Int32) : entryFrame m #[(.int x0)] 1 = mkF m 0 #[iv x0] [] := by first | (simp [entryFrame, mkF, argsToLocals, Value.category]; done) | rfl
def Q_nbl_4 (Z : State)  (h0 : Heap) (n0 : Nat) (v : Option Value) (h : Heap) (L : List Loc) : Prop := (v = some (.int (8 : Int32))) ∧ (Fr n0 L) ∧ (h = h0)
set_option maxRecDepth 65536 in
set_option maxHeartbeats 40000000 in
theorem rm_nbl_4 (l : Launch) (Z : State) (a0 : Array Value) (hw : ∀ d ∈ tables_1, d.before a0 Z = true) (ws : List Jvm.Cond)  (h0 : Heap) (n0 : Nat) (O0 : Old Z n0 h0) :
    own_MF l own_m15 (Jvm.Cond.code own_m15 jdk_52_method_3_code 1 (some .int) :: ws) ({ frames := 0, cells := 0, slots := 0, locals := 0 } : Room) #[(.int (4 : Int32))] Z h0 (Q_nbl_4 Z  h0 n0) := by
  refine own_met (own := "java/lang/StringUTF16") (nme := "newBytesLength") rfl rfl (plainFor_of_name pn_3) ?_
  intro p e s m below meth c s₁ hx hby hml hown hnm X0 e0 hret hlk hZ
  have N0 := Fr.nil n0
  rw [ef_nbl_4 m (4 : Int32)]
  refine own_st (T' := s₁) (g' := (mkF m 1 #[iv (4 : Int32)] [(.int (4 : Int32))])) (fun _ k_ => XS.iloadN X0.here hx rfl (hb hby d24_0) rfl  k_) ?_
  refine own_st (T' := s₁) (g' := (mkF m 12 #[iv (4 : Int32)] [])) (fun _ k_ => XS.ifYes X0.here hx rfl (pc0 := 1) (pc' := 12) rfl (hb hby d24_1) rfl ((if0 _ _).trans (flt (by decide : ¬ ((4 : Int32) < (0 : Int32)))).2.1) (by decide) (by decide) k_) ?_
  refine own_st (T' := s₁) (g' := (mkF m 13 #[iv (4 : Int32)] [(.int (4 : Int32))])) (fun _ k_ => XS.iloadN X0.here hx rfl (hb hby d24_12) rfl  k_) ?_
  refine own_st (T' := s₁) (g' := (mkF m 15 #[iv (4 : Int32)] [(.int (1073741823 : Int32)), (.int (4 : Int32))])) (X0.ldcInt hx hown (mvT hZ (wd hw 108 rfl)) (g := (mkF m 13 #[iv (4 : Int32)] [(.int (4 : Int32))])) rfl (hb hby d24_13)) ?_
  refine own_st (T' := s₁) (g' := (mkF m 55 #[iv (4 : Int32)] [])) (fun _ k_ => XS.icmpYes X0.here hx rfl (pc0 := 15) (pc' := 55) rfl (hb hby d24_15) rfl (tlt (by decide : (4 : Int32) < (1073741823 : Int32))).1 (by decide) (by decide) k_) ?_
  refine own_st (T' := s₁) (g' := (mkF m 56 #[iv (4 : Int32)] [(.int (4 : Int32))])) (fun _ k_ => XS.iloadN X0.here hx rfl (hb hby d24_55) rfl  k_) ?_
  refine own_st (T' := s₁) (g' := (mkF m 57 #[iv (4 : Int32)] [(.int (1 : Int32)), (.int (4 : Int32))])) (fun _ k_ => XS.iconst X0.here hx rfl (hb hby d24_56) k_) ?_
  refine own_st (T' := s₁) (g' := (mkF m 58 #[iv (4 : Int32)] [(.int (8 : Int32))])) (fun _ k_ => XS.ishl X0.here hx rfl (hb hby d24_57) rfl k_) ?_
  exact own_retI X0 hx hret hlk (hb hby d24_58) (by decide) (by decide) ⟨rfl, N0, e0⟩
theorem ef_nbf_4 (m : MethodId) (x0 : Int32) : entryFrame m #[(.int x0)] 1 = mkF m 0 #[iv x0] [] := by first | (simp [entryFrame, mkF, argsToLocals, Value.category]; done) | rfl
def Q_nbf_4 (Z : State)  (h0 : Heap) (n0 : Nat) (v : Option Value) (h : Heap) (L : List Loc) : Prop := ∃ (t : Addr) (kb : ClassId), (v = some (.ref t)) ∧ (Fr n0 L) ∧ (Keep h0 h []) ∧ (Arv Z h t kb .byte (8 : Int32) [(.int (0 : Int32)), (.int (0 : Int32)), (.int (0 : Int32)), (.int (0 : Int32)), (.int (0 : Int32)), (.int (0 : Int32)), (.int (0 : Int32)), (.int (0 : Int32))] (.int (0 : Int32))) ∧ (h0.size ≤ t)
set_option maxRecDepth 65536 in
set_option maxHeartbeats 40000000 in
theorem rm_nbf_4 (l : Launch) (Z : State) (a0 : Array Value) (hw : ∀ d ∈ tables_1, d.before a0 Z = true) (ws : List Jvm.Cond)  (h0 : Heap) (n0 : Nat) (O0 : Old Z n0 h0) :
    own_MF l own_m16 (Jvm.Cond.code own_m16 jdk_52_method_2_code 1 (some (.array .byte)) :: ws) ({ frames := 1, cells := 1, slots := 8, locals := 12 } : Room) #[(.int (4 : Int32))] Z h0 (Q_nbf_4 Z  h0 n0) := by
  refine own_met (own := "java/lang/StringUTF16") (nme := "newBytesFor") rfl rfl (plainFor_of_name pn_3) ?_
  intro p e s m below meth c s₁ hx hby hml hown hnm X0 e0 hret hlk hZ
  have N0 := Fr.nil n0
  rw [ef_nbf_4 m (4 : Int32)]
  refine own_st (T' := s₁) (g' := (mkF m 1 #[iv (4 : Int32)] [(.int (4 : Int32))])) (fun _ k_ => XS.iloadN X0.here hx rfl (hb hby d23_0) rfl  k_) ?_
  obtain ⟨_, T1, L1, X1, hQ1, st1⟩ := own_callS X0 hx (y := own_m15) hown (mvT hZ (wd hw 105 rfl)) (mvT hZ (wd hw 106 rfl)) (mvT hZ (wd hw 59 rfl)) (mvT hZ (wd hw 107 rfl)) (by decide) (backOf (W := 0) (rm_nbl_4 l Z a0 hw []  h0 n0 O0) hZ (wd hw 107 rfl) (wd hw 59 rfl) (by decide) (by decide)) (g := (mkF m 1 #[iv (4 : Int32)] [(.int (4 : Int32))])) rfl (by rw [hml]; rfl) (argsL := [(.int (4 : Int32))]) (rest := []) (lenOf pd__I_I rfl) rfl (by show 2 * 0 + _ ≤ _; exact Nat.le_of_eq rfl) (hb hby d23_1) rfl e0 (by decide) (by decide) (c' := 0) (s' := 0) rfl rfl
  obtain ⟨rfl, Nq1, eq1⟩ := hQ1
  have N1 := Fr.app N0 Nq1
  refine own_st (T' := T1) (g' := (mkF m 4 #[iv (4 : Int32)] [(.int (8 : Int32))])) st1 ?_
  clear st1
  obtain ⟨T2, h2, k2, X2, e2, E2, A2, st2⟩ := newP X1 hx hZ (wd hw 29 rfl) eq1 (g := (mkF m 4 #[iv (4 : Int32)] [(.int (8 : Int32))])) rfl (hb hby d23_4) rfl (by decide) (cap := 8) (by decide) (by decide) (by decide) (by decide)
  obtain ⟨b2, g2⟩ : ∃ z, z = h0.size := ⟨_, rfl⟩
  rw [← g2] at A2 st2
  have fr2 : n0 ≤ b2 := Nat.le_trans (own_z O0) (Nat.le_of_eq g2.symm)
  have sz2 : h0.size ≤ b2 := Nat.le_trans (Keep.refl h0 []).1 (Nat.le_of_eq g2.symm)
  have V2 : Arv Z h2 b2 k2 .byte (8 : Int32) [(.int (0 : Int32)), (.int (0 : Int32)), (.int (0 : Int32)), (.int (0 : Int32)), (.int (0 : Int32)), (.int (0 : Int32)), (.int (0 : Int32)), (.int (0 : Int32))] (.int (0 : Int32)) := (Arv.new A2 (by decide)).pad (pad_rep [] (.int (0 : Int32)) 8)
  refine own_st (T' := T2) (g' := (mkF m 6 #[iv (4 : Int32)] [(.ref b2)])) st2 ?_
  clear st2
  have f3 := (Keep.refl h0 []).ext E2
  exact own_retA X2 hx hret rfl rfl hlk (hb hby d23_6) (by decide) (by decide) (by rw [e2]; exact ⟨b2, k2, rfl, N1, f3, V2, sz2⟩)
theorem ef_tby_4 (m : MethodId) (x0 : Addr) (x1 : Int32) (x2 : Int32) : entryFrame m #[(.ref x0), (.int x1), (.int x2)] 5 = mkF m 0 #[rv x0, iv x1, iv x2, .unset, .unset] [] := by first | (simp [entryFrame, mkF, argsToLocals, Value.category]; done) | rfl
def Q_tby_4 (Z : State) (va : Addr) (kc : ClassId) (c0 : Int32) (c1 : Int32) (c2 : Int32) (c3 : Int32) (h0 : Heap) (n0 : Nat) (v : Option Value) (h : Heap) (L : List Loc) : Prop := ∃ (t : Addr) (kb : ClassId), (v = some (.ref t)) ∧ (Fr n0 L) ∧ (Keep h0 h []) ∧ (Arv Z h t kb .byte (8 : Int32) [(.int (own_l16 c0)), (.int (own_h16 c0)), (.int (own_l16 c1)), (.int (own_h16 c1)), (.int (own_l16 c2)), (.int (own_h16 c2)), (.int (own_l16 c3)), (.int (own_h16 c3))] (.int (0 : Int32))) ∧ (h0.size ≤ t)
set_option maxRecDepth 65536 in
set_option maxHeartbeats 40000000 in
theorem rm_tby_4 (l : Launch) (Z : State) (a0 : Array Value) (hw : ∀ d ∈ tables_1, d.before a0 Z = true) (ws : List Jvm.Cond) (va : Addr) (kc : ClassId) (c0 : Int32) (c1 : Int32) (c2 : Int32) (c3 : Int32) (h0 : Heap) (n0 : Nat) (O0 : Old Z n0 h0) (VA : Arv Z h0 va kc .char (4 : Int32) [(.int c0), (.int c1), (.int c2), (.int c3)] (.int (0 : Int32))) (SA : Sta Z Z.heap "java/lang/StringUTF16" "$assertionsDisabled" "Z" (.int (1 : Int32))) (SHI : Sta Z Z.heap "java/lang/StringUTF16" "HI_BYTE_SHIFT" "I" (.int (0 : Int32))) (SLO : Sta Z Z.heap "java/lang/StringUTF16" "LO_BYTE_SHIFT" "I" (.int (8 : Int32))) :
    own_MF l own_m17 (Jvm.Cond.code own_m17 jdk_52_method_14_code 5 (some (.array .byte)) :: ws) ({ frames := 2, cells := 1, slots := 8, locals := 24 } : Room) #[(.ref va), (.int (0 : Int32)), (.int (4 : Int32))] Z h0 (Q_tby_4 Z va kc c0 c1 c2 c3 h0 n0) := by
  refine own_met (own := "java/lang/StringUTF16") (nme := "toBytes") rfl rfl (plainFor_of_name pn_3) ?_
  intro p e s m below meth c s₁ hx hby hml hown hnm X0 e0 hret hlk hZ
  have N0 := Fr.nil n0
  rw [ef_tby_4 m va (0 : Int32) (4 : Int32)]
  refine own_st (T' := s₁) (g' := (mkF m 1 #[rv va, iv (0 : Int32), iv (4 : Int32), .unset, .unset] [(.int (4 : Int32))])) (fun _ k_ => XS.iloadN X0.here hx rfl (hb hby d22_0) rfl  k_) ?_
  obtain ⟨_, T1, L1, X1, hQ1, st1⟩ := own_callS X0 hx (y := own_m16) hown (mvT hZ (wd hw 102 rfl)) (mvT hZ (wd hw 103 rfl)) (mvT hZ (wd hw 59 rfl)) (mvT hZ (wd hw 104 rfl)) (by decide) (backOf (W := 0) (rm_nbf_4 l Z a0 hw []  h0 n0 O0) hZ (wd hw 104 rfl) (wd hw 59 rfl) (by decide) (by decide)) (g := (mkF m 1 #[rv va, iv (0 : Int32), iv (4 : Int32), .unset, .unset] [(.int (4 : Int32))])) rfl (by rw [hml]; rfl) (argsL := [(.int (4 : Int32))]) (rest := []) (lenOf pd__I__B rfl) rfl (by show 2 * 0 + _ ≤ _; exact Nat.le_of_eq rfl) (hb hby d22_1) rfl e0 (by decide) (by decide) (c' := 1) (s' := 8) rfl rfl
  obtain ⟨t1, kb1, rfl, Nq1, K1, fq1_0, xq1_fresh_t⟩ := hQ1
  have N1 := Fr.app N0 Nq1
  refine own_st (T' := T1) (g' := (mkF m 4 #[rv va, iv (0 : Int32), iv (4 : Int32), .unset, .unset] [(.ref t1)])) st1 ?_
  clear st1
  refine own_st (T' := T1) (g' := (mkF m 5 #[rv va, iv (0 : Int32), iv (4 : Int32), rv t1, .unset] [])) (fun _ k_ => XS.astoreN X1.here hx rfl (hb hby d22_4) rfl rfl (l' := #[rv va, iv (0 : Int32), iv (4 : Int32), rv t1, .unset]) rfl k_) ?_
  refine own_st (T' := T1) (g' := (mkF m 6 #[rv va, iv (0 : Int32), iv (4 : Int32), rv t1, .unset] [(.int (0 : Int32))])) (fun _ k_ => XS.iconst X1.here hx rfl (hb hby d22_5) k_) ?_
  refine own_st (T' := T1) (g' := (mkF m 8 #[rv va, iv (0 : Int32), iv (4 : Int32), rv t1, iv (0 : Int32)] [])) (fun _ k_ => XS.istore X1.here hx rfl (hb hby d22_6) rfl (l' := #[rv va, iv (0 : Int32), iv (4 : Int32), rv t1, iv (0 : Int32)]) rfl k_) ?_
  refine own_st (T' := T1) (g' := (mkF m 10 #[rv va, iv (0 : Int32), iv (4 : Int32), rv t1, iv (0 : Int32)] [(.int (0 : Int32))])) (fun _ k_ => XS.iload X1.here hx rfl (hb hby d22_8) rfl  k_) ?_
  refine own_st (T' := T1) (g' := (mkF m 11 #[rv va, iv (0 : Int32), iv (4 : Int32), rv t1, iv (0 : Int32)] [(.int (4 : Int32)), (.int (0 : Int32))])) (fun _ k_ => XS.iloadN X1.here hx rfl (hb hby d22_10) rfl  k_) ?_
  refine own_st (T' := T1) (g' := (mkF m 14 #[rv va, iv (0 : Int32), iv (4 : Int32), rv t1, iv (0 : Int32)] [])) (fun _ k_ => XS.icmpNo X1.here hx rfl (hb hby d22_11) rfl (tlt (by decide : (0 : Int32) < (4 : Int32))).2.1 k_) ?_
  refine own_st (T' := T1) (g' := (mkF m 15 #[rv va, iv (0 : Int32), iv (4 : Int32), rv t1, iv (0 : Int32)] [(.ref t1)])) (fun _ k_ => XS.aloadN X1.here hx rfl (hb hby d22_14) rfl rfl  k_) ?_
  refine own_st (T' := T1) (g' := (mkF m 17 #[rv va, iv (0 : Int32), iv (4 : Int32), rv t1, iv (0 : Int32)] [(.int (0 : Int32)), (.ref t1)])) (fun _ k_ => XS.iload X1.here hx rfl (hb hby d22_15) rfl  k_) ?_
  refine own_st (T' := T1) (g' := (mkF m 18 #[rv va, iv (0 : Int32), iv (4 : Int32), rv t1, iv (0 : Int32)] [(.ref va), (.int (0 : Int32)), (.ref t1)])) (fun _ k_ => XS.aloadN X1.here hx rfl (hb hby d22_17) rfl rfl  k_) ?_
  refine own_st (T' := T1) (g' := (mkF m 19 #[rv va, iv (0 : Int32), iv (4 : Int32), rv t1, iv (0 : Int32)] [(.int (0 : Int32)), (.ref va), (.int (0 : Int32)), (.ref t1)])) (fun _ k_ => XS.iloadN X1.here hx rfl (hb hby d22_18) rfl  k_) ?_
  have f2 := VA.keep K1 nin0
  obtain ⟨cl3, Ar3, q3, S3, N3, H3, G3⟩ := id f2
  have hin3 : ¬ ((0 : Int32) < 0 ∨ cl3.slots.size ≤ ((0 : Int32)).toNatClampNeg) := inb_of S3 ⟨by decide, by decide⟩
  refine own_st (T' := T1) (g' := (mkF m 20 #[rv va, iv (0 : Int32), iv (4 : Int32), rv t1, iv (0 : Int32)] [(.int c0), (.int (0 : Int32)), (.ref t1)])) (X1.caload hx (j := (0 : Int32)) (v := (.int c0)) Ar3.1 (State.isArrayOf_alike hZ.alike Ar3.2.1) Ar3.2.2 hin3 (H3.at hin3 rfl) (g := (mkF m 19 #[rv va, iv (0 : Int32), iv (4 : Int32), rv t1, iv (0 : Int32)] [(.int (0 : Int32)), (.ref va), (.int (0 : Int32)), (.ref t1)])) rfl rfl (hb hby d22_19)) ?_
  clear hin3 G3 H3 N3 S3 q3 Ar3 cl3
  have f4 := O0.keep K1 all0
  obtain ⟨_, T5, L5, X5, hQ5, st5⟩ := own_callS X1 hx (y := own_m11) hown (mvT hZ (wd hw 109 rfl)) (mvT hZ (wd hw 110 rfl)) (mvT hZ (wd hw 59 rfl)) (mvT hZ (wd hw 111 rfl)) (by decide) (backOf (W := 0) (rm_putc l Z a0 hw [] t1 kb1 (8 : Int32) [(.int (0 : Int32)), (.int (0 : Int32)), (.int (0 : Int32)), (.int (0 : Int32)), (.int (0 : Int32)), (.int (0 : Int32)), (.int (0 : Int32)), (.int (0 : Int32))] (0 : Int32) 0 c0 T1.heap n0 f4 fq1_0 (Nat.le_trans (own_z O0) xq1_fresh_t) rfl (Nat.le_of_ble_eq_true rfl) (by decide) (by decide) (by decide) SA SHI SLO) hZ (wd hw 111 rfl) (wd hw 59 rfl) (by decide) (by decide)) (g := (mkF m 20 #[rv va, iv (0 : Int32), iv (4 : Int32), rv t1, iv (0 : Int32)] [(.int c0), (.int (0 : Int32)), (.ref t1)])) rfl (by rw [hml]; rfl) (argsL := [(.ref t1), (.int (0 : Int32)), (.int c0)]) (rest := []) (lenOf pd___BII_V rfl) rfl (by show 2 * 0 + _ ≤ _; exact Nat.le_of_eq rfl) (hb hby d22_20) rfl rfl (by decide) (by decide) (c' := 1) (s' := 8) rfl rfl
  obtain ⟨rfl, Nq5, K5, fq5_0⟩ := hQ5
  have N5 := Fr.app N1 Nq5
  refine own_st (T' := T5) (g' := (mkF m 23 #[rv va, iv (0 : Int32), iv (4 : Int32), rv t1, iv (0 : Int32)] [])) st5 ?_
  clear st5
  have Vp5 : Arv Z T5.heap t1 kb1 .byte (8 : Int32) [(.int (own_l16 c0)), (.int (own_h16 c0)), (.int (0 : Int32)), (.int (0 : Int32)), (.int (0 : Int32)), (.int (0 : Int32)), (.int (0 : Int32)), (.int (0 : Int32))] (.int (0 : Int32)) := fq5_0
  refine own_st (T' := T5) (g' := (mkF m 26 #[rv va, iv (1 : Int32), iv (4 : Int32), rv t1, iv (0 : Int32)] [])) (fun _ k_ => XS.iinc X5.here hx rfl (hb hby d22_23) rfl (l' := #[rv va, iv (1 : Int32), iv (4 : Int32), rv t1, iv (0 : Int32)]) rfl k_) ?_
  refine own_st (T' := T5) (g' := (mkF m 29 #[rv va, iv (1 : Int32), iv (4 : Int32), rv t1, iv (1 : Int32)] [])) (fun _ k_ => XS.iinc X5.here hx rfl (hb hby d22_26) rfl (l' := #[rv va, iv (1 : Int32), iv (4 : Int32), rv t1, iv (1 : Int32)]) rfl k_) ?_
  refine own_st (T' := T5) (g' := (mkF m 8 #[rv va, iv (1 : Int32), iv (4 : Int32), rv t1, iv (1 : Int32)] [])) (fun _ k_ => XS.goto X5.here hx rfl (pc0 := 29) (pc' := 8) rfl (hb hby d22_29) (by decide) (by decide) k_) ?_
  refine own_st (T' := T5) (g' := (mkF m 10 #[rv va, iv (1 : Int32), iv (4 : Int32), rv t1, iv (1 : Int32)] [(.int (1 : Int32))])) (fun _ k_ => XS.iload X5.here hx rfl (hb hby d22_8) rfl  k_) ?_
  refine own_st (T' := T5) (g' := (mkF m 11 #[rv va, iv (1 : Int32), iv (4 : Int32), rv t1, iv (1 : Int32)] [(.int (4 : Int32)), (.int (1 : Int32))])) (fun _ k_ => XS.iloadN X5.here hx rfl (hb hby d22_10) rfl  k_) ?_
  refine own_st (T' := T5) (g' := (mkF m 14 #[rv va, iv (1 : Int32), iv (4 : Int32), rv t1, iv (1 : Int32)] [])) (fun _ k_ => XS.icmpNo X5.here hx rfl (hb hby d22_11) rfl (tlt (by decide : (1 : Int32) < (4 : Int32))).2.1 k_) ?_
  refine own_st (T' := T5) (g' := (mkF m 15 #[rv va, iv (1 : Int32), iv (4 : Int32), rv t1, iv (1 : Int32)] [(.ref t1)])) (fun _ k_ => XS.aloadN X5.here hx rfl (hb hby d22_14) rfl rfl  k_) ?_
  refine own_st (T' := T5) (g' := (mkF m 17 #[rv va, iv (1 : Int32), iv (4 : Int32), rv t1, iv (1 : Int32)] [(.int (1 : Int32)), (.ref t1)])) (fun _ k_ => XS.iload X5.here hx rfl (hb hby d22_15) rfl  k_) ?_
  refine own_st (T' := T5) (g' := (mkF m 18 #[rv va, iv (1 : Int32), iv (4 : Int32), rv t1, iv (1 : Int32)] [(.ref va), (.int (1 : Int32)), (.ref t1)])) (fun _ k_ => XS.aloadN X5.here hx rfl (hb hby d22_17) rfl rfl  k_) ?_
  refine own_st (T' := T5) (g' := (mkF m 19 #[rv va, iv (1 : Int32), iv (4 : Int32), rv t1, iv (1 : Int32)] [(.int (1 : Int32)), (.ref va), (.int (1 : Int32)), (.ref t1)])) (fun _ k_ => XS.iloadN X5.here hx rfl (hb hby d22_18) rfl  k_) ?_
  have ne6 : va ≠ t1 := Nat.ne_of_lt (Nat.lt_of_lt_of_le VA.lt xq1_fresh_t)
  have f7 := f2.keep K5 (ninS ne6 nin0)
  obtain ⟨cl8, Ar8, q8, S8, N8, H8, G8⟩ := id f7
  have hin8 : ¬ ((1 : Int32) < 0 ∨ cl8.slots.size ≤ ((1 : Int32)).toNatClampNeg) := inb_of S8 ⟨by decide, by decide⟩
  refine own_st (T' := T5) (g' := (mkF m 20 #[rv va, iv (1 : Int32), iv (4 : Int32), rv t1, iv (1 : Int32)] [(.int c1), (.int (1 : Int32)), (.ref t1)])) (X5.caload hx (j := (1 : Int32)) (v := (.int c1)) Ar8.1 (State.isArrayOf_alike hZ.alike Ar8.2.1) Ar8.2.2 hin8 (H8.at hin8 rfl) (g := (mkF m 19 #[rv va, iv (1 : Int32), iv (4 : Int32), rv t1, iv (1 : Int32)] [(.int (1 : Int32)), (.ref va), (.int (1 : Int32)), (.ref t1)])) rfl rfl (hb hby d22_19)) ?_
  clear hin8 G8 H8 N8 S8 q8 Ar8 cl8
  have f9 := f4.keep K5 (allS (Nat.le_trans (own_z O0) xq1_fresh_t) all0)
  obtain ⟨_, T10, L10, X10, hQ10, st10⟩ := own_callS X5 hx (y := own_m11) hown (mvT hZ (wd hw 109 rfl)) (mvT hZ (wd hw 110 rfl)) (mvT hZ (wd hw 59 rfl)) (mvT hZ (wd hw 111 rfl)) (by decide) (backOf (W := 0) (rm_putc l Z a0 hw [] t1 kb1 (8 : Int32) [(.int (own_l16 c0)), (.int (own_h16 c0)), (.int (0 : Int32)), (.int (0 : Int32)), (.int (0 : Int32)), (.int (0 : Int32)), (.int (0 : Int32)), (.int (0 : Int32))] (1 : Int32) 2 c1 T5.heap n0 f9 Vp5 (Nat.le_trans (own_z O0) xq1_fresh_t) rfl (Nat.le_of_ble_eq_true rfl) (by decide) (by decide) (by decide) SA SHI SLO) hZ (wd hw 111 rfl) (wd hw 59 rfl) (by decide) (by decide)) (g := (mkF m 20 #[rv va, iv (1 : Int32), iv (4 : Int32), rv t1, iv (1 : Int32)] [(.int c1), (.int (1 : Int32)), (.ref t1)])) rfl (by rw [hml]; rfl) (argsL := [(.ref t1), (.int (1 : Int32)), (.int c1)]) (rest := []) (lenOf pd___BII_V rfl) rfl (by show 2 * 0 + _ ≤ _; exact Nat.le_of_eq rfl) (hb hby d22_20) rfl rfl (by decide) (by decide) (c' := 1) (s' := 8) rfl rfl
  obtain ⟨rfl, Nq10, K10, fq10_0⟩ := hQ10
  have N10 := Fr.app N5 Nq10
  refine own_st (T' := T10) (g' := (mkF m 23 #[rv va, iv (1 : Int32), iv (4 : Int32), rv t1, iv (1 : Int32)] [])) st10 ?_
  clear st10
  have Vp10 : Arv Z T10.heap t1 kb1 .byte (8 : Int32) [(.int (own_l16 c0)), (.int (own_h16 c0)), (.int (own_l16 c1)), (.int (own_h16 c1)), (.int (0 : Int32)), (.int (0 : Int32)), (.int (0 : Int32)), (.int (0 : Int32))] (.int (0 : Int32)) := fq10_0
  refine own_st (T' := T10) (g' := (mkF m 26 #[rv va, iv (2 : Int32), iv (4 : Int32), rv t1, iv (1 : Int32)] [])) (fun _ k_ => XS.iinc X10.here hx rfl (hb hby d22_23) rfl (l' := #[rv va, iv (2 : Int32), iv (4 : Int32), rv t1, iv (1 : Int32)]) rfl k_) ?_
  refine own_st (T' := T10) (g' := (mkF m 29 #[rv va, iv (2 : Int32), iv (4 : Int32), rv t1, iv (2 : Int32)] [])) (fun _ k_ => XS.iinc X10.here hx rfl (hb hby d22_26) rfl (l' := #[rv va, iv (2 : Int32), iv (4 : Int32), rv t1, iv (2 : Int32)]) rfl k_) ?_
  refine own_st (T' := T10) (g' := (mkF m 8 #[rv va, iv (2 : Int32), iv (4 : Int32), rv t1, iv (2 : Int32)] [])) (fun _ k_ => XS.goto X10.here hx rfl (pc0 := 29) (pc' := 8) rfl (hb hby d22_29) (by decide) (by decide) k_) ?_
  refine own_st (T' := T10) (g' := (mkF m 10 #[rv va, iv (2 : Int32), iv (4 : Int32), rv t1, iv (2 : Int32)] [(.int (2 : Int32))])) (fun _ k_ => XS.iload X10.here hx rfl (hb hby d22_8) rfl  k_) ?_
  refine own_st (T' := T10) (g' := (mkF m 11 #[rv va, iv (2 : Int32), iv (4 : Int32), rv t1, iv (2 : Int32)] [(.int (4 : Int32)), (.int (2 : Int32))])) (fun _ k_ => XS.iloadN X10.here hx rfl (hb hby d22_10) rfl  k_) ?_
  refine own_st (T' := T10) (g' := (mkF m 14 #[rv va, iv (2 : Int32), iv (4 : Int32), rv t1, iv (2 : Int32)] [])) (fun _ k_ => XS.icmpNo X10.here hx rfl (hb hby d22_11) rfl (tlt (by decide : (2 : Int32) < (4 : Int32))).2.1 k_) ?_
  refine own_st (T' := T10) (g' := (mkF m 15 #[rv va, iv (2 : Int32), iv (4 : Int32), rv t1, iv (2 : Int32)] [(.ref t1)])) (fun _ k_ => XS.aloadN X10.here hx rfl (hb hby d22_14) rfl rfl  k_) ?_
  refine own_st (T' := T10) (g' := (mkF m 17 #[rv va, iv (2 : Int32), iv (4 : Int32), rv t1, iv (2 : Int32)] [(.int (2 : Int32)), (.ref t1)])) (fun _ k_ => XS.iload X10.here hx rfl (hb hby d22_15) rfl  k_) ?_
  refine own_st (T' := T10) (g' := (mkF m 18 #[rv va, iv (2 : Int32), iv (4 : Int32), rv t1, iv (2 : Int32)] [(.ref va), (.int (2 : Int32)), (.ref t1)])) (fun _ k_ => XS.aloadN X10.here hx rfl (hb hby d22_17) rfl rfl  k_) ?_
  refine own_st (T' := T10) (g' := (mkF m 19 #[rv va, iv (2 : Int32), iv (4 : Int32), rv t1, iv (2 : Int32)] [(.int (2 : Int32)), (.ref va), (.int (2 : Int32)), (.ref t1)])) (fun _ k_ => XS.iloadN X10.here hx rfl (hb hby d22_18) rfl  k_) ?_
  have f11 := f7.keep K10 (ninS ne6 nin0)
  obtain ⟨cl12, Ar12, q12, S12, N12, H12, G12⟩ := id f11
  have hin12 : ¬ ((2 : Int32) < 0 ∨ cl12.slots.size ≤ ((2 : Int32)).toNatClampNeg) := inb_of S12 ⟨by decide, by decide⟩
  refine own_st (T' := T10) (g' := (mkF m 20 #[rv va, iv (2 : Int32), iv (4 : Int32), rv t1, iv (2 : Int32)] [(.int c2), (.int (2 : Int32)), (.ref t1)])) (X10.caload hx (j := (2 : Int32)) (v := (.int c2)) Ar12.1 (State.isArrayOf_alike hZ.alike Ar12.2.1) Ar12.2.2 hin12 (H12.at hin12 rfl) (g := (mkF m 19 #[rv va, iv (2 : Int32), iv (4 : Int32), rv t1, iv (2 : Int32)] [(.int (2 : Int32)), (.ref va), (.int (2 : Int32)), (.ref t1)])) rfl rfl (hb hby d22_19)) ?_
  clear hin12 G12 H12 N12 S12 q12 Ar12 cl12
  have f13 := f9.keep K10 (allS (Nat.le_trans (own_z O0) xq1_fresh_t) all0)
  obtain ⟨_, T14, L14, X14, hQ14, st14⟩ := own_callS X10 hx (y := own_m11) hown (mvT hZ (wd hw 109 rfl)) (mvT hZ (wd hw 110 rfl)) (mvT hZ (wd hw 59 rfl)) (mvT hZ (wd hw 111 rfl)) (by decide) (backOf (W := 0) (rm_putc l Z a0 hw [] t1 kb1 (8 : Int32) [(.int (own_l16 c0)), (.int (own_h16 c0)), (.int (own_l16 c1)), (.int (own_h16 c1)), (.int (0 : Int32)), (.int (0 : Int32)), (.int (0 : Int32)), (.int (0 : Int32))] (2 : Int32) 4 c2 T10.heap n0 f13 Vp10 (Nat.le_trans (own_z O0) xq1_fresh_t) rfl (Nat.le_of_ble_eq_true rfl) (by decide) (by decide) (by decide) SA SHI SLO) hZ (wd hw 111 rfl) (wd hw 59 rfl) (by decide) (by decide)) (g := (mkF m 20 #[rv va, iv (2 : Int32), iv (4 : Int32), rv t1, iv (2 : Int32)] [(.int c2), (.int (2 : Int32)), (.ref t1)])) rfl (by rw [hml]; rfl) (argsL := [(.ref t1), (.int (2 : Int32)), (.int c2)]) (rest := []) (lenOf pd___BII_V rfl) rfl (by show 2 * 0 + _ ≤ _; exact Nat.le_of_eq rfl) (hb hby d22_20) rfl rfl (by decide) (by decide) (c' := 1) (s' := 8) rfl rfl
  obtain ⟨rfl, Nq14, K14, fq14_0⟩ := hQ14
  have N14 := Fr.app N10 Nq14
  refine own_st (T' := T14) (g' := (mkF m 23 #[rv va, iv (2 : Int32), iv (4 : Int32), rv t1, iv (2 : Int32)] [])) st14 ?_
  clear st14
  have Vp14 : Arv Z T14.heap t1 kb1 .byte (8 : Int32) [(.int (own_l16 c0)), (.int (own_h16 c0)), (.int (own_l16 c1)), (.int (own_h16 c1)), (.int (own_l16 c2)), (.int (own_h16 c2)), (.int (0 : Int32)), (.int (0 : Int32))] (.int (0 : Int32)) := fq14_0
  refine own_st (T' := T14) (g' := (mkF m 26 #[rv va, iv (3 : Int32), iv (4 : Int32), rv t1, iv (2 : Int32)] [])) (fun _ k_ => XS.iinc X14.here hx rfl (hb hby d22_23) rfl (l' := #[rv va, iv (3 : Int32), iv (4 : Int32), rv t1, iv (2 : Int32)]) rfl k_) ?_
  refine own_st (T' := T14) (g' := (mkF m 29 #[rv va, iv (3 : Int32), iv (4 : Int32), rv t1, iv (3 : Int32)] [])) (fun _ k_ => XS.iinc X14.here hx rfl (hb hby d22_26) rfl (l' := #[rv va, iv (3 : Int32), iv (4 : Int32), rv t1, iv (3 : Int32)]) rfl k_) ?_
  refine own_st (T' := T14) (g' := (mkF m 8 #[rv va, iv (3 : Int32), iv (4 : Int32), rv t1, iv (3 : Int32)] [])) (fun _ k_ => XS.goto X14.here hx rfl (pc0 := 29) (pc' := 8) rfl (hb hby d22_29) (by decide) (by decide) k_) ?_
  refine own_st (T' := T14) (g' := (mkF m 10 #[rv va, iv (3 : Int32), iv (4 : Int32), rv t1, iv (3 : Int32)] [(.int (3 : Int32))])) (fun _ k_ => XS.iload X14.here hx rfl (hb hby d22_8) rfl  k_) ?_
  refine own_st (T' := T14) (g' := (mkF m 11 #[rv va, iv (3 : Int32), iv (4 : Int32), rv t1, iv (3 : Int32)] [(.int (4 : Int32)), (.int (3 : Int32))])) (fun _ k_ => XS.iloadN X14.here hx rfl (hb hby d22_10) rfl  k_) ?_
  refine own_st (T' := T14) (g' := (mkF m 14 #[rv va, iv (3 : Int32), iv (4 : Int32), rv t1, iv (3 : Int32)] [])) (fun _ k_ => XS.icmpNo X14.here hx rfl (hb hby d22_11) rfl (tlt (by decide : (3 : Int32) < (4 : Int32))).2.1 k_) ?_
  refine own_st (T' := T14) (g' := (mkF m 15 #[rv va, iv (3 : Int32), iv (4 : Int32), rv t1, iv (3 : Int32)] [(.ref t1)])) (fun _ k_ => XS.aloadN X14.here hx rfl (hb hby d22_14) rfl rfl  k_) ?_
  refine own_st (T' := T14) (g' := (mkF m 17 #[rv va, iv (3 : Int32), iv (4 : Int32), rv t1, iv (3 : Int32)] [(.int (3 : Int32)), (.ref t1)])) (fun _ k_ => XS.iload X14.here hx rfl (hb hby d22_15) rfl  k_) ?_
  refine own_st (T' := T14) (g' := (mkF m 18 #[rv va, iv (3 : Int32), iv (4 : Int32), rv t1, iv (3 : Int32)] [(.ref va), (.int (3 : Int32)), (.ref t1)])) (fun _ k_ => XS.aloadN X14.here hx rfl (hb hby d22_17) rfl rfl  k_) ?_
  refine own_st (T' := T14) (g' := (mkF m 19 #[rv va, iv (3 : Int32), iv (4 : Int32), rv t1, iv (3 : Int32)] [(.int (3 : Int32)), (.ref va), (.int (3 : Int32)), (.ref t1)])) (fun _ k_ => XS.iloadN X14.here hx rfl (hb hby d22_18) rfl  k_) ?_
  have f15 := f11.keep K14 (ninS ne6 nin0)
  obtain ⟨cl16, Ar16, q16, S16, N16, H16, G16⟩ := id f15
  have hin16 : ¬ ((3 : Int32) < 0 ∨ cl16.slots.size ≤ ((3 : Int32)).toNatClampNeg) := inb_of S16 ⟨by decide, by decide⟩
  refine own_st (T' := T14) (g' := (mkF m 20 #[rv va, iv (3 : Int32), iv (4 : Int32), rv t1, iv (3 : Int32)] [(.int c3), (.int (3 : Int32)), (.ref t1)])) (X14.caload hx (j := (3 : Int32)) (v := (.int c3)) Ar16.1 (State.isArrayOf_alike hZ.alike Ar16.2.1) Ar16.2.2 hin16 (H16.at hin16 rfl) (g := (mkF m 19 #[rv va, iv (3 : Int32), iv (4 : Int32), rv t1, iv (3 : Int32)] [(.int (3 : Int32)), (.ref va), (.int (3 : Int32)), (.ref t1)])) rfl rfl (hb hby d22_19)) ?_
  clear hin16 G16 H16 N16 S16 q16 Ar16 cl16
  have f17 := f13.keep K14 (allS (Nat.le_trans (own_z O0) xq1_fresh_t) all0)
  obtain ⟨_, T18, L18, X18, hQ18, st18⟩ := own_callS X14 hx (y := own_m11) hown (mvT hZ (wd hw 109 rfl)) (mvT hZ (wd hw 110 rfl)) (mvT hZ (wd hw 59 rfl)) (mvT hZ (wd hw 111 rfl)) (by decide) (backOf (W := 0) (rm_putc l Z a0 hw [] t1 kb1 (8 : Int32) [(.int (own_l16 c0)), (.int (own_h16 c0)), (.int (own_l16 c1)), (.int (own_h16 c1)), (.int (own_l16 c2)), (.int (own_h16 c2)), (.int (0 : Int32)), (.int (0 : Int32))] (3 : Int32) 6 c3 T14.heap n0 f17 Vp14 (Nat.le_trans (own_z O0) xq1_fresh_t) rfl (Nat.le_of_ble_eq_true rfl) (by decide) (by decide) (by decide) SA SHI SLO) hZ (wd hw 111 rfl) (wd hw 59 rfl) (by decide) (by decide)) (g := (mkF m 20 #[rv va, iv (3 : Int32), iv (4 : Int32), rv t1, iv (3 : Int32)] [(.int c3), (.int (3 : Int32)), (.ref t1)])) rfl (by rw [hml]; rfl) (argsL := [(.ref t1), (.int (3 : Int32)), (.int c3)]) (rest := []) (lenOf pd___BII_V rfl) rfl (by show 2 * 0 + _ ≤ _; exact Nat.le_of_eq rfl) (hb hby d22_20) rfl rfl (by decide) (by decide) (c' := 1) (s' := 8) rfl rfl
  obtain ⟨rfl, Nq18, K18, fq18_0⟩ := hQ18
  have N18 := Fr.app N14 Nq18
  refine own_st (T' := T18) (g' := (mkF m 23 #[rv va, iv (3 : Int32), iv (4 : Int32), rv t1, iv (3 : Int32)] [])) st18 ?_
  clear st18
  have Vp18 : Arv Z T18.heap t1 kb1 .byte (8 : Int32) [(.int (own_l16 c0)), (.int (own_h16 c0)), (.int (own_l16 c1)), (.int (own_h16 c1)), (.int (own_l16 c2)), (.int (own_h16 c2)), (.int (own_l16 c3)), (.int (own_h16 c3))] (.int (0 : Int32)) := fq18_0
  refine own_st (T' := T18) (g' := (mkF m 26 #[rv va, iv (4 : Int32), iv (4 : Int32), rv t1, iv (3 : Int32)] [])) (fun _ k_ => XS.iinc X18.here hx rfl (hb hby d22_23) rfl (l' := #[rv va, iv (4 : Int32), iv (4 : Int32), rv t1, iv (3 : Int32)]) rfl k_) ?_
  refine own_st (T' := T18) (g' := (mkF m 29 #[rv va, iv (4 : Int32), iv (4 : Int32), rv t1, iv (4 : Int32)] [])) (fun _ k_ => XS.iinc X18.here hx rfl (hb hby d22_26) rfl (l' := #[rv va, iv (4 : Int32), iv (4 : Int32), rv t1, iv (4 : Int32)]) rfl k_) ?_
  refine own_st (T' := T18) (g' := (mkF m 8 #[rv va, iv (4 : Int32), iv (4 : Int32), rv t1, iv (4 : Int32)] [])) (fun _ k_ => XS.goto X18.here hx rfl (pc0 := 29) (pc' := 8) rfl (hb hby d22_29) (by decide) (by decide) k_) ?_
  refine own_st (T' := T18) (g' := (mkF m 10 #[rv va, iv (4 : Int32), iv (4 : Int32), rv t1, iv (4 : Int32)] [(.int (4 : Int32))])) (fun _ k_ => XS.iload X18.here hx rfl (hb hby d22_8) rfl  k_) ?_
  refine own_st (T' := T18) (g' := (mkF m 11 #[rv va, iv (4 : Int32), iv (4 : Int32), rv t1, iv (4 : Int32)] [(.int (4 : Int32)), (.int (4 : Int32))])) (fun _ k_ => XS.iloadN X18.here hx rfl (hb hby d22_10) rfl  k_) ?_
  refine own_st (T' := T18) (g' := (mkF m 32 #[rv va, iv (4 : Int32), iv (4 : Int32), rv t1, iv (4 : Int32)] [])) (fun _ k_ => XS.icmpYes X18.here hx rfl (pc0 := 11) (pc' := 32) rfl (hb hby d22_11) rfl (flt (by decide : ¬ ((4 : Int32) < (4 : Int32)))).2.1 (by decide) (by decide) k_) ?_
  refine own_st (T' := T18) (g' := (mkF m 33 #[rv va, iv (4 : Int32), iv (4 : Int32), rv t1, iv (4 : Int32)] [(.ref t1)])) (fun _ k_ => XS.aloadN X18.here hx rfl (hb hby d22_32) rfl rfl  k_) ?_
  have f19 := (Keep.refl h0 []).trans K1 all0
  have f20 := f19.trans K5 (allS (Or.inr (Nat.le_trans (Keep.refl h0 []).1 xq1_fresh_t)) all0)
  have f21 := f20.trans K10 (allS (Or.inr (Nat.le_trans (Keep.refl h0 []).1 xq1_fresh_t)) all0)
  have f22 := f21.trans K14 (allS (Or.inr (Nat.le_trans (Keep.refl h0 []).1 xq1_fresh_t)) all0)
  have f23 := f22.trans K18 (allS (Or.inr (Nat.le_trans (Keep.refl h0 []).1 xq1_fresh_t)) all0)
  exact own_retA X18 hx hret rfl rfl hlk (hb hby d22_33) (by decide) (by decide) ⟨t1, kb1, rfl, N18, f23, Vp18, (Nat.le_trans (Keep.refl h0 []).1 xq1_fresh_t)⟩
theorem ef_c3u_4 (m : MethodId) (x0 : Addr) (x1 : Int32) (x2 : Int32) : entryFrame m #[(.ref x0), (.int x1), (.int x2)] 6 = mkF m 0 #[rv x0, iv x1, iv x2, .unset, .unset, .unset] [] := by first | (simp [entryFrame, mkF, argsToLocals, Value.category]; done) | rfl
def Q_c3u_4 (Z : State) (va : Addr) (kc : ClassId) (c0 : Int32) (c1 : Int32) (c2 : Int32) (c3 : Int32) (h0 : Heap) (n0 : Nat) (v : Option Value) (h : Heap) (L : List Loc) : Prop := ∃ (t : Addr) (kb : ClassId), (v = some (.ref t)) ∧ (Fr n0 L) ∧ (Keep h0 h []) ∧ (Arv Z h t kb .byte (8 : Int32) [(.int (own_l16 c0)), (.int (own_h16 c0)), (.int (own_l16 c1)), (.int (own_h16 c1)), (.int (own_l16 c2)), (.int (own_h16 c2)), (.int (own_l16 c3)), (.int (own_h16 c3))] (.int (0 : Int32))) ∧ (h0.size ≤ t)
set_option maxRecDepth 65536 in
set_option maxHeartbeats 40000000 in
theorem rm_c3u_4 (l : Launch) (Z : State) (a0 : Array Value) (hw : ∀ d ∈ tables_1, d.before a0 Z = true) (ws : List Jvm.Cond) (va : Addr) (kc : ClassId) (c0 : Int32) (c1 : Int32) (c2 : Int32) (c3 : Int32) (h0 : Heap) (n0 : Nat) (O0 : Old Z n0 h0) (VA : Arv Z h0 va kc .char (4 : Int32) [(.int c0), (.int c1), (.int c2), (.int c3)] (.int (0 : Int32))) (hr0 : own_R c0) (hr1 : own_R c1) (hr2 : own_R c2) (hr3 : own_R c3) (hU : ¬ (own_nd4 c0 c1 c2 c3) = (4 : Int32)) (SA : Sta Z Z.heap "java/lang/StringUTF16" "$assertionsDisabled" "Z" (.int (1 : Int32))) (SHI : Sta Z Z.heap "java/lang/StringUTF16" "HI_BYTE_SHIFT" "I" (.int (0 : Int32))) (SLO : Sta Z Z.heap "java/lang/StringUTF16" "LO_BYTE_SHIFT" "I" (.int (8 : Int32))) :
    own_MF l own_m18 (Jvm.Cond.code own_m18 jdk_52_method_16_code 6 (some (.array .byte)) :: ws) ({ frames := 3, cells := 2, slots := 12, locals := 40 } : Room) #[(.ref va), (.int (0 : Int32)), (.int (4 : Int32))] Z h0 (Q_c3u_4 Z va kc c0 c1 c2 c3 h0 n0) := by
  refine own_met (own := "java/lang/StringUTF16") (nme := "compress") rfl rfl (plainFor_of_name pn_3) ?_
  intro p e s m below meth c s₁ hx hby hml hown hnm X0 e0 hret hlk hZ
  have N0 := Fr.nil n0
  rw [ef_c3u_4 m va (0 : Int32) (4 : Int32)]
  refine own_st (T' := s₁) (g' := (mkF m 1 #[rv va, iv (0 : Int32), iv (4 : Int32), .unset, .unset, .unset] [(.int (4 : Int32))])) (fun _ k_ => XS.iloadN X0.here hx rfl (hb hby d12_0) rfl  k_) ?_
  obtain ⟨T1, h1, k1, X1, e1, E1, A1, st1⟩ := newP X0 hx hZ (wd hw 29 rfl) e0 (g := (mkF m 1 #[rv va, iv (0 : Int32), iv (4 : Int32), .unset, .unset, .unset] [(.int (4 : Int32))])) rfl (hb hby d12_1) rfl (by decide) (cap := 4) (by decide) (by decide) (by decide) (by decide)
  obtain ⟨b1, g1⟩ : ∃ z, z = h0.size := ⟨_, rfl⟩
  rw [← g1] at A1 st1
  have fr1 : n0 ≤ b1 := Nat.le_trans (own_z O0) (Nat.le_of_eq g1.symm)
  have sz1 : h0.size ≤ b1 := Nat.le_trans (Keep.refl h0 []).1 (Nat.le_of_eq g1.symm)
  have V1 : Arv Z h1 b1 k1 .byte (4 : Int32) [(.int (0 : Int32)), (.int (0 : Int32)), (.int (0 : Int32)), (.int (0 : Int32))] (.int (0 : Int32)) := (Arv.new A1 (by decide)).pad (pad_rep [] (.int (0 : Int32)) 4)
  refine own_st (T' := T1) (g' := (mkF m 3 #[rv va, iv (0 : Int32), iv (4 : Int32), .unset, .unset, .unset] [(.ref b1)])) st1 ?_
  clear st1
  refine own_st (T' := T1) (g' := (mkF m 4 #[rv va, iv (0 : Int32), iv (4 : Int32), rv b1, .unset, .unset] [])) (fun _ k_ => XS.astoreN X1.here hx rfl (hb hby d12_3) rfl rfl (l' := #[rv va, iv (0 : Int32), iv (4 : Int32), rv b1, .unset, .unset]) rfl k_) ?_
  refine own_st (T' := T1) (g' := (mkF m 5 #[rv va, iv (0 : Int32), iv (4 : Int32), rv b1, .unset, .unset] [(.ref va)])) (fun _ k_ => XS.aloadN X1.here hx rfl (hb hby d12_4) rfl rfl  k_) ?_
  refine own_st (T' := T1) (g' := (mkF m 6 #[rv va, iv (0 : Int32), iv (4 : Int32), rv b1, .unset, .unset] [(.int (0 : Int32)), (.ref va)])) (fun _ k_ => XS.iloadN X1.here hx rfl (hb hby d12_5) rfl  k_) ?_
  refine own_st (T' := T1) (g' := (mkF m 7 #[rv va, iv (0 : Int32), iv (4 : Int32), rv b1, .unset, .unset] [(.ref b1), (.int (0 : Int32)), (.ref va)])) (fun _ k_ => XS.aloadN X1.here hx rfl (hb hby d12_6) rfl rfl  k_) ?_
  refine own_st (T' := T1) (g' := (mkF m 8 #[rv va, iv (0 : Int32), iv (4 : Int32), rv b1, .unset, .unset] [(.int (0 : Int32)), (.ref b1), (.int (0 : Int32)), (.ref va)])) (fun _ k_ => XS.iconst X1.here hx rfl (hb hby d12_7) k_) ?_
  refine own_st (T' := T1) (g' := (mkF m 9 #[rv va, iv (0 : Int32), iv (4 : Int32), rv b1, .unset, .unset] [(.int (4 : Int32)), (.int (0 : Int32)), (.ref b1), (.int (0 : Int32)), (.ref va)])) (fun _ k_ => XS.iloadN X1.here hx rfl (hb hby d12_8) rfl  k_) ?_
  have f2 := VA.ext E1
  have ne3 : va ≠ b1 := Nat.ne_of_lt (Nat.lt_of_lt_of_le VA.lt (Nat.le_of_eq g1.symm))
  have f4 := O0.ext E1
  obtain ⟨_, T5, L5, X5, hQ5, st5⟩ := own_callS X1 hx (y := own_m14) hown (mvT hZ (wd hw 61 rfl)) (mvT hZ (wd hw 62 rfl)) (mvT hZ (wd hw 59 rfl)) (mvT hZ (wd hw 63 rfl)) (by decide) (backOf (W := 0) (rm_c5u_4 l Z a0 hw [] va b1 kc k1 c0 c1 c2 c3 h1 n0 f4 f2 V1 ne3 fr1) hZ (wd hw 63 rfl) (wd hw 59 rfl) (by decide) (by decide)) (g := (mkF m 9 #[rv va, iv (0 : Int32), iv (4 : Int32), rv b1, .unset, .unset] [(.int (4 : Int32)), (.int (0 : Int32)), (.ref b1), (.int (0 : Int32)), (.ref va)])) rfl (by rw [hml]; rfl) (argsL := [(.ref va), (.int (0 : Int32)), (.ref b1), (.int (0 : Int32)), (.int (4 : Int32))]) (rest := []) (lenOf pd___CI_BII_I rfl) rfl (by show 2 * 0 + _ ≤ _; exact Nat.le_of_eq rfl) (hb hby d12_9) rfl e1 (by decide) (by decide) (c' := 1) (s' := 4) rfl rfl
  obtain ⟨rfl, Nq5, K5, xq5_full⟩ := hQ5
  have N5 := Fr.app N0 Nq5
  refine own_st (T' := T5) (g' := (mkF m 12 #[rv va, iv (0 : Int32), iv (4 : Int32), rv b1, .unset, .unset] [(.int (own_nd4 c0 c1 c2 c3))])) st5 ?_
  clear st5
  refine own_st (T' := T5) (g' := (mkF m 14 #[rv va, iv (0 : Int32), iv (4 : Int32), rv b1, iv (own_nd4 c0 c1 c2 c3), .unset] [])) (fun _ k_ => XS.istore X5.here hx rfl (hb hby d12_12) rfl (l' := #[rv va, iv (0 : Int32), iv (4 : Int32), rv b1, iv (own_nd4 c0 c1 c2 c3), .unset]) rfl k_) ?_
  refine own_st (T' := T5) (g' := (mkF m 16 #[rv va, iv (0 : Int32), iv (4 : Int32), rv b1, iv (own_nd4 c0 c1 c2 c3), .unset] [(.int (own_nd4 c0 c1 c2 c3))])) (fun _ k_ => XS.iload X5.here hx rfl (hb hby d12_14) rfl  k_) ?_
  refine own_st (T' := T5) (g' := (mkF m 17 #[rv va, iv (0 : Int32), iv (4 : Int32), rv b1, iv (own_nd4 c0 c1 c2 c3), .unset] [(.int (4 : Int32)), (.int (own_nd4 c0 c1 c2 c3))])) (fun _ k_ => XS.iloadN X5.here hx rfl (hb hby d12_16) rfl  k_) ?_
  refine own_st (T' := T5) (g' := (mkF m 20 #[rv va, iv (0 : Int32), iv (4 : Int32), rv b1, iv (own_nd4 c0 c1 c2 c3), .unset] [])) (fun _ k_ => XS.icmpNo X5.here hx rfl (hb hby d12_17) rfl (feq (hU : ¬ ((own_nd4 c0 c1 c2 c3) = (4 : Int32)))).1 k_) ?_
  refine own_st (T' := T5) (g' := (mkF m 21 #[rv va, iv (0 : Int32), iv (4 : Int32), rv b1, iv (own_nd4 c0 c1 c2 c3), .unset] [(.ref va)])) (fun _ k_ => XS.aloadN X5.here hx rfl (hb hby d12_20) rfl rfl  k_) ?_
  refine own_st (T' := T5) (g' := (mkF m 22 #[rv va, iv (0 : Int32), iv (4 : Int32), rv b1, iv (own_nd4 c0 c1 c2 c3), .unset] [(.int (0 : Int32)), (.ref va)])) (fun _ k_ => XS.iloadN X5.here hx rfl (hb hby d12_21) rfl  k_) ?_
  refine own_st (T' := T5) (g' := (mkF m 23 #[rv va, iv (0 : Int32), iv (4 : Int32), rv b1, iv (own_nd4 c0 c1 c2 c3), .unset] [(.int (4 : Int32)), (.int (0 : Int32)), (.ref va)])) (fun _ k_ => XS.iloadN X5.here hx rfl (hb hby d12_22) rfl  k_) ?_
  have f6 := f2.keep K5 (ninS ne3 nin0)
  have f7 := f4.keep K5 (allS fr1 all0)
  have f8 := (Keep.refl h0 []).ext E1
  have f9 := f8.trans K5 (allS (Or.inr sz1) all0)
  obtain ⟨_, T10, L10, X10, hQ10, st10⟩ := own_callS X5 hx (y := own_m17) hown (mvT hZ (wd hw 99 rfl)) (mvT hZ (wd hw 100 rfl)) (mvT hZ (wd hw 59 rfl)) (mvT hZ (wd hw 101 rfl)) (by decide) (backOf (W := 0) (rm_tby_4 l Z a0 hw [] va kc c0 c1 c2 c3 T5.heap n0 f7 f6 SA SHI SLO) hZ (wd hw 101 rfl) (wd hw 59 rfl) (by decide) (by decide)) (g := (mkF m 23 #[rv va, iv (0 : Int32), iv (4 : Int32), rv b1, iv (own_nd4 c0 c1 c2 c3), .unset] [(.int (4 : Int32)), (.int (0 : Int32)), (.ref va)])) rfl (by rw [hml]; rfl) (argsL := [(.ref va), (.int (0 : Int32)), (.int (4 : Int32))]) (rest := []) (lenOf pd___CII__B rfl) rfl (by show 2 * 0 + _ ≤ _; exact Nat.le_of_eq rfl) (hb hby d12_23) rfl rfl (by decide) (by decide) (c' := 2) (s' := 12) rfl rfl
  obtain ⟨t10, kb10, rfl, Nq10, K10, fq10_0, xq10_fresh_t⟩ := hQ10
  have N10 := Fr.app N5 Nq10
  refine own_st (T' := T10) (g' := (mkF m 26 #[rv va, iv (0 : Int32), iv (4 : Int32), rv b1, iv (own_nd4 c0 c1 c2 c3), .unset] [(.ref t10)])) st10 ?_
  clear st10
  refine own_st (T' := T10) (g' := (mkF m 28 #[rv va, iv (0 : Int32), iv (4 : Int32), rv b1, iv (own_nd4 c0 c1 c2 c3), rv t10] [])) (fun _ k_ => XS.astore X10.here hx rfl (hb hby d12_26) rfl rfl (l' := #[rv va, iv (0 : Int32), iv (4 : Int32), rv b1, iv (own_nd4 c0 c1 c2 c3), rv t10]) rfl k_) ?_
  refine own_st (T' := T10) (g' := (mkF m 30 #[rv va, iv (0 : Int32), iv (4 : Int32), rv b1, iv (own_nd4 c0 c1 c2 c3), rv t10] [(.ref t10)])) (fun _ k_ => XS.aload X10.here hx rfl (hb hby d12_28) rfl rfl  k_) ?_
  refine own_st (T' := T10) (g' := (mkF m 32 #[rv va, iv (0 : Int32), iv (4 : Int32), rv b1, iv (own_nd4 c0 c1 c2 c3), rv t10] [(.int (own_nd4 c0 c1 c2 c3)), (.ref t10)])) (fun _ k_ => XS.iload X10.here hx rfl (hb hby d12_30) rfl  k_) ?_
  rcases own_ndB4 hU with hq | hq | hq | hq
  · rw [hq.1]
    have f11 := f7.keep K10 all0
    obtain ⟨_, T12, L12, X12, hQ12, st12⟩ := own_callS X10 hx (y := own_m6) hown (mvT hZ (wd hw 115 rfl)) (mvT hZ (wd hw 116 rfl)) (mvT hZ (wd hw 59 rfl)) (mvT hZ (wd hw 117 rfl)) (by decide) (backOf (W := 0) (rm_getc l Z a0 hw [] t10 kb10 [c0, c1, c2, c3] (0 : Int32) 0 T10.heap n0 f11 fq10_0 rfl (Nat.le_of_ble_eq_true rfl : 0 < List.length [c0, c1, c2, c3]) (Nat.le_of_ble_eq_true rfl) (own_aS hr0 (own_aS hr1 (own_aS hr2 (own_aS hr3 own_a0)))) SA SHI SLO) hZ (wd hw 117 rfl) (wd hw 59 rfl) (by decide) (by decide)) (g := (mkF m 32 #[rv va, iv (0 : Int32), iv (4 : Int32), rv b1, iv (0 : Int32), rv t10] [(.int (0 : Int32)), (.ref t10)])) rfl (by rw [hml]; rfl) (argsL := [(.ref t10), (.int (0 : Int32))]) (rest := []) (lenOf pd___BI_C rfl) rfl (by show 2 * 0 + _ ≤ _; exact Nat.le_of_eq rfl) (hb hby d12_32) rfl rfl (by decide) (by decide) (c' := 2) (s' := 12) rfl rfl
    obtain ⟨rfl, Nq12, eq12⟩ := hQ12
    have N12 := Fr.app N10 Nq12
    refine own_st (T' := T12) (g' := (mkF m 35 #[rv va, iv (0 : Int32), iv (4 : Int32), rv b1, iv (0 : Int32), rv t10] [(.int c0)])) st12 ?_
    clear st12
    refine own_st (T' := T12) (g' := (mkF m 38 #[rv va, iv (0 : Int32), iv (4 : Int32), rv b1, iv (0 : Int32), rv t10] [(.int (255 : Int32)), (.int c0)])) (fun _ k_ => XS.sipush X12.here hx rfl (hb hby d12_35) k_) ?_
    refine own_st (T' := T12) (g' := (mkF m 54 #[rv va, iv (0 : Int32), iv (4 : Int32), rv b1, iv (0 : Int32), rv t10] [])) (fun _ k_ => XS.icmpYes X12.here hx rfl (pc0 := 38) (pc' := 54) rfl (hb hby d12_38) rfl (tlt (hq.2 : (255 : Int32) < c0)).2.2.1 (by decide) (by decide) k_) ?_
    refine own_st (T' := T12) (g' := (mkF m 56 #[rv va, iv (0 : Int32), iv (4 : Int32), rv b1, iv (0 : Int32), rv t10] [(.ref t10)])) (fun _ k_ => XS.aload X12.here hx rfl (hb hby d12_54) rfl rfl  k_) ?_
    have f13 := f9.trans K10 all0
    exact own_retA X12 hx hret rfl rfl hlk (hb hby d12_56) (by decide) (by decide) (by rw [eq12]; exact ⟨t10, kb10, rfl, N12, f13, fq10_0, (Nat.le_trans f9.1 xq10_fresh_t)⟩)
  · rw [hq.1]
    have f14 := f7.keep K10 all0
    obtain ⟨_, T15, L15, X15, hQ15, st15⟩ := own_callS X10 hx (y := own_m6) hown (mvT hZ (wd hw 115 rfl)) (mvT hZ (wd hw 116 rfl)) (mvT hZ (wd hw 59 rfl)) (mvT hZ (wd hw 117 rfl)) (by decide) (backOf (W := 0) (rm_getc l Z a0 hw [] t10 kb10 [c0, c1, c2, c3] (1 : Int32) 1 T10.heap n0 f14 fq10_0 rfl (Nat.le_of_ble_eq_true rfl : 1 < List.length [c0, c1, c2, c3]) (Nat.le_of_ble_eq_true rfl) (own_aS hr0 (own_aS hr1 (own_aS hr2 (own_aS hr3 own_a0)))) SA SHI SLO) hZ (wd hw 117 rfl) (wd hw 59 rfl) (by decide) (by decide)) (g := (mkF m 32 #[rv va, iv (0 : Int32), iv (4 : Int32), rv b1, iv (1 : Int32), rv t10] [(.int (1 : Int32)), (.ref t10)])) rfl (by rw [hml]; rfl) (argsL := [(.ref t10), (.int (1 : Int32))]) (rest := []) (lenOf pd___BI_C rfl) rfl (by show 2 * 0 + _ ≤ _; exact Nat.le_of_eq rfl) (hb hby d12_32) rfl rfl (by decide) (by decide) (c' := 2) (s' := 12) rfl rfl
    obtain ⟨rfl, Nq15, eq15⟩ := hQ15
    have N15 := Fr.app N10 Nq15
    refine own_st (T' := T15) (g' := (mkF m 35 #[rv va, iv (0 : Int32), iv (4 : Int32), rv b1, iv (1 : Int32), rv t10] [(.int c1)])) st15 ?_
    clear st15
    refine own_st (T' := T15) (g' := (mkF m 38 #[rv va, iv (0 : Int32), iv (4 : Int32), rv b1, iv (1 : Int32), rv t10] [(.int (255 : Int32)), (.int c1)])) (fun _ k_ => XS.sipush X15.here hx rfl (hb hby d12_35) k_) ?_
    refine own_st (T' := T15) (g' := (mkF m 54 #[rv va, iv (0 : Int32), iv (4 : Int32), rv b1, iv (1 : Int32), rv t10] [])) (fun _ k_ => XS.icmpYes X15.here hx rfl (pc0 := 38) (pc' := 54) rfl (hb hby d12_38) rfl (tlt (hq.2 : (255 : Int32) < c1)).2.2.1 (by decide) (by decide) k_) ?_
    refine own_st (T' := T15) (g' := (mkF m 56 #[rv va, iv (0 : Int32), iv (4 : Int32), rv b1, iv (1 : Int32), rv t10] [(.ref t10)])) (fun _ k_ => XS.aload X15.here hx rfl (hb hby d12_54) rfl rfl  k_) ?_
    have f16 := f9.trans K10 all0
    exact own_retA X15 hx hret rfl rfl hlk (hb hby d12_56) (by decide) (by decide) (by rw [eq15]; exact ⟨t10, kb10, rfl, N15, f16, fq10_0, (Nat.le_trans f9.1 xq10_fresh_t)⟩)
  · rw [hq.1]
    have f17 := f7.keep K10 all0
    obtain ⟨_, T18, L18, X18, hQ18, st18⟩ := own_callS X10 hx (y := own_m6) hown (mvT hZ (wd hw 115 rfl)) (mvT hZ (wd hw 116 rfl)) (mvT hZ (wd hw 59 rfl)) (mvT hZ (wd hw 117 rfl)) (by decide) (backOf (W := 0) (rm_getc l Z a0 hw [] t10 kb10 [c0, c1, c2, c3] (2 : Int32) 2 T10.heap n0 f17 fq10_0 rfl (Nat.le_of_ble_eq_true rfl : 2 < List.length [c0, c1, c2, c3]) (Nat.le_of_ble_eq_true rfl) (own_aS hr0 (own_aS hr1 (own_aS hr2 (own_aS hr3 own_a0)))) SA SHI SLO) hZ (wd hw 117 rfl) (wd hw 59 rfl) (by decide) (by decide)) (g := (mkF m 32 #[rv va, iv (0 : Int32), iv (4 : Int32), rv b1, iv (2 : Int32), rv t10] [(.int (2 : Int32)), (.ref t10)])) rfl (by rw [hml]; rfl) (argsL := [(.ref t10), (.int (2 : Int32))]) (rest := []) (lenOf pd___BI_C rfl) rfl (by show 2 * 0 + _ ≤ _; exact Nat.le_of_eq rfl) (hb hby d12_32) rfl rfl (by decide) (by decide) (c' := 2) (s' := 12) rfl rfl
    obtain ⟨rfl, Nq18, eq18⟩ := hQ18
    have N18 := Fr.app N10 Nq18
    refine own_st (T' := T18) (g' := (mkF m 35 #[rv va, iv (0 : Int32), iv (4 : Int32), rv b1, iv (2 : Int32), rv t10] [(.int c2)])) st18 ?_
    clear st18
    refine own_st (T' := T18) (g' := (mkF m 38 #[rv va, iv (0 : Int32), iv (4 : Int32), rv b1, iv (2 : Int32), rv t10] [(.int (255 : Int32)), (.int c2)])) (fun _ k_ => XS.sipush X18.here hx rfl (hb hby d12_35) k_) ?_
    refine own_st (T' := T18) (g' := (mkF m 54 #[rv va, iv (0 : Int32), iv (4 : Int32), rv b1, iv (2 : Int32), rv t10] [])) (fun _ k_ => XS.icmpYes X18.here hx rfl (pc0 := 38) (pc' := 54) rfl (hb hby d12_38) rfl (tlt (hq.2 : (255 : Int32) < c2)).2.2.1 (by decide) (by decide) k_) ?_
    refine own_st (T' := T18) (g' := (mkF m 56 #[rv va, iv (0 : Int32), iv (4 : Int32), rv b1, iv (2 : Int32), rv t10] [(.ref t10)])) (fun _ k_ => XS.aload X18.here hx rfl (hb hby d12_54) rfl rfl  k_) ?_
    have f19 := f9.trans K10 all0
    exact own_retA X18 hx hret rfl rfl hlk (hb hby d12_56) (by decide) (by decide) (by rw [eq18]; exact ⟨t10, kb10, rfl, N18, f19, fq10_0, (Nat.le_trans f9.1 xq10_fresh_t)⟩)
  · rw [hq.1]
    have f20 := f7.keep K10 all0
    obtain ⟨_, T21, L21, X21, hQ21, st21⟩ := own_callS X10 hx (y := own_m6) hown (mvT hZ (wd hw 115 rfl)) (mvT hZ (wd hw 116 rfl)) (mvT hZ (wd hw 59 rfl)) (mvT hZ (wd hw 117 rfl)) (by decide) (backOf (W := 0) (rm_getc l Z a0 hw [] t10 kb10 [c0, c1, c2, c3] (3 : Int32) 3 T10.heap n0 f20 fq10_0 rfl (Nat.le_of_ble_eq_true rfl : 3 < List.length [c0, c1, c2, c3]) (Nat.le_of_ble_eq_true rfl) (own_aS hr0 (own_aS hr1 (own_aS hr2 (own_aS hr3 own_a0)))) SA SHI SLO) hZ (wd hw 117 rfl) (wd hw 59 rfl) (by decide) (by decide)) (g := (mkF m 32 #[rv va, iv (0 : Int32), iv (4 : Int32), rv b1, iv (3 : Int32), rv t10] [(.int (3 : Int32)), (.ref t10)])) rfl (by rw [hml]; rfl) (argsL := [(.ref t10), (.int (3 : Int32))]) (rest := []) (lenOf pd___BI_C rfl) rfl (by show 2 * 0 + _ ≤ _; exact Nat.le_of_eq rfl) (hb hby d12_32) rfl rfl (by decide) (by decide) (c' := 2) (s' := 12) rfl rfl
    obtain ⟨rfl, Nq21, eq21⟩ := hQ21
    have N21 := Fr.app N10 Nq21
    refine own_st (T' := T21) (g' := (mkF m 35 #[rv va, iv (0 : Int32), iv (4 : Int32), rv b1, iv (3 : Int32), rv t10] [(.int c3)])) st21 ?_
    clear st21
    refine own_st (T' := T21) (g' := (mkF m 38 #[rv va, iv (0 : Int32), iv (4 : Int32), rv b1, iv (3 : Int32), rv t10] [(.int (255 : Int32)), (.int c3)])) (fun _ k_ => XS.sipush X21.here hx rfl (hb hby d12_35) k_) ?_
    refine own_st (T' := T21) (g' := (mkF m 54 #[rv va, iv (0 : Int32), iv (4 : Int32), rv b1, iv (3 : Int32), rv t10] [])) (fun _ k_ => XS.icmpYes X21.here hx rfl (pc0 := 38) (pc' := 54) rfl (hb hby d12_38) rfl (tlt (hq.2 : (255 : Int32) < c3)).2.2.1 (by decide) (by decide) k_) ?_
    refine own_st (T' := T21) (g' := (mkF m 56 #[rv va, iv (0 : Int32), iv (4 : Int32), rv b1, iv (3 : Int32), rv t10] [(.ref t10)])) (fun _ k_ => XS.aload X21.here hx rfl (hb hby d12_54) rfl rfl  k_) ?_
    have f22 := f9.trans K10 all0
    exact own_retA X21 hx hret rfl rfl hlk (hb hby d12_56) (by decide) (by decide) (by rw [eq21]; exact ⟨t10, kb10, rfl, N21, f22, fq10_0, (Nat.le_trans f9.1 xq10_fresh_t)⟩)
theorem ef_cdu_4 (m : MethodId) (x0 : Addr) (x1 : Int32) : entryFrame m #[(.ref x0), (.int x1)] 2 = mkF m 0 #[rv x0, iv x1] [] := by first | (simp [entryFrame, mkF, argsToLocals, Value.category]; done) | rfl
def Q_cdu_4 (Z : State) (t : Addr) (kb : ClassId) (vs : List Value) (h0 : Heap) (n0 : Nat) (v : Option Value) (h : Heap) (L : List Loc) : Prop := (v = some (.int (1 : Int32))) ∧ (Fr n0 L) ∧ (h = h0)
set_option maxRecDepth 65536 in
set_option maxHeartbeats 40000000 in
theorem rm_cdu_4 (l : Launch) (Z : State) (a0 : Array Value) (hw : ∀ d ∈ tables_1, d.before a0 Z = true) (ws : List Jvm.Cond) (t : Addr) (kb : ClassId) (vs : List Value) (h0 : Heap) (n0 : Nat) (O0 : Old Z n0 h0) (VT : Arv Z h0 t kb .byte (8 : Int32) vs (.int (0 : Int32))) :
    own_MF l own_m19 (Jvm.Cond.code own_m19 jdk_52_method_15_code 2 (some .byte) :: ws) ({ frames := 0, cells := 0, slots := 0, locals := 0 } : Room) #[(.ref t), (.int (4 : Int32))] Z h0 (Q_cdu_4 Z t kb vs h0 n0) := by
  refine own_met (own := "java/lang/StringUTF16") (nme := "coderFromArrayLen") rfl rfl (plainFor_of_name pn_3) ?_
  intro p e s m below meth c s₁ hx hby hml hown hnm X0 e0 hret hlk hZ
  have N0 := Fr.nil n0
  rw [ef_cdu_4 m t (4 : Int32)]
  refine own_st (T' := s₁) (g' := (mkF m 1 #[rv t, iv (4 : Int32)] [(.int (4 : Int32))])) (fun _ k_ => XS.iloadN X0.here hx rfl (hb hby d14_0) rfl  k_) ?_
  refine own_st (T' := s₁) (g' := (mkF m 2 #[rv t, iv (4 : Int32)] [(.ref t), (.int (4 : Int32))])) (fun _ k_ => XS.aloadN X0.here hx rfl (hb hby d14_1) rfl rfl  k_) ?_
  obtain ⟨cl1, Ar1, -, S1, N1, -, -⟩ := id VT
  refine own_st (T' := s₁) (g' := (mkF m 3 #[rv t, iv (4 : Int32)] [(.int (8 : Int32)), (.int (4 : Int32))])) (fun t_ k_ => X0.arraylength hx (by rw [e0]; exact Ar1.1) (State.isArrayOf_alike hZ.alike Ar1.2.1) (g := (mkF m 2 #[rv t, iv (4 : Int32)] [(.ref t), (.int (4 : Int32))])) rfl rfl (hb hby d14_2) _ (by rw [len_of S1 N1]; exact k_)) ?_
  refine own_st (T' := s₁) (g' := (mkF m 4 #[rv t, iv (4 : Int32)] [(.int (-4 : Int32))])) (fun _ k_ => XS.isub X0.here hx rfl (hb hby d14_3) rfl k_) ?_
  refine own_st (T' := s₁) (g' := (mkF m 6 #[rv t, iv (4 : Int32)] [(.int (31 : Int32)), (.int (-4 : Int32))])) (fun _ k_ => XS.bipush X0.here hx rfl (hb hby d14_4) k_) ?_
  refine own_st (T' := s₁) (g' := (mkF m 7 #[rv t, iv (4 : Int32)] [(.int (((-4 : Int32).toUInt32 >>> ((31 : Int32) &&& 31).toUInt32).toInt32))])) (fun _ k_ => XS.iushr X0.here hx rfl (hb hby d14_6) rfl k_) ?_
  refine own_st (T' := s₁) (g' := (mkF m 8 #[rv t, iv (4 : Int32)] [(.int ((((-4 : Int32).toUInt32 >>> ((31 : Int32) &&& 31).toUInt32).toInt32).toInt8.toInt32))])) (fun _ k_ => XS.i2b X0.here hx rfl (hb hby d14_7) rfl k_) ?_
  exact own_retN X0 hx (t := .byte) hret (by simp) hlk (hb hby d14_8) (by decide) (by decide) ⟨(by decide), N0, e0⟩
theorem ef_in4u_4 (m : MethodId) (x0 : Addr) (x1 : Addr) (x2 : Int32) (x3 : Int32) : entryFrame m #[(.ref x0), (.ref x1), (.int x2), (.int x3), .null] 6 = mkF m 0 #[rv x0, rv x1, iv x2, iv x3, .val .null, .unset] [] := by first | (simp [entryFrame, mkF, argsToLocals, Value.category]; done) | rfl
def Q_in4u_4 (Z : State) (a : Addr) (va : Addr) (kc : ClassId) (cz : Int32) (c0 : Int32) (c1 : Int32) (c2 : Int32) (c3 : Int32) (h0 : Heap) (n0 : Nat) (v : Option Value) (h : Heap) (L : List Loc) : Prop := ∃ (t : Addr) (kb : ClassId), (v = none) ∧ (Fr n0 L) ∧ (Keep h0 h [a]) ∧ (Exa Z h a "java/lang/String") ∧ (Fld Z h a "java/lang/String" "coder" "B" (.int (1 : Int32))) ∧ (Fld Z h a "java/lang/String" "value" "[B" (.ref t)) ∧ (Arv Z h t kb .byte (8 : Int32) [(.int (own_l16 c0)), (.int (own_h16 c0)), (.int (own_l16 c1)), (.int (own_h16 c1)), (.int (own_l16 c2)), (.int (own_h16 c2)), (.int (own_l16 c3)), (.int (own_h16 c3))] (.int (0 : Int32))) ∧ (h0.size ≤ t)
set_option maxRecDepth 65536 in
set_option maxHeartbeats 40000000 in
theorem rm_in4u_4 (l : Launch) (Z : State) (a0 : Array Value) (hw : ∀ d ∈ tables_1, d.before a0 Z = true) (ws : List Jvm.Cond) (a : Addr) (va : Addr) (kc : ClassId) (cz : Int32) (c0 : Int32) (c1 : Int32) (c2 : Int32) (c3 : Int32) (h0 : Heap) (n0 : Nat) (O0 : Old Z n0 h0) (EA : Exa Z h0 a "java/lang/String") (FV : Fld Z h0 a "java/lang/String" "value" "[B" .null) (FC : Fld Z h0 a "java/lang/String" "coder" "B" (.int (0 : Int32))) (fa : n0 ≤ a) (VA : Arv Z h0 va kc .char (4 : Int32) [(.int c0), (.int c1), (.int c2), (.int c3)] (.int (0 : Int32))) (SC : Sta Z Z.heap "java/lang/String" "COMPACT_STRINGS" "Z" (.int cz)) (hcz : ¬ cz = (0 : Int32)) (hr0 : own_R c0) (hr1 : own_R c1) (hr2 : own_R c2) (hr3 : own_R c3) (hU : ¬ (own_nd4 c0 c1 c2 c3) = (4 : Int32)) (SA : Sta Z Z.heap "java/lang/StringUTF16" "$assertionsDisabled" "Z" (.int (1 : Int32))) (SHI : Sta Z Z.heap "java/lang/StringUTF16" "HI_BYTE_SHIFT" "I" (.int (0 : Int32))) (SLO : Sta Z Z.heap "java/lang/StringUTF16" "LO_BYTE_SHIFT" "I" (.int (8 : Int32))) :
    own_MF l own_m12 (Jvm.Cond.code own_m12 jdk_42_method_149_code 6 none :: ws) ({ frames := 4, cells := 2, slots := 12, locals := 57 } : Room) #[(.ref a), (.ref va), (.int (0 : Int32)), (.int (4 : Int32)), .null] Z h0 (Q_in4u_4 Z a va kc cz c0 c1 c2 c3 h0 n0) := by
  refine own_met (own := "java/lang/String") (nme := "<init>") rfl rfl (plainFor_of_name pn_0) ?_
  intro p e s m below meth c s₁ hx hby hml hown hnm X0 e0 hret hlk hZ
  have N0 := Fr.nil n0
  rw [ef_in4u_4 m a va (0 : Int32) (4 : Int32)]
  refine own_st (T' := s₁) (g' := (mkF m 1 #[rv a, rv va, iv (0 : Int32), iv (4 : Int32), .val .null, .unset] [(.ref a)])) (fun _ k_ => XS.aloadN X0.here hx rfl (hb hby d5_0) rfl rfl  k_) ?_
  obtain ⟨T1, X1, e1, st1⟩ := initO X0 hx hZ hown (wd hw 25 rfl) (wd hw 26 rfl) (wd hw 27 rfl) e0 (g := (mkF m 1 #[rv a, rv va, iv (0 : Int32), iv (4 : Int32), .val .null, .unset] [(.ref a)])) rfl (by rw [hml]; rfl) rfl (hb hby d5_1) (by decide) (W := 0) (by show 2 * 0 + _ ≤ _; exact Nat.le_of_eq rfl) (by decide)
  refine own_st (T' := T1) (g' := (mkF m 4 #[rv a, rv va, iv (0 : Int32), iv (4 : Int32), .val .null, .unset] [])) st1 ?_
  clear st1
  refine own_st (T' := T1) (g' := (mkF m 5 #[rv a, rv va, iv (0 : Int32), iv (4 : Int32), .val .null, .unset] [(.int (4 : Int32))])) (fun _ k_ => XS.iloadN X1.here hx rfl (hb hby d5_4) rfl  k_) ?_
  refine own_st (T' := T1) (g' := (mkF m 27 #[rv a, rv va, iv (0 : Int32), iv (4 : Int32), .val .null, .unset] [])) (fun _ k_ => XS.ifYes X1.here hx rfl (pc0 := 5) (pc' := 27) rfl (hb hby d5_5) rfl ((if0 _ _).trans (feq (by decide : ¬ ((4 : Int32) = (0 : Int32)))).2) (by decide) (by decide) k_) ?_
  obtain ⟨T2, X2, e2, st2⟩ := getS2 X1 hx hZ hown (host := "") (Or.inl (wd hw 50 rfl)) Via.refl e1 (SC.ext O0.2) (g := (mkF m 27 #[rv a, rv va, iv (0 : Int32), iv (4 : Int32), .val .null, .unset] [])) rfl (hb hby d5_27)
  refine own_st (T' := T2) (g' := (mkF m 30 #[rv a, rv va, iv (0 : Int32), iv (4 : Int32), .val .null, .unset] [(.int cz)])) st2 ?_
  clear st2
  refine own_st (T' := T2) (g' := (mkF m 33 #[rv a, rv va, iv (0 : Int32), iv (4 : Int32), .val .null, .unset] [])) (fun _ k_ => XS.ifNo X2.here hx rfl (hb hby d5_30) rfl ((if0 _ _).trans (feq (hcz : ¬ (cz = (0 : Int32)))).1) k_) ?_
  refine own_st (T' := T2) (g' := (mkF m 34 #[rv a, rv va, iv (0 : Int32), iv (4 : Int32), .val .null, .unset] [(.ref va)])) (fun _ k_ => XS.aloadN X2.here hx rfl (hb hby d5_33) rfl rfl  k_) ?_
  refine own_st (T' := T2) (g' := (mkF m 35 #[rv a, rv va, iv (0 : Int32), iv (4 : Int32), .val .null, .unset] [(.int (0 : Int32)), (.ref va)])) (fun _ k_ => XS.iloadN X2.here hx rfl (hb hby d5_34) rfl  k_) ?_
  refine own_st (T' := T2) (g' := (mkF m 36 #[rv a, rv va, iv (0 : Int32), iv (4 : Int32), .val .null, .unset] [(.int (4 : Int32)), (.int (0 : Int32)), (.ref va)])) (fun _ k_ => XS.iloadN X2.here hx rfl (hb hby d5_35) rfl  k_) ?_
  obtain ⟨_, T3, L3, X3, hQ3, st3⟩ := own_callS X2 hx (y := own_m18) hown (mvT hZ (wd hw 57 rfl)) (mvT hZ (wd hw 58 rfl)) (mvT hZ (wd hw 59 rfl)) (mvT hZ (wd hw 60 rfl)) (by decide) (backOf (W := 0) (rm_c3u_4 l Z a0 hw [] va kc c0 c1 c2 c3 h0 n0 O0 VA hr0 hr1 hr2 hr3 hU SA SHI SLO) hZ (wd hw 60 rfl) (wd hw 59 rfl) (by decide) (by decide)) (g := (mkF m 36 #[rv a, rv va, iv (0 : Int32), iv (4 : Int32), .val .null, .unset] [(.int (4 : Int32)), (.int (0 : Int32)), (.ref va)])) rfl (by rw [hml]; rfl) (argsL := [(.ref va), (.int (0 : Int32)), (.int (4 : Int32))]) (rest := []) (lenOf pd___CII__B rfl) rfl (by show 2 * 0 + _ ≤ _; exact Nat.le_of_eq rfl) (hb hby d5_36) rfl e2 (by decide) (by decide) (c' := 2) (s' := 12) rfl rfl
  obtain ⟨t3, kb3, rfl, Nq3, K3, fq3_0, xq3_fresh_t⟩ := hQ3
  have N3 := Fr.app N0 Nq3
  refine own_st (T' := T3) (g' := (mkF m 39 #[rv a, rv va, iv (0 : Int32), iv (4 : Int32), .val .null, .unset] [(.ref t3)])) st3 ?_
  clear st3
  refine own_st (T' := T3) (g' := (mkF m 41 #[rv a, rv va, iv (0 : Int32), iv (4 : Int32), .val .null, rv t3] [])) (fun _ k_ => XS.astore X3.here hx rfl (hb hby d5_39) rfl rfl (l' := #[rv a, rv va, iv (0 : Int32), iv (4 : Int32), .val .null, rv t3]) rfl k_) ?_
  refine own_st (T' := T3) (g' := (mkF m 42 #[rv a, rv va, iv (0 : Int32), iv (4 : Int32), .val .null, rv t3] [(.ref a)])) (fun _ k_ => XS.aloadN X3.here hx rfl (hb hby d5_41) rfl rfl  k_) ?_
  refine own_st (T' := T3) (g' := (mkF m 44 #[rv a, rv va, iv (0 : Int32), iv (4 : Int32), .val .null, rv t3] [(.ref t3), (.ref a)])) (fun _ k_ => XS.aload X3.here hx rfl (hb hby d5_42) rfl rfl  k_) ?_
  refine own_st (T' := T3) (g' := (mkF m 45 #[rv a, rv va, iv (0 : Int32), iv (4 : Int32), .val .null, rv t3] [(.int (4 : Int32)), (.ref t3), (.ref a)])) (fun _ k_ => XS.iloadN X3.here hx rfl (hb hby d5_44) rfl  k_) ?_
  have f4 := O0.keep K3 all0
  obtain ⟨_, T5, L5, X5, hQ5, st5⟩ := own_callS X3 hx (y := own_m19) hown (mvT hZ (wd hw 64 rfl)) (mvT hZ (wd hw 65 rfl)) (mvT hZ (wd hw 59 rfl)) (mvT hZ (wd hw 66 rfl)) (by decide) (backOf (W := 1) (rm_cdu_4 l Z a0 hw [] t3 kb3 [(.int (own_l16 c0)), (.int (own_h16 c0)), (.int (own_l16 c1)), (.int (own_h16 c1)), (.int (own_l16 c2)), (.int (own_h16 c2)), (.int (own_l16 c3)), (.int (own_h16 c3))] T3.heap n0 f4 fq3_0) hZ (wd hw 66 rfl) (wd hw 59 rfl) (by decide) (by decide)) (g := (mkF m 45 #[rv a, rv va, iv (0 : Int32), iv (4 : Int32), .val .null, rv t3] [(.int (4 : Int32)), (.ref t3), (.ref a)])) rfl (by rw [hml]; rfl) (argsL := [(.ref t3), (.int (4 : Int32))]) (rest := [(.ref a)]) (lenOf pd___BI_B rfl) rfl (by show 2 * 0 + _ ≤ _; exact Nat.le_of_eq rfl) (hb hby d5_45) rfl rfl (by decide) (by decide) (c' := 2) (s' := 12) rfl rfl
  obtain ⟨rfl, Nq5, eq5⟩ := hQ5
  have N5 := Fr.app N3 Nq5
  refine own_st (T' := T5) (g' := (mkF m 48 #[rv a, rv va, iv (0 : Int32), iv (4 : Int32), .val .null, rv t3] [(.int (1 : Int32)), (.ref a)])) st5 ?_
  clear st5
  have f6 := EA.keep K3
  have f7 := FC.keep K3 nin0
  obtain ⟨T8, h8, X8, e8, W8, st8⟩ := putFN X5 hx hZ hown (wd hw 35 rfl) Via.refl eq5 f7 f6 (Or.inr ⟨(wd hw 31 rfl), rfl, hnm⟩) (wd hw 16 rfl) (ty := .byte) (v' := (.int (1 : Int32))) (by decide) rfl (by decide) (g := (mkF m 48 #[rv a, rv va, iv (0 : Int32), iv (4 : Int32), .val .null, rv t3] [(.int (1 : Int32)), (.ref a)])) rfl rfl (hb hby d5_48)
  have Fw8 : Fld Z h8 a "java/lang/String" "coder" "B" (.int (1 : Int32)) := Fld.same W8 f7
  have N8 := Fr.snoc X8 N5 fa
  refine own_st (T' := T8) (g' := (mkF m 51 #[rv a, rv va, iv (0 : Int32), iv (4 : Int32), .val .null, rv t3] [])) st8 ?_
  clear st8
  refine own_st (T' := T8) (g' := (mkF m 52 #[rv a, rv va, iv (0 : Int32), iv (4 : Int32), .val .null, rv t3] [(.ref a)])) (fun _ k_ => XS.aloadN X8.here hx rfl (hb hby d5_51) rfl rfl  k_) ?_
  refine own_st (T' := T8) (g' := (mkF m 54 #[rv a, rv va, iv (0 : Int32), iv (4 : Int32), .val .null, rv t3] [(.ref t3), (.ref a)])) (fun _ k_ => XS.aload X8.here hx rfl (hb hby d5_52) rfl rfl  k_) ?_
  have f9 := f6.wr W8
  have f10 := FV.keep K3 nin0
  have f11 := f10.other W8 (Or.inr (slot_ne (Or.inr (wd hw 30 rfl)) (Or.inr (wd hw 31 rfl)) (by decide) (t := (.array .byte)) (t' := .byte) (by decide) (by decide)))
  obtain ⟨T12, h12, X12, e12, W12, st12⟩ := putF X8 hx hZ hown (host := "") (Or.inl (wd hw 34 rfl)) Via.refl e8 f11 f9 (Or.inr ⟨(wd hw 30 rfl), rfl, hnm⟩) (wd hw 16 rfl) (ty := (.array .byte)) (by decide) rfl rfl (g := (mkF m 54 #[rv a, rv va, iv (0 : Int32), iv (4 : Int32), .val .null, rv t3] [(.ref t3), (.ref a)])) rfl rfl (hb hby d5_54)
  have Fw12 : Fld Z h12 a "java/lang/String" "value" "[B" (.ref t3) := Fld.same W12 f11
  have N12 := Fr.snoc X12 N8 fa
  refine own_st (T' := T12) (g' := (mkF m 57 #[rv a, rv va, iv (0 : Int32), iv (4 : Int32), .val .null, rv t3] [])) st12 ?_
  clear st12
  have f13 := (Keep.refl h0 [a]).trans K3 all0
  have f14 := f13.wr W8 (Or.inl (List.mem_of_getElem? (i := 0) rfl))
  have f15 := f14.wr W12 (Or.inl (List.mem_of_getElem? (i := 0) rfl))
  have f16 := f9.wr W12
  have f17 := Fw8.other W12 (Or.inr (slot_ne (Or.inr (wd hw 31 rfl)) (Or.inr (wd hw 30 rfl)) (by decide) (t := .byte) (t' := (.array .byte)) (by decide) (by decide)))
  have ne18 : a ≠ t3 := Nat.ne_of_lt (Nat.lt_of_lt_of_le EA.lt xq3_fresh_t)
  have f19 := fq3_0.other W8 (Ne.symm ne18)
  have f20 := f19.other W12 (Ne.symm ne18)
  exact own_retV X12 hx hret hlk (hb hby d5_57) (by decide) (by decide) (by rw [e12]; exact ⟨t3, kb3, rfl, N12, f15, f16, f17, Fw12, f20, (Nat.le_trans (Keep.refl h0 [a]).1 xq3_fresh_t)⟩)
theorem ef_in1u_4 (m : MethodId) (x0 : Addr) (x1 : Addr) : entryFrame m #[(.ref x0), (.ref x1)] 2 = mkF m 0 #[rv x0, rv x1] [] := by first | (simp [entryFrame, mkF, argsToLocals, Value.category]; done) | rfl
def Q_in1u_4 (Z : State) (a : Addr) (va : Addr) (kc : ClassId) (cz : Int32) (c0 : Int32) (c1 : Int32) (c2 : Int32) (c3 : Int32) (h0 : Heap) (n0 : Nat) (v : Option Value) (h : Heap) (L : List Loc) : Prop := ∃ (t : Addr) (kb : ClassId), (v = none) ∧ (Fr n0 L) ∧ (Keep h0 h [a]) ∧ (Exa Z h a "java/lang/String") ∧ (Fld Z h a "java/lang/String" "coder" "B" (.int (1 : Int32))) ∧ (Fld Z h a "java/lang/String" "value" "[B" (.ref t)) ∧ (Arv Z h t kb .byte (8 : Int32) [(.int (own_l16 c0)), (.int (own_h16 c0)), (.int (own_l16 c1)), (.int (own_h16 c1)), (.int (own_l16 c2)), (.int (own_h16 c2)), (.int (own_l16 c3)), (.int (own_h16 c3))] (.int (0 : Int32))) ∧ (h0.size ≤ t)
set_option maxRecDepth 65536 in
set_option maxHeartbeats 40000000 in
theorem rm_in1u_4 (l : Launch) (Z : State) (a0 : Array Value) (hw : ∀ d ∈ tables_1, d.before a0 Z = true) (ws : List Jvm.Cond) (a : Addr) (va : Addr) (kc : ClassId) (cz : Int32) (c0 : Int32) (c1 : Int32) (c2 : Int32) (c3 : Int32) (h0 : Heap) (n0 : Nat) (O0 : Old Z n0 h0) (EA : Exa Z h0 a "java/lang/String") (FV : Fld Z h0 a "java/lang/String" "value" "[B" .null) (FC : Fld Z h0 a "java/lang/String" "coder" "B" (.int (0 : Int32))) (fa : n0 ≤ a) (VA : Arv Z h0 va kc .char (4 : Int32) [(.int c0), (.int c1), (.int c2), (.int c3)] (.int (0 : Int32))) (SC : Sta Z Z.heap "java/lang/String" "COMPACT_STRINGS" "Z" (.int cz)) (hcz : ¬ cz = (0 : Int32)) (hr0 : own_R c0) (hr1 : own_R c1) (hr2 : own_R c2) (hr3 : own_R c3) (hU : ¬ (own_nd4 c0 c1 c2 c3) = (4 : Int32)) (SA : Sta Z Z.heap "java/lang/StringUTF16" "$assertionsDisabled" "Z" (.int (1 : Int32))) (SHI : Sta Z Z.heap "java/lang/StringUTF16" "HI_BYTE_SHIFT" "I" (.int (0 : Int32))) (SLO : Sta Z Z.heap "java/lang/StringUTF16" "LO_BYTE_SHIFT" "I" (.int (8 : Int32))) :
    own_MF l own_m13 (Jvm.Cond.code own_m13 jdk_42_method_3_code 2 none :: ws) ({ frames := 5, cells := 2, slots := 12, locals := 74 } : Room) #[(.ref a), (.ref va)] Z h0 (Q_in1u_4 Z a va kc cz c0 c1 c2 c3 h0 n0) := by
  refine own_met (own := "java/lang/String") (nme := "<init>") rfl rfl (plainFor_of_name pn_0) ?_
  intro p e s m below meth c s₁ hx hby hml hown hnm X0 e0 hret hlk hZ
  have N0 := Fr.nil n0
  rw [ef_in1u_4 m a va]
  refine own_st (T' := s₁) (g' := (mkF m 1 #[rv a, rv va] [(.ref a)])) (fun _ k_ => XS.aloadN X0.here hx rfl (hb hby d4_0) rfl rfl  k_) ?_
  refine own_st (T' := s₁) (g' := (mkF m 2 #[rv a, rv va] [(.ref va), (.ref a)])) (fun _ k_ => XS.aloadN X0.here hx rfl (hb hby d4_1) rfl rfl  k_) ?_
  refine own_st (T' := s₁) (g' := (mkF m 3 #[rv a, rv va] [(.int (0 : Int32)), (.ref va), (.ref a)])) (fun _ k_ => XS.iconst X0.here hx rfl (hb hby d4_2) k_) ?_
  refine own_st (T' := s₁) (g' := (mkF m 4 #[rv a, rv va] [(.ref va), (.int (0 : Int32)), (.ref va), (.ref a)])) (fun _ k_ => XS.aloadN X0.here hx rfl (hb hby d4_3) rfl rfl  k_) ?_
  obtain ⟨cl1, Ar1, -, S1, N1, -, -⟩ := id VA
  refine own_st (T' := s₁) (g' := (mkF m 5 #[rv a, rv va] [(.int (4 : Int32)), (.int (0 : Int32)), (.ref va), (.ref a)])) (fun t_ k_ => X0.arraylength hx (by rw [e0]; exact Ar1.1) (State.isArrayOf_alike hZ.alike Ar1.2.1) (g := (mkF m 4 #[rv a, rv va] [(.ref va), (.int (0 : Int32)), (.ref va), (.ref a)])) rfl rfl (hb hby d4_4) _ (by rw [len_of S1 N1]; exact k_)) ?_
  refine own_st (T' := s₁) (g' := (mkF m 6 #[rv a, rv va] [.null, (.int (4 : Int32)), (.int (0 : Int32)), (.ref va), (.ref a)])) (fun _ k_ => XS.aconstNull X0.here hx rfl (hb hby d4_5) k_) ?_
  obtain ⟨_, T2, L2, X2, hQ2, st2⟩ := own_callI X0 hx (y := own_m12) rfl hown (mvT hZ (wd hw 21 rfl)) (mvT hZ (wd hw 22 rfl)) (mvT hZ (wd hw 24 rfl)) (by decide) (backOf (W := 0) (rm_in4u_4 l Z a0 hw [] a va kc cz c0 c1 c2 c3 h0 n0 O0 EA FV FC fa VA SC hcz hr0 hr1 hr2 hr3 hU SA SHI SLO) hZ (wd hw 24 rfl) (wd hw 17 rfl) (by decide) (by decide)) (g := (mkF m 6 #[rv a, rv va] [.null, (.int (4 : Int32)), (.int (0 : Int32)), (.ref va), (.ref a)])) rfl (by rw [hml]; rfl) (a := a) (argsL := [(.ref va), (.int (0 : Int32)), (.int (4 : Int32)), .null]) (rest := []) (lenOf pd___CIILjava_lang_Void__V rfl) rfl (by show 2 * 0 + _ ≤ _; exact Nat.le_of_eq rfl) (hb hby d4_6) rfl e0 (by decide) (by decide) (c' := 2) (s' := 12) rfl rfl
  obtain ⟨t2, kb2, rfl, Nq2, K2, fq2_0, fq2_1, fq2_2, fq2_3, xq2_fresh_t⟩ := hQ2
  have N2 := Fr.app N0 Nq2
  refine own_st (T' := T2) (g' := (mkF m 9 #[rv a, rv va] [])) st2 ?_
  clear st2
  have f3 := (Keep.refl h0 [a]).trans K2 (allS (Or.inl (List.mem_of_getElem? (i := 0) rfl)) all0)
  exact own_retV X2 hx hret hlk (hb hby d4_9) (by decide) (by decide) ⟨t2, kb2, rfl, N2, f3, fq2_0, fq2_1, fq2_2, fq2_3, (Nat.le_trans (Keep.refl h0 [a]).1 xq2_fresh_t)⟩
theorem ef_cmp3_4 (m : MethodId) (x0 : Addr) (x1 : Int32) (x2 : Int32) : entryFrame m #[(.ref x0), (.int x1), (.int x2)] 6 = mkF m 0 #[rv x0, iv x1, iv x2, .unset, .unset, .unset] [] := by first | (simp [entryFrame, mkF, argsToLocals, Value.category]; done) | rfl
def Q_cmp3_4 (Z : State) (va : Addr) (kc : ClassId) (c0 : Int32) (c1 : Int32) (c2 : Int32) (c3 : Int32) (h0 : Heap) (n0 : Nat) (v : Option Value) (h : Heap) (L : List Loc) : Prop := ∃ (t : Addr) (kb : ClassId), (v = some (.ref t)) ∧ (Fr n0 L) ∧ (Keep h0 h []) ∧ (Arv Z h t kb .byte (4 : Int32) [(.int (c0.toInt8.toInt32)), (.int (c1.toInt8.toInt32)), (.int (c2.toInt8.toInt32)), (.int (c3.toInt8.toInt32))] (.int (0 : Int32))) ∧ (h0.size ≤ t)
set_option maxRecDepth 65536 in
set_option maxHeartbeats 40000000 in
theorem rm_cmp3_4 (l : Launch) (Z : State) (a0 : Array Value) (hw : ∀ d ∈ tables_1, d.before a0 Z = true) (ws : List Jvm.Cond) (va : Addr) (kc : ClassId) (c0 : Int32) (c1 : Int32) (c2 : Int32) (c3 : Int32) (h0 : Heap) (n0 : Nat) (O0 : Old Z n0 h0) (VA : Arv Z h0 va kc .char (4 : Int32) [(.int c0), (.int c1), (.int c2), (.int c3)] (.int (0 : Int32))) (hp0 : ¬ (255 : Int32) < c0) (hp1 : ¬ (255 : Int32) < c1) (hp2 : ¬ (255 : Int32) < c2) (hp3 : ¬ (255 : Int32) < c3) :
    own_MF l own_m18 (Jvm.Cond.code own_m18 jdk_52_method_16_code 6 (some (.array .byte)) :: ws) ({ frames := 1, cells := 1, slots := 4, locals := 18 } : Room) #[(.ref va), (.int (0 : Int32)), (.int (4 : Int32))] Z h0 (Q_cmp3_4 Z va kc c0 c1 c2 c3 h0 n0) := by
  refine own_met (own := "java/lang/StringUTF16") (nme := "compress") rfl rfl (plainFor_of_name pn_3) ?_
  intro p e s m below meth c s₁ hx hby hml hown hnm X0 e0 hret hlk hZ
  have N0 := Fr.nil n0
  rw [ef_cmp3_4 m va (0 : Int32) (4 : Int32)]
  refine own_st (T' := s₁) (g' := (mkF m 1 #[rv va, iv (0 : Int32), iv (4 : Int32), .unset, .unset, .unset] [(.int (4 : Int32))])) (fun _ k_ => XS.iloadN X0.here hx rfl (hb hby d12_0) rfl  k_) ?_
  obtain ⟨T1, h1, k1, X1, e1, E1, A1, st1⟩ := newP X0 hx hZ (wd hw 29 rfl) e0 (g := (mkF m 1 #[rv va, iv (0 : Int32), iv (4 : Int32), .unset, .unset, .unset] [(.int (4 : Int32))])) rfl (hb hby d12_1) rfl (by decide) (cap := 4) (by decide) (by decide) (by decide) (by decide)
  obtain ⟨b1, g1⟩ : ∃ z, z = h0.size := ⟨_, rfl⟩
  rw [← g1] at A1 st1
  have fr1 : n0 ≤ b1 := Nat.le_trans (own_z O0) (Nat.le_of_eq g1.symm)
  have sz1 : h0.size ≤ b1 := Nat.le_trans (Keep.refl h0 []).1 (Nat.le_of_eq g1.symm)
  have V1 : Arv Z h1 b1 k1 .byte (4 : Int32) [(.int (0 : Int32)), (.int (0 : Int32)), (.int (0 : Int32)), (.int (0 : Int32))] (.int (0 : Int32)) := (Arv.new A1 (by decide)).pad (pad_rep [] (.int (0 : Int32)) 4)
  refine own_st (T' := T1) (g' := (mkF m 3 #[rv va, iv (0 : Int32), iv (4 : Int32), .unset, .unset, .unset] [(.ref b1)])) st1 ?_
  clear st1
  refine own_st (T' := T1) (g' := (mkF m 4 #[rv va, iv (0 : Int32), iv (4 : Int32), rv b1, .unset, .unset] [])) (fun _ k_ => XS.astoreN X1.here hx rfl (hb hby d12_3) rfl rfl (l' := #[rv va, iv (0 : Int32), iv (4 : Int32), rv b1, .unset, .unset]) rfl k_) ?_
  refine own_st (T' := T1) (g' := (mkF m 5 #[rv va, iv (0 : Int32), iv (4 : Int32), rv b1, .unset, .unset] [(.ref va)])) (fun _ k_ => XS.aloadN X1.here hx rfl (hb hby d12_4) rfl rfl  k_) ?_
  refine own_st (T' := T1) (g' := (mkF m 6 #[rv va, iv (0 : Int32), iv (4 : Int32), rv b1, .unset, .unset] [(.int (0 : Int32)), (.ref va)])) (fun _ k_ => XS.iloadN X1.here hx rfl (hb hby d12_5) rfl  k_) ?_
  refine own_st (T' := T1) (g' := (mkF m 7 #[rv va, iv (0 : Int32), iv (4 : Int32), rv b1, .unset, .unset] [(.ref b1), (.int (0 : Int32)), (.ref va)])) (fun _ k_ => XS.aloadN X1.here hx rfl (hb hby d12_6) rfl rfl  k_) ?_
  refine own_st (T' := T1) (g' := (mkF m 8 #[rv va, iv (0 : Int32), iv (4 : Int32), rv b1, .unset, .unset] [(.int (0 : Int32)), (.ref b1), (.int (0 : Int32)), (.ref va)])) (fun _ k_ => XS.iconst X1.here hx rfl (hb hby d12_7) k_) ?_
  refine own_st (T' := T1) (g' := (mkF m 9 #[rv va, iv (0 : Int32), iv (4 : Int32), rv b1, .unset, .unset] [(.int (4 : Int32)), (.int (0 : Int32)), (.ref b1), (.int (0 : Int32)), (.ref va)])) (fun _ k_ => XS.iloadN X1.here hx rfl (hb hby d12_8) rfl  k_) ?_
  have f2 := VA.ext E1
  have ne3 : va ≠ b1 := Nat.ne_of_lt (Nat.lt_of_lt_of_le VA.lt (Nat.le_of_eq g1.symm))
  have f4 := O0.ext E1
  obtain ⟨_, T5, L5, X5, hQ5, st5⟩ := own_callS X1 hx (y := own_m14) hown (mvT hZ (wd hw 61 rfl)) (mvT hZ (wd hw 62 rfl)) (mvT hZ (wd hw 59 rfl)) (mvT hZ (wd hw 63 rfl)) (by decide) (backOf (W := 0) (rm_c5u_4 l Z a0 hw [] va b1 kc k1 c0 c1 c2 c3 h1 n0 f4 f2 V1 ne3 fr1) hZ (wd hw 63 rfl) (wd hw 59 rfl) (by decide) (by decide)) (g := (mkF m 9 #[rv va, iv (0 : Int32), iv (4 : Int32), rv b1, .unset, .unset] [(.int (4 : Int32)), (.int (0 : Int32)), (.ref b1), (.int (0 : Int32)), (.ref va)])) rfl (by rw [hml]; rfl) (argsL := [(.ref va), (.int (0 : Int32)), (.ref b1), (.int (0 : Int32)), (.int (4 : Int32))]) (rest := []) (lenOf pd___CI_BII_I rfl) rfl (by show 2 * 0 + _ ≤ _; exact Nat.le_of_eq rfl) (hb hby d12_9) rfl e1 (by decide) (by decide) (c' := 1) (s' := 4) rfl rfl
  obtain ⟨rfl, Nq5, K5, xq5_full⟩ := hQ5
  have N5 := Fr.app N0 Nq5
  refine own_st (T' := T5) (g' := (mkF m 12 #[rv va, iv (0 : Int32), iv (4 : Int32), rv b1, .unset, .unset] [(.int (own_nd4 c0 c1 c2 c3))])) st5 ?_
  clear st5
  have hnd : (own_nd4 c0 c1 c2 c3) = (4 : Int32) := own_ndC4 hp0 hp1 hp2 hp3
  rw [hnd]
  have Vd : Arv Z T5.heap b1 k1 .byte (4 : Int32) [(.int (c0.toInt8.toInt32)), (.int (c1.toInt8.toInt32)), (.int (c2.toInt8.toInt32)), (.int (c3.toInt8.toInt32))] (.int (0 : Int32)) := xq5_full hnd
  refine own_st (T' := T5) (g' := (mkF m 14 #[rv va, iv (0 : Int32), iv (4 : Int32), rv b1, iv (4 : Int32), .unset] [])) (fun _ k_ => XS.istore X5.here hx rfl (hb hby d12_12) rfl (l' := #[rv va, iv (0 : Int32), iv (4 : Int32), rv b1, iv (4 : Int32), .unset]) rfl k_) ?_
  refine own_st (T' := T5) (g' := (mkF m 16 #[rv va, iv (0 : Int32), iv (4 : Int32), rv b1, iv (4 : Int32), .unset] [(.int (4 : Int32))])) (fun _ k_ => XS.iload X5.here hx rfl (hb hby d12_14) rfl  k_) ?_
  refine own_st (T' := T5) (g' := (mkF m 17 #[rv va, iv (0 : Int32), iv (4 : Int32), rv b1, iv (4 : Int32), .unset] [(.int (4 : Int32)), (.int (4 : Int32))])) (fun _ k_ => XS.iloadN X5.here hx rfl (hb hby d12_16) rfl  k_) ?_
  refine own_st (T' := T5) (g' := (mkF m 57 #[rv va, iv (0 : Int32), iv (4 : Int32), rv b1, iv (4 : Int32), .unset] [])) (fun _ k_ => XS.icmpYes X5.here hx rfl (pc0 := 17) (pc' := 57) rfl (hb hby d12_17) rfl (teq (rfl : (4 : Int32) = (4 : Int32))).1 (by decide) (by decide) k_) ?_
  refine own_st (T' := T5) (g' := (mkF m 58 #[rv va, iv (0 : Int32), iv (4 : Int32), rv b1, iv (4 : Int32), .unset] [(.ref b1)])) (fun _ k_ => XS.aloadN X5.here hx rfl (hb hby d12_57) rfl rfl  k_) ?_
  have f6 := (Keep.refl h0 []).ext E1
  have f7 := f6.trans K5 (allS (Or.inr sz1) all0)
  exact own_retA X5 hx hret rfl rfl hlk (hb hby d12_58) (by decide) (by decide) ⟨b1, k1, rfl, N5, f7, Vd, sz1⟩
theorem ef_cdr_4 (m : MethodId) (x0 : Addr) (x1 : Int32) : entryFrame m #[(.ref x0), (.int x1)] 2 = mkF m 0 #[rv x0, iv x1] [] := by first | (simp [entryFrame, mkF, argsToLocals, Value.category]; done) | rfl
def Q_cdr_4 (Z : State) (t : Addr) (kb : ClassId) (vs : List Value) (h0 : Heap) (n0 : Nat) (v : Option Value) (h : Heap) (L : List Loc) : Prop := (v = some (.int (0 : Int32))) ∧ (Fr n0 L) ∧ (h = h0)
set_option maxRecDepth 65536 in
set_option maxHeartbeats 40000000 in
theorem rm_cdr_4 (l : Launch) (Z : State) (a0 : Array Value) (hw : ∀ d ∈ tables_1, d.before a0 Z = true) (ws : List Jvm.Cond) (t : Addr) (kb : ClassId) (vs : List Value) (h0 : Heap) (n0 : Nat) (O0 : Old Z n0 h0) (VT : Arv Z h0 t kb .byte (4 : Int32) vs (.int (0 : Int32))) :
    own_MF l own_m19 (Jvm.Cond.code own_m19 jdk_52_method_15_code 2 (some .byte) :: ws) ({ frames := 0, cells := 0, slots := 0, locals := 0 } : Room) #[(.ref t), (.int (4 : Int32))] Z h0 (Q_cdr_4 Z t kb vs h0 n0) := by
  refine own_met (own := "java/lang/StringUTF16") (nme := "coderFromArrayLen") rfl rfl (plainFor_of_name pn_3) ?_
  intro p e s m below meth c s₁ hx hby hml hown hnm X0 e0 hret hlk hZ
  have N0 := Fr.nil n0
  rw [ef_cdr_4 m t (4 : Int32)]
  refine own_st (T' := s₁) (g' := (mkF m 1 #[rv t, iv (4 : Int32)] [(.int (4 : Int32))])) (fun _ k_ => XS.iloadN X0.here hx rfl (hb hby d14_0) rfl  k_) ?_
  refine own_st (T' := s₁) (g' := (mkF m 2 #[rv t, iv (4 : Int32)] [(.ref t), (.int (4 : Int32))])) (fun _ k_ => XS.aloadN X0.here hx rfl (hb hby d14_1) rfl rfl  k_) ?_
  obtain ⟨cl1, Ar1, -, S1, N1, -, -⟩ := id VT
  refine own_st (T' := s₁) (g' := (mkF m 3 #[rv t, iv (4 : Int32)] [(.int (4 : Int32)), (.int (4 : Int32))])) (fun t_ k_ => X0.arraylength hx (by rw [e0]; exact Ar1.1) (State.isArrayOf_alike hZ.alike Ar1.2.1) (g := (mkF m 2 #[rv t, iv (4 : Int32)] [(.ref t), (.int (4 : Int32))])) rfl rfl (hb hby d14_2) _ (by rw [len_of S1 N1]; exact k_)) ?_
  refine own_st (T' := s₁) (g' := (mkF m 4 #[rv t, iv (4 : Int32)] [(.int (0 : Int32))])) (fun _ k_ => XS.isub X0.here hx rfl (hb hby d14_3) rfl k_) ?_
  refine own_st (T' := s₁) (g' := (mkF m 6 #[rv t, iv (4 : Int32)] [(.int (31 : Int32)), (.int (0 : Int32))])) (fun _ k_ => XS.bipush X0.here hx rfl (hb hby d14_4) k_) ?_
  refine own_st (T' := s₁) (g' := (mkF m 7 #[rv t, iv (4 : Int32)] [(.int (((0 : Int32).toUInt32 >>> ((31 : Int32) &&& 31).toUInt32).toInt32))])) (fun _ k_ => XS.iushr X0.here hx rfl (hb hby d14_6) rfl k_) ?_
  refine own_st (T' := s₁) (g' := (mkF m 8 #[rv t, iv (4 : Int32)] [(.int ((((0 : Int32).toUInt32 >>> ((31 : Int32) &&& 31).toUInt32).toInt32).toInt8.toInt32))])) (fun _ k_ => XS.i2b X0.here hx rfl (hb hby d14_7) rfl k_) ?_
  exact own_retN X0 hx (t := .byte) hret (by simp) hlk (hb hby d14_8) (by decide) (by decide) ⟨(by decide), N0, e0⟩
theorem ef_ini4_4 (m : MethodId) (x0 : Addr) (x1 : Addr) (x2 : Int32) (x3 : Int32) : entryFrame m #[(.ref x0), (.ref x1), (.int x2), (.int x3), .null] 6 = mkF m 0 #[rv x0, rv x1, iv x2, iv x3, .val .null, .unset] [] := by first | (simp [entryFrame, mkF, argsToLocals, Value.category]; done) | rfl
def Q_ini4_4 (Z : State) (a : Addr) (va : Addr) (kc : ClassId) (cz : Int32) (c0 : Int32) (c1 : Int32) (c2 : Int32) (c3 : Int32) (h0 : Heap) (n0 : Nat) (v : Option Value) (h : Heap) (L : List Loc) : Prop := ∃ (t : Addr) (kb : ClassId), (v = none) ∧ (Fr n0 L) ∧ (Keep h0 h [a]) ∧ (Exa Z h a "java/lang/String") ∧ (Fld Z h a "java/lang/String" "coder" "B" (.int (0 : Int32))) ∧ (Fld Z h a "java/lang/String" "value" "[B" (.ref t)) ∧ (Arv Z h t kb .byte (4 : Int32) [(.int (c0.toInt8.toInt32)), (.int (c1.toInt8.toInt32)), (.int (c2.toInt8.toInt32)), (.int (c3.toInt8.toInt32))] (.int (0 : Int32))) ∧ (h0.size ≤ t)
set_option maxRecDepth 65536 in
set_option maxHeartbeats 40000000 in
theorem rm_ini4_4 (l : Launch) (Z : State) (a0 : Array Value) (hw : ∀ d ∈ tables_1, d.before a0 Z = true) (ws : List Jvm.Cond) (a : Addr) (va : Addr) (kc : ClassId) (cz : Int32) (c0 : Int32) (c1 : Int32) (c2 : Int32) (c3 : Int32) (h0 : Heap) (n0 : Nat) (O0 : Old Z n0 h0) (EA : Exa Z h0 a "java/lang/String") (FV : Fld Z h0 a "java/lang/String" "value" "[B" .null) (FC : Fld Z h0 a "java/lang/String" "coder" "B" (.int (0 : Int32))) (fa : n0 ≤ a) (VA : Arv Z h0 va kc .char (4 : Int32) [(.int c0), (.int c1), (.int c2), (.int c3)] (.int (0 : Int32))) (SC : Sta Z Z.heap "java/lang/String" "COMPACT_STRINGS" "Z" (.int cz)) (hcz : ¬ cz = (0 : Int32)) (hp0 : ¬ (255 : Int32) < c0) (hp1 : ¬ (255 : Int32) < c1) (hp2 : ¬ (255 : Int32) < c2) (hp3 : ¬ (255 : Int32) < c3) :
    own_MF l own_m12 (Jvm.Cond.code own_m12 jdk_42_method_149_code 6 none :: ws) ({ frames := 2, cells := 1, slots := 4, locals := 35 } : Room) #[(.ref a), (.ref va), (.int (0 : Int32)), (.int (4 : Int32)), .null] Z h0 (Q_ini4_4 Z a va kc cz c0 c1 c2 c3 h0 n0) := by
  refine own_met (own := "java/lang/String") (nme := "<init>") rfl rfl (plainFor_of_name pn_0) ?_
  intro p e s m below meth c s₁ hx hby hml hown hnm X0 e0 hret hlk hZ
  have N0 := Fr.nil n0
  rw [ef_ini4_4 m a va (0 : Int32) (4 : Int32)]
  refine own_st (T' := s₁) (g' := (mkF m 1 #[rv a, rv va, iv (0 : Int32), iv (4 : Int32), .val .null, .unset] [(.ref a)])) (fun _ k_ => XS.aloadN X0.here hx rfl (hb hby d5_0) rfl rfl  k_) ?_
  obtain ⟨T1, X1, e1, st1⟩ := initO X0 hx hZ hown (wd hw 25 rfl) (wd hw 26 rfl) (wd hw 27 rfl) e0 (g := (mkF m 1 #[rv a, rv va, iv (0 : Int32), iv (4 : Int32), .val .null, .unset] [(.ref a)])) rfl (by rw [hml]; rfl) rfl (hb hby d5_1) (by decide) (W := 0) (by show 2 * 0 + _ ≤ _; exact Nat.le_of_eq rfl) (by decide)
  refine own_st (T' := T1) (g' := (mkF m 4 #[rv a, rv va, iv (0 : Int32), iv (4 : Int32), .val .null, .unset] [])) st1 ?_
  clear st1
  refine own_st (T' := T1) (g' := (mkF m 5 #[rv a, rv va, iv (0 : Int32), iv (4 : Int32), .val .null, .unset] [(.int (4 : Int32))])) (fun _ k_ => XS.iloadN X1.here hx rfl (hb hby d5_4) rfl  k_) ?_
  refine own_st (T' := T1) (g' := (mkF m 27 #[rv a, rv va, iv (0 : Int32), iv (4 : Int32), .val .null, .unset] [])) (fun _ k_ => XS.ifYes X1.here hx rfl (pc0 := 5) (pc' := 27) rfl (hb hby d5_5) rfl ((if0 _ _).trans (feq (by decide : ¬ ((4 : Int32) = (0 : Int32)))).2) (by decide) (by decide) k_) ?_
  obtain ⟨T2, X2, e2, st2⟩ := getS2 X1 hx hZ hown (host := "") (Or.inl (wd hw 50 rfl)) Via.refl e1 (SC.ext O0.2) (g := (mkF m 27 #[rv a, rv va, iv (0 : Int32), iv (4 : Int32), .val .null, .unset] [])) rfl (hb hby d5_27)
  refine own_st (T' := T2) (g' := (mkF m 30 #[rv a, rv va, iv (0 : Int32), iv (4 : Int32), .val .null, .unset] [(.int cz)])) st2 ?_
  clear st2
  refine own_st (T' := T2) (g' := (mkF m 33 #[rv a, rv va, iv (0 : Int32), iv (4 : Int32), .val .null, .unset] [])) (fun _ k_ => XS.ifNo X2.here hx rfl (hb hby d5_30) rfl ((if0 _ _).trans (feq (hcz : ¬ (cz = (0 : Int32)))).1) k_) ?_
  refine own_st (T' := T2) (g' := (mkF m 34 #[rv a, rv va, iv (0 : Int32), iv (4 : Int32), .val .null, .unset] [(.ref va)])) (fun _ k_ => XS.aloadN X2.here hx rfl (hb hby d5_33) rfl rfl  k_) ?_
  refine own_st (T' := T2) (g' := (mkF m 35 #[rv a, rv va, iv (0 : Int32), iv (4 : Int32), .val .null, .unset] [(.int (0 : Int32)), (.ref va)])) (fun _ k_ => XS.iloadN X2.here hx rfl (hb hby d5_34) rfl  k_) ?_
  refine own_st (T' := T2) (g' := (mkF m 36 #[rv a, rv va, iv (0 : Int32), iv (4 : Int32), .val .null, .unset] [(.int (4 : Int32)), (.int (0 : Int32)), (.ref va)])) (fun _ k_ => XS.iloadN X2.here hx rfl (hb hby d5_35) rfl  k_) ?_
  obtain ⟨_, T3, L3, X3, hQ3, st3⟩ := own_callS X2 hx (y := own_m18) hown (mvT hZ (wd hw 57 rfl)) (mvT hZ (wd hw 58 rfl)) (mvT hZ (wd hw 59 rfl)) (mvT hZ (wd hw 60 rfl)) (by decide) (backOf (W := 0) (rm_cmp3_4 l Z a0 hw [] va kc c0 c1 c2 c3 h0 n0 O0 VA hp0 hp1 hp2 hp3) hZ (wd hw 60 rfl) (wd hw 59 rfl) (by decide) (by decide)) (g := (mkF m 36 #[rv a, rv va, iv (0 : Int32), iv (4 : Int32), .val .null, .unset] [(.int (4 : Int32)), (.int (0 : Int32)), (.ref va)])) rfl (by rw [hml]; rfl) (argsL := [(.ref va), (.int (0 : Int32)), (.int (4 : Int32))]) (rest := []) (lenOf pd___CII__B rfl) rfl (by show 2 * 0 + _ ≤ _; exact Nat.le_of_eq rfl) (hb hby d5_36) rfl e2 (by decide) (by decide) (c' := 1) (s' := 4) rfl rfl
  obtain ⟨t3, kb3, rfl, Nq3, K3, fq3_0, xq3_fresh_t⟩ := hQ3
  have N3 := Fr.app N0 Nq3
  refine own_st (T' := T3) (g' := (mkF m 39 #[rv a, rv va, iv (0 : Int32), iv (4 : Int32), .val .null, .unset] [(.ref t3)])) st3 ?_
  clear st3
  refine own_st (T' := T3) (g' := (mkF m 41 #[rv a, rv va, iv (0 : Int32), iv (4 : Int32), .val .null, rv t3] [])) (fun _ k_ => XS.astore X3.here hx rfl (hb hby d5_39) rfl rfl (l' := #[rv a, rv va, iv (0 : Int32), iv (4 : Int32), .val .null, rv t3]) rfl k_) ?_
  refine own_st (T' := T3) (g' := (mkF m 42 #[rv a, rv va, iv (0 : Int32), iv (4 : Int32), .val .null, rv t3] [(.ref a)])) (fun _ k_ => XS.aloadN X3.here hx rfl (hb hby d5_41) rfl rfl  k_) ?_
  refine own_st (T' := T3) (g' := (mkF m 44 #[rv a, rv va, iv (0 : Int32), iv (4 : Int32), .val .null, rv t3] [(.ref t3), (.ref a)])) (fun _ k_ => XS.aload X3.here hx rfl (hb hby d5_42) rfl rfl  k_) ?_
  refine own_st (T' := T3) (g' := (mkF m 45 #[rv a, rv va, iv (0 : Int32), iv (4 : Int32), .val .null, rv t3] [(.int (4 : Int32)), (.ref t3), (.ref a)])) (fun _ k_ => XS.iloadN X3.here hx rfl (hb hby d5_44) rfl  k_) ?_
  have f4 := O0.keep K3 all0
  obtain ⟨_, T5, L5, X5, hQ5, st5⟩ := own_callS X3 hx (y := own_m19) hown (mvT hZ (wd hw 64 rfl)) (mvT hZ (wd hw 65 rfl)) (mvT hZ (wd hw 59 rfl)) (mvT hZ (wd hw 66 rfl)) (by decide) (backOf (W := 1) (rm_cdr_4 l Z a0 hw [] t3 kb3 [(.int (c0.toInt8.toInt32)), (.int (c1.toInt8.toInt32)), (.int (c2.toInt8.toInt32)), (.int (c3.toInt8.toInt32))] T3.heap n0 f4 fq3_0) hZ (wd hw 66 rfl) (wd hw 59 rfl) (by decide) (by decide)) (g := (mkF m 45 #[rv a, rv va, iv (0 : Int32), iv (4 : Int32), .val .null, rv t3] [(.int (4 : Int32)), (.ref t3), (.ref a)])) rfl (by rw [hml]; rfl) (argsL := [(.ref t3), (.int (4 : Int32))]) (rest := [(.ref a)]) (lenOf pd___BI_B rfl) rfl (by show 2 * 0 + _ ≤ _; exact Nat.le_of_eq rfl) (hb hby d5_45) rfl rfl (by decide) (by decide) (c' := 1) (s' := 4) rfl rfl
  obtain ⟨rfl, Nq5, eq5⟩ := hQ5
  have N5 := Fr.app N3 Nq5
  refine own_st (T' := T5) (g' := (mkF m 48 #[rv a, rv va, iv (0 : Int32), iv (4 : Int32), .val .null, rv t3] [(.int (0 : Int32)), (.ref a)])) st5 ?_
  clear st5
  have f6 := EA.keep K3
  have f7 := FC.keep K3 nin0
  obtain ⟨T8, h8, X8, e8, W8, st8⟩ := putFN X5 hx hZ hown (wd hw 35 rfl) Via.refl eq5 f7 f6 (Or.inr ⟨(wd hw 31 rfl), rfl, hnm⟩) (wd hw 16 rfl) (ty := .byte) (v' := (.int (0 : Int32))) (by decide) rfl (by decide) (g := (mkF m 48 #[rv a, rv va, iv (0 : Int32), iv (4 : Int32), .val .null, rv t3] [(.int (0 : Int32)), (.ref a)])) rfl rfl (hb hby d5_48)
  have Fw8 : Fld Z h8 a "java/lang/String" "coder" "B" (.int (0 : Int32)) := Fld.same W8 f7
  have N8 := Fr.snoc X8 N5 fa
  refine own_st (T' := T8) (g' := (mkF m 51 #[rv a, rv va, iv (0 : Int32), iv (4 : Int32), .val .null, rv t3] [])) st8 ?_
  clear st8
  refine own_st (T' := T8) (g' := (mkF m 52 #[rv a, rv va, iv (0 : Int32), iv (4 : Int32), .val .null, rv t3] [(.ref a)])) (fun _ k_ => XS.aloadN X8.here hx rfl (hb hby d5_51) rfl rfl  k_) ?_
  refine own_st (T' := T8) (g' := (mkF m 54 #[rv a, rv va, iv (0 : Int32), iv (4 : Int32), .val .null, rv t3] [(.ref t3), (.ref a)])) (fun _ k_ => XS.aload X8.here hx rfl (hb hby d5_52) rfl rfl  k_) ?_
  have f9 := f6.wr W8
  have f10 := FV.keep K3 nin0
  have f11 := f10.other W8 (Or.inr (slot_ne (Or.inr (wd hw 30 rfl)) (Or.inr (wd hw 31 rfl)) (by decide) (t := (.array .byte)) (t' := .byte) (by decide) (by decide)))
  obtain ⟨T12, h12, X12, e12, W12, st12⟩ := putF X8 hx hZ hown (host := "") (Or.inl (wd hw 34 rfl)) Via.refl e8 f11 f9 (Or.inr ⟨(wd hw 30 rfl), rfl, hnm⟩) (wd hw 16 rfl) (ty := (.array .byte)) (by decide) rfl rfl (g := (mkF m 54 #[rv a, rv va, iv (0 : Int32), iv (4 : Int32), .val .null, rv t3] [(.ref t3), (.ref a)])) rfl rfl (hb hby d5_54)
  have Fw12 : Fld Z h12 a "java/lang/String" "value" "[B" (.ref t3) := Fld.same W12 f11
  have N12 := Fr.snoc X12 N8 fa
  refine own_st (T' := T12) (g' := (mkF m 57 #[rv a, rv va, iv (0 : Int32), iv (4 : Int32), .val .null, rv t3] [])) st12 ?_
  clear st12
  have f13 := (Keep.refl h0 [a]).trans K3 all0
  have f14 := f13.wr W8 (Or.inl (List.mem_of_getElem? (i := 0) rfl))
  have f15 := f14.wr W12 (Or.inl (List.mem_of_getElem? (i := 0) rfl))
  have f16 := f9.wr W12
  have f17 := Fw8.other W12 (Or.inr (slot_ne (Or.inr (wd hw 31 rfl)) (Or.inr (wd hw 30 rfl)) (by decide) (t := .byte) (t' := (.array .byte)) (by decide) (by decide)))
  have ne18 : a ≠ t3 := Nat.ne_of_lt (Nat.lt_of_lt_of_le EA.lt xq3_fresh_t)
  have f19 := fq3_0.other W8 (Ne.symm ne18)
  have f20 := f19.other W12 (Ne.symm ne18)
  exact own_retV X12 hx hret hlk (hb hby d5_57) (by decide) (by decide) (by rw [e12]; exact ⟨t3, kb3, rfl, N12, f15, f16, f17, Fw12, f20, (Nat.le_trans (Keep.refl h0 [a]).1 xq3_fresh_t)⟩)
theorem ef_ini1_4 (m : MethodId) (x0 : Addr) (x1 : Addr) : entryFrame m #[(.ref x0), (.ref x1)] 2 = mkF m 0 #[rv x0, rv x1] [] := by first | (simp [entryFrame, mkF, argsToLocals, Value.category]; done) | rfl
def Q_ini1_4 (Z : State) (a : Addr) (va : Addr) (kc : ClassId) (cz : Int32) (c0 : Int32) (c1 : Int32) (c2 : Int32) (c3 : Int32) (h0 : Heap) (n0 : Nat) (v : Option Value) (h : Heap) (L : List Loc) : Prop := ∃ (t : Addr) (kb : ClassId), (v = none) ∧ (Fr n0 L) ∧ (Keep h0 h [a]) ∧ (Exa Z h a "java/lang/String") ∧ (Fld Z h a "java/lang/String" "coder" "B" (.int (0 : Int32))) ∧ (Fld Z h a "java/lang/String" "value" "[B" (.ref t)) ∧ (Arv Z h t kb .byte (4 : Int32) [(.int (c0.toInt8.toInt32)), (.int (c1.toInt8.toInt32)), (.int (c2.toInt8.toInt32)), (.int (c3.toInt8.toInt32))] (.int (0 : Int32))) ∧ (h0.size ≤ t)
set_option maxRecDepth 65536 in
set_option maxHeartbeats 40000000 in
theorem rm_ini1_4 (l : Launch) (Z : State) (a0 : Array Value) (hw : ∀ d ∈ tables_1, d.before a0 Z = true) (ws : List Jvm.Cond) (a : Addr) (va : Addr) (kc : ClassId) (cz : Int32) (c0 : Int32) (c1 : Int32) (c2 : Int32) (c3 : Int32) (h0 : Heap) (n0 : Nat) (O0 : Old Z n0 h0) (EA : Exa Z h0 a "java/lang/String") (FV : Fld Z h0 a "java/lang/String" "value" "[B" .null) (FC : Fld Z h0 a "java/lang/String" "coder" "B" (.int (0 : Int32))) (fa : n0 ≤ a) (VA : Arv Z h0 va kc .char (4 : Int32) [(.int c0), (.int c1), (.int c2), (.int c3)] (.int (0 : Int32))) (SC : Sta Z Z.heap "java/lang/String" "COMPACT_STRINGS" "Z" (.int cz)) (hcz : ¬ cz = (0 : Int32)) (hp0 : ¬ (255 : Int32) < c0) (hp1 : ¬ (255 : Int32) < c1) (hp2 : ¬ (255 : Int32) < c2) (hp3 : ¬ (255 : Int32) < c3) :
    own_MF l own_m13 (Jvm.Cond.code own_m13 jdk_42_method_3_code 2 none :: ws) ({ frames := 3, cells := 1, slots := 4, locals := 52 } : Room) #[(.ref a), (.ref va)] Z h0 (Q_ini1_4 Z a va kc cz c0 c1 c2 c3 h0 n0) := by
  refine own_met (own := "java/lang/String") (nme := "<init>") rfl rfl (plainFor_of_name pn_0) ?_
  intro p e s m below meth c s₁ hx hby hml hown hnm X0 e0 hret hlk hZ
  have N0 := Fr.nil n0
  rw [ef_ini1_4 m a va]
  refine own_st (T' := s₁) (g' := (mkF m 1 #[rv a, rv va] [(.ref a)])) (fun _ k_ => XS.aloadN X0.here hx rfl (hb hby d4_0) rfl rfl  k_) ?_
  refine own_st (T' := s₁) (g' := (mkF m 2 #[rv a, rv va] [(.ref va), (.ref a)])) (fun _ k_ => XS.aloadN X0.here hx rfl (hb hby d4_1) rfl rfl  k_) ?_
  refine own_st (T' := s₁) (g' := (mkF m 3 #[rv a, rv va] [(.int (0 : Int32)), (.ref va), (.ref a)])) (fun _ k_ => XS.iconst X0.here hx rfl (hb hby d4_2) k_) ?_
  refine own_st (T' := s₁) (g' := (mkF m 4 #[rv a, rv va] [(.ref va), (.int (0 : Int32)), (.ref va), (.ref a)])) (fun _ k_ => XS.aloadN X0.here hx rfl (hb hby d4_3) rfl rfl  k_) ?_
  obtain ⟨cl1, Ar1, -, S1, N1, -, -⟩ := id VA
  refine own_st (T' := s₁) (g' := (mkF m 5 #[rv a, rv va] [(.int (4 : Int32)), (.int (0 : Int32)), (.ref va), (.ref a)])) (fun t_ k_ => X0.arraylength hx (by rw [e0]; exact Ar1.1) (State.isArrayOf_alike hZ.alike Ar1.2.1) (g := (mkF m 4 #[rv a, rv va] [(.ref va), (.int (0 : Int32)), (.ref va), (.ref a)])) rfl rfl (hb hby d4_4) _ (by rw [len_of S1 N1]; exact k_)) ?_
  refine own_st (T' := s₁) (g' := (mkF m 6 #[rv a, rv va] [.null, (.int (4 : Int32)), (.int (0 : Int32)), (.ref va), (.ref a)])) (fun _ k_ => XS.aconstNull X0.here hx rfl (hb hby d4_5) k_) ?_
  obtain ⟨_, T2, L2, X2, hQ2, st2⟩ := own_callI X0 hx (y := own_m12) rfl hown (mvT hZ (wd hw 21 rfl)) (mvT hZ (wd hw 22 rfl)) (mvT hZ (wd hw 24 rfl)) (by decide) (backOf (W := 0) (rm_ini4_4 l Z a0 hw [] a va kc cz c0 c1 c2 c3 h0 n0 O0 EA FV FC fa VA SC hcz hp0 hp1 hp2 hp3) hZ (wd hw 24 rfl) (wd hw 17 rfl) (by decide) (by decide)) (g := (mkF m 6 #[rv a, rv va] [.null, (.int (4 : Int32)), (.int (0 : Int32)), (.ref va), (.ref a)])) rfl (by rw [hml]; rfl) (a := a) (argsL := [(.ref va), (.int (0 : Int32)), (.int (4 : Int32)), .null]) (rest := []) (lenOf pd___CIILjava_lang_Void__V rfl) rfl (by show 2 * 0 + _ ≤ _; exact Nat.le_of_eq rfl) (hb hby d4_6) rfl e0 (by decide) (by decide) (c' := 1) (s' := 4) rfl rfl
  obtain ⟨t2, kb2, rfl, Nq2, K2, fq2_0, fq2_1, fq2_2, fq2_3, xq2_fresh_t⟩ := hQ2
  have N2 := Fr.app N0 Nq2
  refine own_st (T' := T2) (g' := (mkF m 9 #[rv a, rv va] [])) st2 ?_
  clear st2
  have f3 := (Keep.refl h0 [a]).trans K2 (allS (Or.inl (List.mem_of_getElem? (i := 0) rfl)) all0)
  exact own_retV X2 hx hret hlk (hb hby d4_9) (by decide) (by decide) ⟨t2, kb2, rfl, N2, f3, fq2_0, fq2_1, fq2_2, fq2_3, (Nat.le_trans (Keep.refl h0 [a]).1 xq2_fresh_t)⟩
theorem d20_0 : decode jdk_89_method_14_code 0 = .ok (.iload_n 0, 1) := by decide +kernel
theorem d20_1 : decode jdk_89_method_14_code 1 = .ok (.ldc 75, 2) := by decide +kernel
theorem d20_3 : decode jdk_89_method_14_code 3 = .ok (.if_icmp .lt 13, 3) := by decide +kernel
theorem d20_6 : decode jdk_89_method_14_code 6 = .ok (.iload_n 0, 1) := by decide +kernel
theorem d20_7 : decode jdk_89_method_14_code 7 = .ok (.ldc 76, 2) := by decide +kernel
theorem d20_9 : decode jdk_89_method_14_code 9 = .ok (.if_icmp .ge 7, 3) := by decide +kernel
theorem d20_12 : decode jdk_89_method_14_code 12 = .ok (.iconst 1, 1) := by decide +kernel
theorem d20_13 : decode jdk_89_method_14_code 13 = .ok (.goto 4, 3) := by decide +kernel
theorem d20_16 : decode jdk_89_method_14_code 16 = .ok (.iconst 0, 1) := by decide +kernel
theorem d20_17 : decode jdk_89_method_14_code 17 = .ok (.ireturn, 1) := by decide +kernel
theorem pn_4 : plainName "java/lang/Character" = true := by first | (simp [plainName, overriddenIn]; done) | decide +kernel
theorem ef_chi (m : MethodId) (x0 : Int32) : entryFrame m #[(.int x0)] 1 = mkF m 0 #[iv x0] [] := by first | (simp [entryFrame, mkF, argsToLocals, Value.category]; done) | rfl
def Q_chi (Z : State) (cc : Int32) (h0 : Heap) (n0 : Nat) (v : Option Value) (h : Heap) (L : List Loc) : Prop := (v = some (.int (own_hi cc))) ∧ (Fr n0 L) ∧ (h = h0)
set_option maxRecDepth 65536 in
set_option maxHeartbeats 40000000 in
theorem rm_chi (l : Launch) (Z : State) (a0 : Array Value) (hw : ∀ d ∈ tables_1, d.before a0 Z = true) (ws : List Jvm.Cond) (cc : Int32) (h0 : Heap) (n0 : Nat) (O0 : Old Z n0 h0) :
    own_MF l own_m20 (Jvm.Cond.code own_m20 jdk_89_method_14_code 1 (some .boolean) :: ws) ({ frames := 0, cells := 0, slots := 0, locals := 0 } : Room) #[(.int cc)] Z h0 (Q_chi Z cc h0 n0) := by
  refine own_met (own := "java/lang/Character") (nme := "isHighSurrogate") rfl rfl (plainFor_of_name pn_4) ?_
  intro p e s m below meth c s₁ hx hby hml hown hnm X0 e0 hret hlk hZ
  have N0 := Fr.nil n0
  rw [ef_chi m cc]
  refine own_st (T' := s₁) (g' := (mkF m 1 #[iv cc] [(.int cc)])) (fun _ k_ => XS.iloadN X0.here hx rfl (hb hby d20_0) rfl  k_) ?_
  refine own_st (T' := s₁) (g' := (mkF m 3 #[iv cc] [(.int (55296 : Int32)), (.int cc)])) (X0.ldcInt hx hown (mvT hZ (wd hw 93 rfl)) (g := (mkF m 1 #[iv cc] [(.int cc)])) rfl (hb hby d20_1)) ?_
  by_cases hc1 : cc < (55296 : Int32)
  · refine own_st (T' := s₁) (g' := (mkF m 16 #[iv cc] [])) (fun _ k_ => XS.icmpYes X0.here hx rfl (pc0 := 3) (pc' := 16) rfl (hb hby d20_3) rfl (tlt hc1).1 (by decide) (by decide) k_) ?_
    refine own_st (T' := s₁) (g' := (mkF m 17 #[iv cc] [(.int (0 : Int32))])) (fun _ k_ => XS.iconst X0.here hx rfl (hb hby d20_16) k_) ?_
    exact own_retN X0 hx (t := .boolean) hret (by simp) hlk (hb hby d20_17) (by decide) (by decide) ⟨(by unfold own_hi; rw [if_pos hc1]; rfl), N0, e0⟩
  · refine own_st (T' := s₁) (g' := (mkF m 6 #[iv cc] [])) (fun _ k_ => XS.icmpNo X0.here hx rfl (hb hby d20_3) rfl (flt hc1).1 k_) ?_
    refine own_st (T' := s₁) (g' := (mkF m 7 #[iv cc] [(.int cc)])) (fun _ k_ => XS.iloadN X0.here hx rfl (hb hby d20_6) rfl  k_) ?_
    refine own_st (T' := s₁) (g' := (mkF m 9 #[iv cc] [(.int (56320 : Int32)), (.int cc)])) (X0.ldcInt hx hown (mvT hZ (wd hw 128 rfl)) (g := (mkF m 7 #[iv cc] [(.int cc)])) rfl (hb hby d20_7)) ?_
    by_cases hc2 : cc < (56320 : Int32)
    · refine own_st (T' := s₁) (g' := (mkF m 12 #[iv cc] [])) (fun _ k_ => XS.icmpNo X0.here hx rfl (hb hby d20_9) rfl (tlt hc2).2.1 k_) ?_
      refine own_st (T' := s₁) (g' := (mkF m 13 #[iv cc] [(.int (1 : Int32))])) (fun _ k_ => XS.iconst X0.here hx rfl (hb hby d20_12) k_) ?_
      refine own_st (T' := s₁) (g' := (mkF m 17 #[iv cc] [(.int (1 : Int32))])) (fun _ k_ => XS.goto X0.here hx rfl (pc0 := 13) (pc' := 17) rfl (hb hby d20_13) (by decide) (by decide) k_) ?_
      exact own_retN X0 hx (t := .boolean) hret (by simp) hlk (hb hby d20_17) (by decide) (by decide) ⟨(by unfold own_hi; rw [if_neg hc1, if_pos hc2]; rfl), N0, e0⟩
    · refine own_st (T' := s₁) (g' := (mkF m 16 #[iv cc] [])) (fun _ k_ => XS.icmpYes X0.here hx rfl (pc0 := 9) (pc' := 16) rfl (hb hby d20_9) rfl (flt hc2).2.1 (by decide) (by decide) k_) ?_
      refine own_st (T' := s₁) (g' := (mkF m 17 #[iv cc] [(.int (0 : Int32))])) (fun _ k_ => XS.iconst X0.here hx rfl (hb hby d20_16) k_) ?_
      exact own_retN X0 hx (t := .boolean) hret (by simp) hlk (hb hby d20_17) (by decide) (by decide) ⟨(by unfold own_hi; rw [if_neg hc1, if_neg hc2]; rfl), N0, e0⟩
theorem d30_0 : decode jdk_89_method_15_code 0 = .ok (.iload_n 0, 1) := by decide +kernel
theorem d30_1 : decode jdk_89_method_15_code 1 = .ok (.ldc 76, 2) := by decide +kernel
theorem d30_3 : decode jdk_89_method_15_code 3 = .ok (.if_icmp .lt 13, 3) := by decide +kernel
theorem d30_6 : decode jdk_89_method_15_code 6 = .ok (.iload_n 0, 1) := by decide +kernel
theorem d30_7 : decode jdk_89_method_15_code 7 = .ok (.ldc 77, 2) := by decide +kernel
theorem d30_9 : decode jdk_89_method_15_code 9 = .ok (.if_icmp .ge 7, 3) := by decide +kernel
theorem d30_12 : decode jdk_89_method_15_code 12 = .ok (.iconst 1, 1) := by decide +kernel
theorem d30_13 : decode jdk_89_method_15_code 13 = .ok (.goto 4, 3) := by decide +kernel
theorem d30_16 : decode jdk_89_method_15_code 16 = .ok (.iconst 0, 1) := by decide +kernel
theorem d30_17 : decode jdk_89_method_15_code 17 = .ok (.ireturn, 1) := by decide +kernel
theorem ef_clo (m : MethodId) (x0 : Int32) : entryFrame m #[(.int x0)] 1 = mkF m 0 #[iv x0] [] := by first | (simp [entryFrame, mkF, argsToLocals, Value.category]; done) | rfl
def Q_clo (Z : State) (cc : Int32) (h0 : Heap) (n0 : Nat) (v : Option Value) (h : Heap) (L : List Loc) : Prop := (v = some (.int (own_lo cc))) ∧ (Fr n0 L) ∧ (h = h0)
set_option maxRecDepth 65536 in
set_option maxHeartbeats 40000000 in
theorem rm_clo (l : Launch) (Z : State) (a0 : Array Value) (hw : ∀ d ∈ tables_1, d.before a0 Z = true) (ws : List Jvm.Cond) (cc : Int32) (h0 : Heap) (n0 : Nat) (O0 : Old Z n0 h0) :
    own_MF l own_m21 (Jvm.Cond.code own_m21 jdk_89_method_15_code 1 (some .boolean) :: ws) ({ frames := 0, cells := 0, slots := 0, locals := 0 } : Room) #[(.int cc)] Z h0 (Q_clo Z cc h0 n0) := by
  refine own_met (own := "java/lang/Character") (nme := "isLowSurrogate") rfl rfl (plainFor_of_name pn_4) ?_
  intro p e s m below meth c s₁ hx hby hml hown hnm X0 e0 hret hlk hZ
  have N0 := Fr.nil n0
  rw [ef_clo m cc]
  refine own_st (T' := s₁) (g' := (mkF m 1 #[iv cc] [(.int cc)])) (fun _ k_ => XS.iloadN X0.here hx rfl (hb hby d30_0) rfl  k_) ?_
  refine own_st (T' := s₁) (g' := (mkF m 3 #[iv cc] [(.int (56320 : Int32)), (.int cc)])) (X0.ldcInt hx hown (mvT hZ (wd hw 128 rfl)) (g := (mkF m 1 #[iv cc] [(.int cc)])) rfl (hb hby d30_1)) ?_
  by_cases hc1 : cc < (56320 : Int32)
  · refine own_st (T' := s₁) (g' := (mkF m 16 #[iv cc] [])) (fun _ k_ => XS.icmpYes X0.here hx rfl (pc0 := 3) (pc' := 16) rfl (hb hby d30_3) rfl (tlt hc1).1 (by decide) (by decide) k_) ?_
    refine own_st (T' := s₁) (g' := (mkF m 17 #[iv cc] [(.int (0 : Int32))])) (fun _ k_ => XS.iconst X0.here hx rfl (hb hby d30_16) k_) ?_
    exact own_retN X0 hx (t := .boolean) hret (by simp) hlk (hb hby d30_17) (by decide) (by decide) ⟨(by unfold own_lo; rw [if_pos hc1]; rfl), N0, e0⟩
  · refine own_st (T' := s₁) (g' := (mkF m 6 #[iv cc] [])) (fun _ k_ => XS.icmpNo X0.here hx rfl (hb hby d30_3) rfl (flt hc1).1 k_) ?_
    refine own_st (T' := s₁) (g' := (mkF m 7 #[iv cc] [(.int cc)])) (fun _ k_ => XS.iloadN X0.here hx rfl (hb hby d30_6) rfl  k_) ?_
    refine own_st (T' := s₁) (g' := (mkF m 9 #[iv cc] [(.int (57344 : Int32)), (.int cc)])) (X0.ldcInt hx hown (mvT hZ (wd hw 129 rfl)) (g := (mkF m 7 #[iv cc] [(.int cc)])) rfl (hb hby d30_7)) ?_
    by_cases hc2 : cc < (57344 : Int32)
    · refine own_st (T' := s₁) (g' := (mkF m 12 #[iv cc] [])) (fun _ k_ => XS.icmpNo X0.here hx rfl (hb hby d30_9) rfl (tlt hc2).2.1 k_) ?_
      refine own_st (T' := s₁) (g' := (mkF m 13 #[iv cc] [(.int (1 : Int32))])) (fun _ k_ => XS.iconst X0.here hx rfl (hb hby d30_12) k_) ?_
      refine own_st (T' := s₁) (g' := (mkF m 17 #[iv cc] [(.int (1 : Int32))])) (fun _ k_ => XS.goto X0.here hx rfl (pc0 := 13) (pc' := 17) rfl (hb hby d30_13) (by decide) (by decide) k_) ?_
      exact own_retN X0 hx (t := .boolean) hret (by simp) hlk (hb hby d30_17) (by decide) (by decide) ⟨(by unfold own_lo; rw [if_neg hc1, if_pos hc2]; rfl), N0, e0⟩
    · refine own_st (T' := s₁) (g' := (mkF m 16 #[iv cc] [])) (fun _ k_ => XS.icmpYes X0.here hx rfl (pc0 := 9) (pc' := 16) rfl (hb hby d30_9) rfl (flt hc2).2.1 (by decide) (by decide) k_) ?_
      refine own_st (T' := s₁) (g' := (mkF m 17 #[iv cc] [(.int (0 : Int32))])) (fun _ k_ => XS.iconst X0.here hx rfl (hb hby d30_16) k_) ?_
      exact own_retN X0 hx (t := .boolean) hret (by simp) hlk (hb hby d30_17) (by decide) (by decide) ⟨(by unfold own_lo; rw [if_neg hc1, if_neg hc2]; rfl), N0, e0⟩
theorem d21_0 : decode jdk_89_method_16_code 0 = .ok (.iload_n 0, 1) := by decide +kernel
theorem d21_1 : decode jdk_89_method_16_code 1 = .ok (.ldc 75, 2) := by decide +kernel
theorem d21_3 : decode jdk_89_method_16_code 3 = .ok (.if_icmp .lt 13, 3) := by decide +kernel
theorem d21_6 : decode jdk_89_method_16_code 6 = .ok (.iload_n 0, 1) := by decide +kernel
theorem d21_7 : decode jdk_89_method_16_code 7 = .ok (.ldc 77, 2) := by decide +kernel
theorem d21_9 : decode jdk_89_method_16_code 9 = .ok (.if_icmp .ge 7, 3) := by decide +kernel
theorem d21_12 : decode jdk_89_method_16_code 12 = .ok (.iconst 1, 1) := by decide +kernel
theorem d21_13 : decode jdk_89_method_16_code 13 = .ok (.goto 4, 3) := by decide +kernel
theorem d21_16 : decode jdk_89_method_16_code 16 = .ok (.iconst 0, 1) := by decide +kernel
theorem d21_17 : decode jdk_89_method_16_code 17 = .ok (.ireturn, 1) := by decide +kernel
theorem ef_csu (m : MethodId) (x0 : Int32) : entryFrame m #[(.int x0)] 1 = mkF m 0 #[iv x0] [] := by first | (simp [entryFrame, mkF, argsToLocals, Value.category]; done) | rfl
def Q_csu (Z : State) (cc : Int32) (h0 : Heap) (n0 : Nat) (v : Option Value) (h : Heap) (L : List Loc) : Prop := (v = some (.int (own_su cc))) ∧ (Fr n0 L) ∧ (h = h0)
set_option maxRecDepth 65536 in
set_option maxHeartbeats 40000000 in
theorem rm_csu (l : Launch) (Z : State) (a0 : Array Value) (hw : ∀ d ∈ tables_1, d.before a0 Z = true) (ws : List Jvm.Cond) (cc : Int32) (h0 : Heap) (n0 : Nat) (O0 : Old Z n0 h0) :
    own_MF l own_m22 (Jvm.Cond.code own_m22 jdk_89_method_16_code 1 (some .boolean) :: ws) ({ frames := 0, cells := 0, slots := 0, locals := 0 } : Room) #[(.int cc)] Z h0 (Q_csu Z cc h0 n0) := by
  refine own_met (own := "java/lang/Character") (nme := "isSurrogate") rfl rfl (plainFor_of_name pn_4) ?_
  intro p e s m below meth c s₁ hx hby hml hown hnm X0 e0 hret hlk hZ
  have N0 := Fr.nil n0
  rw [ef_csu m cc]
  refine own_st (T' := s₁) (g' := (mkF m 1 #[iv cc] [(.int cc)])) (fun _ k_ => XS.iloadN X0.here hx rfl (hb hby d21_0) rfl  k_) ?_
  refine own_st (T' := s₁) (g' := (mkF m 3 #[iv cc] [(.int (55296 : Int32)), (.int cc)])) (X0.ldcInt hx hown (mvT hZ (wd hw 93 rfl)) (g := (mkF m 1 #[iv cc] [(.int cc)])) rfl (hb hby d21_1)) ?_
  by_cases hc1 : cc < (55296 : Int32)
  · refine own_st (T' := s₁) (g' := (mkF m 16 #[iv cc] [])) (fun _ k_ => XS.icmpYes X0.here hx rfl (pc0 := 3) (pc' := 16) rfl (hb hby d21_3) rfl (tlt hc1).1 (by decide) (by decide) k_) ?_
    refine own_st (T' := s₁) (g' := (mkF m 17 #[iv cc] [(.int (0 : Int32))])) (fun _ k_ => XS.iconst X0.here hx rfl (hb hby d21_16) k_) ?_
    exact own_retN X0 hx (t := .boolean) hret (by simp) hlk (hb hby d21_17) (by decide) (by decide) ⟨(by unfold own_su; rw [if_pos hc1]; rfl), N0, e0⟩
  · refine own_st (T' := s₁) (g' := (mkF m 6 #[iv cc] [])) (fun _ k_ => XS.icmpNo X0.here hx rfl (hb hby d21_3) rfl (flt hc1).1 k_) ?_
    refine own_st (T' := s₁) (g' := (mkF m 7 #[iv cc] [(.int cc)])) (fun _ k_ => XS.iloadN X0.here hx rfl (hb hby d21_6) rfl  k_) ?_
    refine own_st (T' := s₁) (g' := (mkF m 9 #[iv cc] [(.int (57344 : Int32)), (.int cc)])) (X0.ldcInt hx hown (mvT hZ (wd hw 129 rfl)) (g := (mkF m 7 #[iv cc] [(.int cc)])) rfl (hb hby d21_7)) ?_
    by_cases hc2 : cc < (57344 : Int32)
    · refine own_st (T' := s₁) (g' := (mkF m 12 #[iv cc] [])) (fun _ k_ => XS.icmpNo X0.here hx rfl (hb hby d21_9) rfl (tlt hc2).2.1 k_) ?_
      refine own_st (T' := s₁) (g' := (mkF m 13 #[iv cc] [(.int (1 : Int32))])) (fun _ k_ => XS.iconst X0.here hx rfl (hb hby d21_12) k_) ?_
      refine own_st (T' := s₁) (g' := (mkF m 17 #[iv cc] [(.int (1 : Int32))])) (fun _ k_ => XS.goto X0.here hx rfl (pc0 := 13) (pc' := 17) rfl (hb hby d21_13) (by decide) (by decide) k_) ?_
      exact own_retN X0 hx (t := .boolean) hret (by simp) hlk (hb hby d21_17) (by decide) (by decide) ⟨(by unfold own_su; rw [if_neg hc1, if_pos hc2]; rfl), N0, e0⟩
    · refine own_st (T' := s₁) (g' := (mkF m 16 #[iv cc] [])) (fun _ k_ => XS.icmpYes X0.here hx rfl (pc0 := 9) (pc' := 16) rfl (hb hby d21_9) rfl (flt hc2).2.1 (by decide) (by decide) k_) ?_
      refine own_st (T' := s₁) (g' := (mkF m 17 #[iv cc] [(.int (0 : Int32))])) (fun _ k_ => XS.iconst X0.here hx rfl (hb hby d21_16) k_) ?_
      exact own_retN X0 hx (t := .boolean) hret (by simp) hlk (hb hby d21_17) (by decide) (by decide) ⟨(by unfold own_su; rw [if_neg hc1, if_neg hc2]; rfl), N0, e0⟩
theorem d10_0 : decode method_3_code 0 = .ok (.iload_n 0, 1) := by decide +kernel
theorem d10_1 : decode method_3_code 1 = .ok (.ldc 7, 2) := by decide +kernel
theorem d10_3 : decode method_3_code 3 = .ok (.if_icmp .lt 13, 3) := by decide +kernel
theorem d10_6 : decode method_3_code 6 = .ok (.iload_n 0, 1) := by decide +kernel
theorem d10_7 : decode method_3_code 7 = .ok (.ldc 10, 2) := by decide +kernel
theorem d10_9 : decode method_3_code 9 = .ok (.if_icmp .gt 7, 3) := by decide +kernel
theorem d10_12 : decode method_3_code 12 = .ok (.iconst 1, 1) := by decide +kernel
theorem d10_13 : decode method_3_code 13 = .ok (.goto 4, 3) := by decide +kernel
theorem d10_16 : decode method_3_code 16 = .ok (.iconst 0, 1) := by decide +kernel
theorem d10_17 : decode method_3_code 17 = .ok (.ireturn, 1) := by decide +kernel
theorem pn_5 : plainName "com/example/countersign/countersign/scheme/Utf8HasFormPinLaw" = true := by first | (simp [plainName, overriddenIn]; done) | decide +kernel
theorem ef_lih (m : MethodId) (x0 : Int32) : entryFrame m #[(.int x0)] 1 = mkF m 0 #[iv x0] [] := by first | (simp [entryFrame, mkF, argsToLocals, Value.category]; done) | rfl
def Q_lih (Z : State) (cc : Int32) (h0 : Heap) (n0 : Nat) (v : Option Value) (h : Heap) (L : List Loc) : Prop := (v = some (.int (own_isH cc))) ∧ (Fr n0 L) ∧ (h = h0)
set_option maxRecDepth 65536 in
set_option maxHeartbeats 40000000 in
theorem rm_lih (l : Launch) (Z : State) (a0 : Array Value) (hw : ∀ d ∈ tables_1, d.before a0 Z = true) (ws : List Jvm.Cond) (cc : Int32) (h0 : Heap) (n0 : Nat) (O0 : Old Z n0 h0) :
    own_MF l own_m23 (Jvm.Cond.code own_m23 method_3_code 1 (some .boolean) :: ws) ({ frames := 0, cells := 0, slots := 0, locals := 0 } : Room) #[(.int cc)] Z h0 (Q_lih Z cc h0 n0) := by
  refine own_met (own := "com/example/countersign/countersign/scheme/Utf8HasFormPinLaw") (nme := "isH") rfl rfl (plainFor_of_name pn_5) ?_
  intro p e s m below meth c s₁ hx hby hml hown hnm X0 e0 hret hlk hZ
  have N0 := Fr.nil n0
  rw [ef_lih m cc]
  refine own_st (T' := s₁) (g' := (mkF m 1 #[iv cc] [(.int cc)])) (fun _ k_ => XS.iloadN X0.here hx rfl (hb hby d10_0) rfl  k_) ?_
  refine own_st (T' := s₁) (g' := (mkF m 3 #[iv cc] [(.int (55296 : Int32)), (.int cc)])) (X0.ldcInt hx hown (mvT hZ (wd hw 8 rfl)) (g := (mkF m 1 #[iv cc] [(.int cc)])) rfl (hb hby d10_1)) ?_
  by_cases hc1 : cc < (55296 : Int32)
  · refine own_st (T' := s₁) (g' := (mkF m 16 #[iv cc] [])) (fun _ k_ => XS.icmpYes X0.here hx rfl (pc0 := 3) (pc' := 16) rfl (hb hby d10_3) rfl (tlt hc1).1 (by decide) (by decide) k_) ?_
    refine own_st (T' := s₁) (g' := (mkF m 17 #[iv cc] [(.int (0 : Int32))])) (fun _ k_ => XS.iconst X0.here hx rfl (hb hby d10_16) k_) ?_
    exact own_retN X0 hx (t := .boolean) hret (by simp) hlk (hb hby d10_17) (by decide) (by decide) ⟨(by unfold own_isH; rw [if_pos hc1]; rfl), N0, e0⟩
  · refine own_st (T' := s₁) (g' := (mkF m 6 #[iv cc] [])) (fun _ k_ => XS.icmpNo X0.here hx rfl (hb hby d10_3) rfl (flt hc1).1 k_) ?_
    refine own_st (T' := s₁) (g' := (mkF m 7 #[iv cc] [(.int cc)])) (fun _ k_ => XS.iloadN X0.here hx rfl (hb hby d10_6) rfl  k_) ?_
    refine own_st (T' := s₁) (g' := (mkF m 9 #[iv cc] [(.int (56319 : Int32)), (.int cc)])) (X0.ldcInt hx hown (mvT hZ (wd hw 97 rfl)) (g := (mkF m 7 #[iv cc] [(.int cc)])) rfl (hb hby d10_7)) ?_
    by_cases hc2 : (56319 : Int32) < cc
    · refine own_st (T' := s₁) (g' := (mkF m 16 #[iv cc] [])) (fun _ k_ => XS.icmpYes X0.here hx rfl (pc0 := 9) (pc' := 16) rfl (hb hby d10_9) rfl (tlt hc2).2.2.1 (by decide) (by decide) k_) ?_
      refine own_st (T' := s₁) (g' := (mkF m 17 #[iv cc] [(.int (0 : Int32))])) (fun _ k_ => XS.iconst X0.here hx rfl (hb hby d10_16) k_) ?_
      exact own_retN X0 hx (t := .boolean) hret (by simp) hlk (hb hby d10_17) (by decide) (by decide) ⟨(by unfold own_isH; rw [if_neg hc1, if_pos hc2]; rfl), N0, e0⟩
    · refine own_st (T' := s₁) (g' := (mkF m 12 #[iv cc] [])) (fun _ k_ => XS.icmpNo X0.here hx rfl (hb hby d10_9) rfl (flt hc2).2.2.1 k_) ?_
      refine own_st (T' := s₁) (g' := (mkF m 13 #[iv cc] [(.int (1 : Int32))])) (fun _ k_ => XS.iconst X0.here hx rfl (hb hby d10_12) k_) ?_
      refine own_st (T' := s₁) (g' := (mkF m 17 #[iv cc] [(.int (1 : Int32))])) (fun _ k_ => XS.goto X0.here hx rfl (pc0 := 13) (pc' := 17) rfl (hb hby d10_13) (by decide) (by decide) k_) ?_
      exact own_retN X0 hx (t := .boolean) hret (by simp) hlk (hb hby d10_17) (by decide) (by decide) ⟨(by unfold own_isH; rw [if_neg hc1, if_neg hc2]; rfl), N0, e0⟩
theorem d11_0 : decode method_4_code 0 = .ok (.iload_n 0, 1) := by decide +kernel
theorem d11_1 : decode method_4_code 1 = .ok (.ldc 8, 2) := by decide +kernel
theorem d11_3 : decode method_4_code 3 = .ok (.if_icmp .lt 13, 3) := by decide +kernel
theorem d11_6 : decode method_4_code 6 = .ok (.iload_n 0, 1) := by decide +kernel
theorem d11_7 : decode method_4_code 7 = .ok (.ldc 11, 2) := by decide +kernel
theorem d11_9 : decode method_4_code 9 = .ok (.if_icmp .gt 7, 3) := by decide +kernel
theorem d11_12 : decode method_4_code 12 = .ok (.iconst 1, 1) := by decide +kernel
theorem d11_13 : decode method_4_code 13 = .ok (.goto 4, 3) := by decide +kernel
theorem d11_16 : decode method_4_code 16 = .ok (.iconst 0, 1) := by decide +kernel
theorem d11_17 : decode method_4_code 17 = .ok (.ireturn, 1) := by decide +kernel
theorem ef_lil (m : MethodId) (x0 : Int32) : entryFrame m #[(.int x0)] 1 = mkF m 0 #[iv x0] [] := by first | (simp [entryFrame, mkF, argsToLocals, Value.category]; done) | rfl
def Q_lil (Z : State) (cc : Int32) (h0 : Heap) (n0 : Nat) (v : Option Value) (h : Heap) (L : List Loc) : Prop := (v = some (.int (own_isL cc))) ∧ (Fr n0 L) ∧ (h = h0)
set_option maxRecDepth 65536 in
set_option maxHeartbeats 40000000 in
theorem rm_lil (l : Launch) (Z : State) (a0 : Array Value) (hw : ∀ d ∈ tables_1, d.before a0 Z = true) (ws : List Jvm.Cond) (cc : Int32) (h0 : Heap) (n0 : Nat) (O0 : Old Z n0 h0) :
    own_MF l own_m24 (Jvm.Cond.code own_m24 method_4_code 1 (some .boolean) :: ws) ({ frames := 0, cells := 0, slots := 0, locals := 0 } : Room) #[(.int cc)] Z h0 (Q_lil Z cc h0 n0) := by
  refine own_met (own := "com/example/countersign/countersign/scheme/Utf8HasFormPinLaw") (nme := "isL") rfl rfl (plainFor_of_name pn_5) ?_
  intro p e s m below meth c s₁ hx hby hml hown hnm X0 e0 hret hlk hZ
  have N0 := Fr.nil n0
  rw [ef_lil m cc]
  refine own_st (T' := s₁) (g' := (mkF m 1 #[iv cc] [(.int cc)])) (fun _ k_ => XS.iloadN X0.here hx rfl (hb hby d11_0) rfl  k_) ?_
  refine own_st (T' := s₁) (g' := (mkF m 3 #[iv cc] [(.int (56320 : Int32)), (.int cc)])) (X0.ldcInt hx hown (mvT hZ (wd hw 7 rfl)) (g := (mkF m 1 #[iv cc] [(.int cc)])) rfl (hb hby d11_1)) ?_
  by_cases hc1 : cc < (56320 : Int32)
  · refine own_st (T' := s₁) (g' := (mkF m 16 #[iv cc] [])) (fun _ k_ => XS.icmpYes X0.here hx rfl (pc0 := 3) (pc' := 16) rfl (hb hby d11_3) rfl (tlt hc1).1 (by decide) (by decide) k_) ?_
    refine own_st (T' := s₁) (g' := (mkF m 17 #[iv cc] [(.int (0 : Int32))])) (fun _ k_ => XS.iconst X0.here hx rfl (hb hby d11_16) k_) ?_
    exact own_retN X0 hx (t := .boolean) hret (by simp) hlk (hb hby d11_17) (by decide) (by decide) ⟨(by unfold own_isL; rw [if_pos hc1]; rfl), N0, e0⟩
  · refine own_st (T' := s₁) (g' := (mkF m 6 #[iv cc] [])) (fun _ k_ => XS.icmpNo X0.here hx rfl (hb hby d11_3) rfl (flt hc1).1 k_) ?_
    refine own_st (T' := s₁) (g' := (mkF m 7 #[iv cc] [(.int cc)])) (fun _ k_ => XS.iloadN X0.here hx rfl (hb hby d11_6) rfl  k_) ?_
    refine own_st (T' := s₁) (g' := (mkF m 9 #[iv cc] [(.int (57343 : Int32)), (.int cc)])) (X0.ldcInt hx hown (mvT hZ (wd hw 98 rfl)) (g := (mkF m 7 #[iv cc] [(.int cc)])) rfl (hb hby d11_7)) ?_
    by_cases hc2 : (57343 : Int32) < cc
    · refine own_st (T' := s₁) (g' := (mkF m 16 #[iv cc] [])) (fun _ k_ => XS.icmpYes X0.here hx rfl (pc0 := 9) (pc' := 16) rfl (hb hby d11_9) rfl (tlt hc2).2.2.1 (by decide) (by decide) k_) ?_
      refine own_st (T' := s₁) (g' := (mkF m 17 #[iv cc] [(.int (0 : Int32))])) (fun _ k_ => XS.iconst X0.here hx rfl (hb hby d11_16) k_) ?_
      exact own_retN X0 hx (t := .boolean) hret (by simp) hlk (hb hby d11_17) (by decide) (by decide) ⟨(by unfold own_isL; rw [if_neg hc1, if_pos hc2]; rfl), N0, e0⟩
    · refine own_st (T' := s₁) (g' := (mkF m 12 #[iv cc] [])) (fun _ k_ => XS.icmpNo X0.here hx rfl (hb hby d11_9) rfl (flt hc2).2.2.1 k_) ?_
      refine own_st (T' := s₁) (g' := (mkF m 13 #[iv cc] [(.int (1 : Int32))])) (fun _ k_ => XS.iconst X0.here hx rfl (hb hby d11_12) k_) ?_
      refine own_st (T' := s₁) (g' := (mkF m 17 #[iv cc] [(.int (1 : Int32))])) (fun _ k_ => XS.goto X0.here hx rfl (pc0 := 13) (pc' := 17) rfl (hb hby d11_13) (by decide) (by decide) k_) ?_
      exact own_retN X0 hx (t := .boolean) hret (by simp) hlk (hb hby d11_17) (by decide) (by decide) ⟨(by unfold own_isL; rw [if_neg hc1, if_neg hc2]; rfl), N0, e0⟩
def Q_hf (x : Addr) (cs : List Int32) (h0 : Heap) (n0 : Nat) (v : Option Value) (h : Heap) (L : List Loc) : Prop := (v = some (.int (own_f cs))) ∧ (Fr n0 L) ∧ (h = h0)
theorem d7_2 : decode prog_24_method_2_code 2 = .ok (.iload_n 1, 1) := by decide +kernel
theorem d7_3 : decode prog_24_method_2_code 3 = .ok (.aload_n 0, 1) := by decide +kernel
theorem d7_4 : decode prog_24_method_2_code 4 = .ok (.invokevirtual 7, 3) := by decide +kernel
theorem d7_7 : decode prog_24_method_2_code 7 = .ok (.if_icmp .ge 60, 3) := by decide +kernel
theorem d7_10 : decode prog_24_method_2_code 10 = .ok (.aload_n 0, 1) := by decide +kernel
theorem d7_11 : decode prog_24_method_2_code 11 = .ok (.iload_n 1, 1) := by decide +kernel
theorem d7_12 : decode prog_24_method_2_code 12 = .ok (.invokevirtual 13, 3) := by decide +kernel
theorem d7_15 : decode prog_24_method_2_code 15 = .ok (.istore_n 2, 1) := by decide +kernel
theorem d7_16 : decode prog_24_method_2_code 16 = .ok (.iload_n 2, 1) := by decide +kernel
theorem d7_17 : decode prog_24_method_2_code 17 = .ok (.invokestatic 17, 3) := by decide +kernel
theorem d7_20 : decode prog_24_method_2_code 20 = .ok (.ifCond .eq 32, 3) := by decide +kernel
theorem d7_23 : decode prog_24_method_2_code 23 = .ok (.iload_n 1, 1) := by decide +kernel
theorem d7_24 : decode prog_24_method_2_code 24 = .ok (.iconst 1, 1) := by decide +kernel
theorem d7_25 : decode prog_24_method_2_code 25 = .ok (.iadd, 1) := by decide +kernel
theorem d7_26 : decode prog_24_method_2_code 26 = .ok (.aload_n 0, 1) := by decide +kernel
theorem d7_27 : decode prog_24_method_2_code 27 = .ok (.invokevirtual 7, 3) := by decide +kernel
theorem d7_30 : decode prog_24_method_2_code 30 = .ok (.if_icmp .ge 22, 3) := by decide +kernel
theorem d7_33 : decode prog_24_method_2_code 33 = .ok (.aload_n 0, 1) := by decide +kernel
theorem d7_34 : decode prog_24_method_2_code 34 = .ok (.iload_n 1, 1) := by decide +kernel
theorem d7_35 : decode prog_24_method_2_code 35 = .ok (.iconst 1, 1) := by decide +kernel
theorem d7_36 : decode prog_24_method_2_code 36 = .ok (.iadd, 1) := by decide +kernel
theorem d7_37 : decode prog_24_method_2_code 37 = .ok (.invokevirtual 13, 3) := by decide +kernel
theorem d7_40 : decode prog_24_method_2_code 40 = .ok (.invokestatic 23, 3) := by decide +kernel
theorem d7_43 : decode prog_24_method_2_code 43 = .ok (.ifCond .eq 9, 3) := by decide +kernel
theorem d7_46 : decode prog_24_method_2_code 46 = .ok (.iinc 1 1, 3) := by decide +kernel
theorem d7_49 : decode prog_24_method_2_code 49 = .ok (.goto 12, 3) := by decide +kernel
theorem d7_52 : decode prog_24_method_2_code 52 = .ok (.iload_n 2, 1) := by decide +kernel
theorem d7_53 : decode prog_24_method_2_code 53 = .ok (.invokestatic 26, 3) := by decide +kernel
theorem d7_56 : decode prog_24_method_2_code 56 = .ok (.ifCond .eq 5, 3) := by decide +kernel
theorem d7_59 : decode prog_24_method_2_code 59 = .ok (.iconst 0, 1) := by decide +kernel
theorem d7_60 : decode prog_24_method_2_code 60 = .ok (.ireturn, 1) := by decide +kernel
theorem d7_61 : decode prog_24_method_2_code 61 = .ok (.iinc 1 1, 3) := by decide +kernel
theorem d7_64 : decode prog_24_method_2_code 64 = .ok (.goto (-62), 3) := by decide +kernel
theorem pd___I : parseMethodDescriptor "()I" = some ⟨[], some .int⟩ := by decide +kernel
theorem pd__I_C : parseMethodDescriptor "(I)C" = some ⟨[.int], some .char⟩ := by decide +kernel
theorem pd__C_Z : parseMethodDescriptor "(C)Z" = some ⟨[.char], some .boolean⟩ := by decide +kernel
set_option maxRecDepth 65536 in
set_option maxHeartbeats 40000000 in
theorem seg_hf {p : Program} {l : Launch} {e : Env} {s : State} {m : MethodId} {args : Array Value} {below : List Frame} {meth : Method} {c : Code} {T0 : State} {locs : List Loc} {Z : State} {a0 : Array Value} (h0 : Heap) (hB : Heap) (n0 : Nat) (x : Addr) (cs : List Int32) (cz : Int32) (fm : Value) (ii : Nat) (sl : Slot)
    (X0 : Stand p l e ({ frames := 7, cells := 0, slots := 0, locals := 150 } : Room) s m args below meth c T0 locs 0 0) (hx : p.tables.exec = Jvm.exec) (hZ : Z.Warmed39 s.vm) (hw : ∀ d ∈ tables_1, d.before a0 Z = true) (hby : c.code = prog_24_method_2_code) (hml : c.maxLocals = 3) (hown : s.vm.findClass "com/example/countersign/countersign/scheme/Utf8" = some m.cls) (hnm : meth.name = "hasForm") (hret : meth.sig.returnType = some .boolean) (hlk : meth.locks = false) (e0 : T0.heap = hB) (N0 : Fr n0 locs) (O0 : Old Z n0 hB) (E_x : Exa Z hB x "java/lang/String") (S : own_S Z hB x cs) (lcs : cs.length ≤ 4) (SC : Sta Z Z.heap "java/lang/String" "COMPACT_STRINGS" "Z" (.int cz)) (hcz : ¬ cz = (0 : Int32)) (SA : Sta Z Z.heap "java/lang/StringUTF16" "$assertionsDisabled" "Z" (.int (1 : Int32))) (SHI : Sta Z Z.heap "java/lang/StringUTF16" "HI_BYTE_SHIFT" "I" (.int (0 : Int32))) (SLO : Sta Z Z.heap "java/lang/StringUTF16" "LO_BYTE_SHIFT" "I" (.int (8 : Int32))) (SF : Sta Z Z.heap "jdk/internal/util/Preconditions" "SIOOBE_FORMATTER" "Ljava/util/function/BiFunction;" fm) (hfm : fm.isRef = true) (eB : hB = h0) (hii : ii < cs.length) (hf : own_f (cs.drop ii) = own_f cs) (hsl : sl = .unset ∨ ∃ w, sl = .val w ∧ w.category = 1) (K : ∀ (j : Nat) (sl : Slot) (T : State) (locs : List Loc), ii < j → j ≤ cs.length → own_f (cs.drop j) = own_f cs → (sl = .unset ∨ ∃ w, sl = .val w ∧ w.category = 1) → Stand p l e ({ frames := 7, cells := 0, slots := 0, locals := 150 } : Room) s m args below meth c T locs 0 0 → T.heap = hB → Fr n0 locs → own_E p e below s ({ frames := 7, cells := 0, slots := 0, locals := 150 } : Room).cells ({ frames := 7, cells := 0, slots := 0, locals := 150 } : Room).slots (Q_hf x cs h0 n0) T (mkF m 2 #[rv x, iv (Int32.ofNat j), sl] [])) :
    own_E p e below s ({ frames := 7, cells := 0, slots := 0, locals := 150 } : Room).cells ({ frames := 7, cells := 0, slots := 0, locals := 150 } : Room).slots (Q_hf x cs h0 n0) T0 (mkF m 2 #[rv x, iv (Int32.ofNat ii), sl] []) := by
  refine own_st (T' := T0) (g' := (mkF m 3 #[rv x, iv (Int32.ofNat ii), sl] [(.int (Int32.ofNat ii))])) (fun _ k_ => XS.iloadN X0.here hx rfl (hb hby d7_2) rfl  k_) ?_
  refine own_st (T' := T0) (g' := (mkF m 4 #[rv x, iv (Int32.ofNat ii), sl] [(.ref x), (.int (Int32.ofNat ii))])) (fun _ k_ => XS.aloadN X0.here hx rfl (hb hby d7_3) rfl rfl  k_) ?_
  obtain ⟨cq1, kq1, q1a, q1b, q1c⟩ := isOf hZ e0 E_x
  obtain ⟨_, T1, L1, X1, hQ1, st1⟩ := own_callV X0 hx (y := own_m2) (z := own_m2) hown (mvT hZ (wd hw 40 rfl)) (mvT hZ (wd hw 41 rfl)) (notFace_of_selects (args := #[]) (mvT hZ (wd hw 43 rfl))) (mvT hZ (wd hw 43 rfl)) (mvT hZ (wd hw 42 rfl)) (by decide) (backOf (W := 1) (rm_slen l Z a0 hw [] x cs cz hB n0 O0 E_x S lcs SC hcz) hZ (wd hw 44 rfl) (wd hw 17 rfl) (by decide) (by decide)) q1a q1c (g := (mkF m 4 #[rv x, iv (Int32.ofNat ii), sl] [(.ref x), (.int (Int32.ofNat ii))])) rfl (by rw [hml]; rfl) (argsL := []) (rest := [(.int (Int32.ofNat ii))]) (lenOf pd___I rfl) rfl (by show 2 * 0 + _ ≤ _; exact Nat.le_of_eq rfl) (hb hby d7_4) rfl e0 (by decide) (by decide) (c' := 0) (s' := 0) rfl rfl
  clear q1a q1b q1c kq1 cq1
  obtain ⟨rfl, Nq1, eq1⟩ := hQ1
  have N1 := Fr.app N0 Nq1
  refine own_st (T' := T1) (g' := (mkF m 7 #[rv x, iv (Int32.ofNat ii), sl] [(.int (Int32.ofNat cs.length)), (.int (Int32.ofNat ii))])) st1 ?_
  clear st1
  refine own_st (T' := T1) (g' := (mkF m 10 #[rv x, iv (Int32.ofNat ii), sl] [])) (fun _ k_ => XS.icmpNo X1.here hx rfl (hb hby d7_7) rfl (tlt (((own_olt (by omega) (by omega)).mpr hii) : (Int32.ofNat ii) < (Int32.ofNat cs.length))).2.1 k_) ?_
  refine own_st (T' := T1) (g' := (mkF m 11 #[rv x, iv (Int32.ofNat ii), sl] [(.ref x)])) (fun _ k_ => XS.aloadN X1.here hx rfl (hb hby d7_10) rfl rfl  k_) ?_
  refine own_st (T' := T1) (g' := (mkF m 12 #[rv x, iv (Int32.ofNat ii), sl] [(.int (Int32.ofNat ii)), (.ref x)])) (fun _ k_ => XS.iloadN X1.here hx rfl (hb hby d7_11) rfl  k_) ?_
  obtain ⟨cq2, kq2, q2a, q2b, q2c⟩ := isOf hZ eq1 E_x
  obtain ⟨_, T2, L2, X2, hQ2, st2⟩ := own_callV X1 hx (y := own_m10) (z := own_m10) hown (mvT hZ (wd hw 67 rfl)) (mvT hZ (wd hw 68 rfl)) (notFace_of_selects (args := #[]) (mvT hZ (wd hw 70 rfl))) (mvT hZ (wd hw 70 rfl)) (mvT hZ (wd hw 69 rfl)) (by decide) (backOf (W := 0) (rm_chat l Z a0 hw [] x cs (Int32.ofNat ii) ii cz fm hB n0 O0 E_x S rfl hii lcs SC hcz SA SHI SLO SF hfm) hZ (wd hw 71 rfl) (wd hw 17 rfl) (by decide) (by decide)) q2a q2c (g := (mkF m 12 #[rv x, iv (Int32.ofNat ii), sl] [(.int (Int32.ofNat ii)), (.ref x)])) rfl (by rw [hml]; rfl) (argsL := [(.int (Int32.ofNat ii))]) (rest := []) (lenOf pd__I_C rfl) rfl (by show 2 * 0 + _ ≤ _; exact Nat.le_of_eq rfl) (hb hby d7_12) rfl eq1 (by decide) (by decide) (c' := 0) (s' := 0) rfl rfl
  clear q2a q2b q2c kq2 cq2
  obtain ⟨rfl, Nq2, eq2⟩ := hQ2
  have N2 := Fr.app N1 Nq2
  refine own_st (T' := T2) (g' := (mkF m 15 #[rv x, iv (Int32.ofNat ii), sl] [(.int (List.getD cs ii 0))])) st2 ?_
  clear st2
  refine own_st (T' := T2) (g' := (mkF m 16 #[rv x, iv (Int32.ofNat ii), iv (List.getD cs ii 0)] [])) (fun _ k_ => XS.istoreN X2.here hx rfl (hb hby d7_15) rfl (l' := #[rv x, iv (Int32.ofNat ii), iv (List.getD cs ii 0)]) (by rcases hsl with rfl | ⟨w_, rfl, hw_⟩ <;> first | rfl | (cases w_ <;> first | rfl | (simp [Value.category] at hw_))) k_) ?_
  refine own_st (T' := T2) (g' := (mkF m 17 #[rv x, iv (Int32.ofNat ii), iv (List.getD cs ii 0)] [(.int (List.getD cs ii 0))])) (fun _ k_ => XS.iloadN X2.here hx rfl (hb hby d7_16) rfl  k_) ?_
  obtain ⟨_, T3, L3, X3, hQ3, st3⟩ := own_callS X2 hx (y := own_m20) hown (mvT hZ (wd hw 89 rfl)) (mvT hZ (wd hw 90 rfl)) (mvT hZ (wd hw 91 rfl)) (mvT hZ (wd hw 92 rfl)) (by decide) (backOf (W := 0) (rm_chi l Z a0 hw [] (List.getD cs ii 0) hB n0 O0) hZ (wd hw 92 rfl) (wd hw 91 rfl) (by decide) (by decide)) (g := (mkF m 17 #[rv x, iv (Int32.ofNat ii), iv (List.getD cs ii 0)] [(.int (List.getD cs ii 0))])) rfl (by rw [hml]; rfl) (argsL := [(.int (List.getD cs ii 0))]) (rest := []) (lenOf pd__C_Z rfl) rfl (by show 2 * 0 + _ ≤ _; exact Nat.le_of_eq rfl) (hb hby d7_17) rfl eq2 (by decide) (by decide) (c' := 0) (s' := 0) rfl rfl
  obtain ⟨rfl, Nq3, eq3⟩ := hQ3
  have N3 := Fr.app N2 Nq3
  refine own_st (T' := T3) (g' := (mkF m 20 #[rv x, iv (Int32.ofNat ii), iv (List.getD cs ii 0)] [(.int (own_hi (List.getD cs ii 0)))])) st3 ?_
  clear st3
  by_cases hc4 : (own_hi (List.getD cs ii 0)) = (0 : Int32)
  · refine own_st (T' := T3) (g' := (mkF m 52 #[rv x, iv (Int32.ofNat ii), iv (List.getD cs ii 0)] [])) (fun _ k_ => XS.ifYes X3.here hx rfl (pc0 := 20) (pc' := 52) rfl (hb hby d7_20) rfl ((if0 _ _).trans (teq hc4).1) (by decide) (by decide) k_) ?_
    refine own_st (T' := T3) (g' := (mkF m 53 #[rv x, iv (Int32.ofNat ii), iv (List.getD cs ii 0)] [(.int (List.getD cs ii 0))])) (fun _ k_ => XS.iloadN X3.here hx rfl (hb hby d7_52) rfl  k_) ?_
    obtain ⟨_, T5, L5, X5, hQ5, st5⟩ := own_callS X3 hx (y := own_m22) hown (mvT hZ (wd hw 94 rfl)) (mvT hZ (wd hw 95 rfl)) (mvT hZ (wd hw 91 rfl)) (mvT hZ (wd hw 96 rfl)) (by decide) (backOf (W := 0) (rm_csu l Z a0 hw [] (List.getD cs ii 0) hB n0 O0) hZ (wd hw 96 rfl) (wd hw 91 rfl) (by decide) (by decide)) (g := (mkF m 53 #[rv x, iv (Int32.ofNat ii), iv (List.getD cs ii 0)] [(.int (List.getD cs ii 0))])) rfl (by rw [hml]; rfl) (argsL := [(.int (List.getD cs ii 0))]) (rest := []) (lenOf pd__C_Z rfl) rfl (by show 2 * 0 + _ ≤ _; exact Nat.le_of_eq rfl) (hb hby d7_53) rfl eq3 (by decide) (by decide) (c' := 0) (s' := 0) rfl rfl
    obtain ⟨rfl, Nq5, eq5⟩ := hQ5
    have N5 := Fr.app N3 Nq5
    refine own_st (T' := T5) (g' := (mkF m 56 #[rv x, iv (Int32.ofNat ii), iv (List.getD cs ii 0)] [(.int (own_su (List.getD cs ii 0)))])) st5 ?_
    clear st5
    by_cases hc6 : (own_su (List.getD cs ii 0)) = (0 : Int32)
    · refine own_st (T' := T5) (g' := (mkF m 61 #[rv x, iv (Int32.ofNat ii), iv (List.getD cs ii 0)] [])) (fun _ k_ => XS.ifYes X5.here hx rfl (pc0 := 56) (pc' := 61) rfl (hb hby d7_56) rfl ((if0 _ _).trans (teq hc6).1) (by decide) (by decide) k_) ?_
      refine own_st (T' := T5) (g' := (mkF m 64 #[rv x, iv ((Int32.ofNat ii) + (1 : Int32)), iv (List.getD cs ii 0)] [])) (fun _ k_ => XS.iinc X5.here hx rfl (hb hby d7_61) rfl (l' := #[rv x, iv ((Int32.ofNat ii) + (1 : Int32)), iv (List.getD cs ii 0)]) rfl k_) ?_
      refine own_st (T' := T5) (g' := (mkF m 2 #[rv x, iv ((Int32.ofNat ii) + (1 : Int32)), iv (List.getD cs ii 0)] [])) (fun _ k_ => XS.goto X5.here hx rfl (pc0 := 64) (pc' := 2) rfl (hb hby d7_64) (by decide) (by decide) k_) ?_
      rw [own_on1 (by omega)]
      exact K (ii + 1) _ T5 _ (by omega) (by omega) ((own_f1 hii hc4 hc6).symm.trans hf) (Or.inr ⟨_, rfl, rfl⟩) X5 eq5 N5
    · refine own_st (T' := T5) (g' := (mkF m 59 #[rv x, iv (Int32.ofNat ii), iv (List.getD cs ii 0)] [])) (fun _ k_ => XS.ifNo X5.here hx rfl (hb hby d7_56) rfl ((if0 _ _).trans (feq hc6).1) k_) ?_
      refine own_st (T' := T5) (g' := (mkF m 60 #[rv x, iv (Int32.ofNat ii), iv (List.getD cs ii 0)] [(.int (0 : Int32))])) (fun _ k_ => XS.iconst X5.here hx rfl (hb hby d7_59) k_) ?_
      exact own_retN X5 hx (t := .boolean) hret (by simp) hlk (hb hby d7_60) (by decide) (by decide) ⟨congrArg (fun z => some (Value.int z)) ((own_f2 hii hc6 (fun _ => Or.inl hc4)).symm.trans hf), N5, eq5.trans eB⟩
  · refine own_st (T' := T3) (g' := (mkF m 23 #[rv x, iv (Int32.ofNat ii), iv (List.getD cs ii 0)] [])) (fun _ k_ => XS.ifNo X3.here hx rfl (hb hby d7_20) rfl ((if0 _ _).trans (feq hc4).1) k_) ?_
    refine own_st (T' := T3) (g' := (mkF m 24 #[rv x, iv (Int32.ofNat ii), iv (List.getD cs ii 0)] [(.int (Int32.ofNat ii))])) (fun _ k_ => XS.iloadN X3.here hx rfl (hb hby d7_23) rfl  k_) ?_
    refine own_st (T' := T3) (g' := (mkF m 25 #[rv x, iv (Int32.ofNat ii), iv (List.getD cs ii 0)] [(.int (1 : Int32)), (.int (Int32.ofNat ii))])) (fun _ k_ => XS.iconst X3.here hx rfl (hb hby d7_24) k_) ?_
    refine own_st (T' := T3) (g' := (mkF m 26 #[rv x, iv (Int32.ofNat ii), iv (List.getD cs ii 0)] [(.int ((Int32.ofNat ii) + (1 : Int32)))])) (fun _ k_ => XS.iadd X3.here hx rfl (hb hby d7_25) rfl k_) ?_
    rw [own_on1 (by omega)]
    refine own_st (T' := T3) (g' := (mkF m 27 #[rv x, iv (Int32.ofNat ii), iv (List.getD cs ii 0)] [(.ref x), (.int (Int32.ofNat (ii + 1)))])) (fun _ k_ => XS.aloadN X3.here hx rfl (hb hby d7_26) rfl rfl  k_) ?_
    obtain ⟨cq7, kq7, q7a, q7b, q7c⟩ := isOf hZ eq3 E_x
    obtain ⟨_, T7, L7, X7, hQ7, st7⟩ := own_callV X3 hx (y := own_m2) (z := own_m2) hown (mvT hZ (wd hw 40 rfl)) (mvT hZ (wd hw 41 rfl)) (notFace_of_selects (args := #[]) (mvT hZ (wd hw 43 rfl))) (mvT hZ (wd hw 43 rfl)) (mvT hZ (wd hw 42 rfl)) (by decide) (backOf (W := 1) (rm_slen l Z a0 hw [] x cs cz hB n0 O0 E_x S lcs SC hcz) hZ (wd hw 44 rfl) (wd hw 17 rfl) (by decide) (by decide)) q7a q7c (g := (mkF m 27 #[rv x, iv (Int32.ofNat ii), iv (List.getD cs ii 0)] [(.ref x), (.int (Int32.ofNat (ii + 1)))])) rfl (by rw [hml]; rfl) (argsL := []) (rest := [(.int (Int32.ofNat (ii + 1)))]) (lenOf pd___I rfl) rfl (by show 2 * 0 + _ ≤ _; exact Nat.le_of_eq rfl) (hb hby d7_27) rfl eq3 (by decide) (by decide) (c' := 0) (s' := 0) rfl rfl
    clear q7a q7b q7c kq7 cq7
    obtain ⟨rfl, Nq7, eq7⟩ := hQ7
    have N7 := Fr.app N3 Nq7
    refine own_st (T' := T7) (g' := (mkF m 30 #[rv x, iv (Int32.ofNat ii), iv (List.getD cs ii 0)] [(.int (Int32.ofNat cs.length)), (.int (Int32.ofNat (ii + 1)))])) st7 ?_
    clear st7
    by_cases hc8 : (Int32.ofNat (ii + 1)) < (Int32.ofNat cs.length)
    · refine own_st (T' := T7) (g' := (mkF m 33 #[rv x, iv (Int32.ofNat ii), iv (List.getD cs ii 0)] [])) (fun _ k_ => XS.icmpNo X7.here hx rfl (hb hby d7_30) rfl (tlt hc8).2.1 k_) ?_
      refine own_st (T' := T7) (g' := (mkF m 34 #[rv x, iv (Int32.ofNat ii), iv (List.getD cs ii 0)] [(.ref x)])) (fun _ k_ => XS.aloadN X7.here hx rfl (hb hby d7_33) rfl rfl  k_) ?_
      refine own_st (T' := T7) (g' := (mkF m 35 #[rv x, iv (Int32.ofNat ii), iv (List.getD cs ii 0)] [(.int (Int32.ofNat ii)), (.ref x)])) (fun _ k_ => XS.iloadN X7.here hx rfl (hb hby d7_34) rfl  k_) ?_
      refine own_st (T' := T7) (g' := (mkF m 36 #[rv x, iv (Int32.ofNat ii), iv (List.getD cs ii 0)] [(.int (1 : Int32)), (.int (Int32.ofNat ii)), (.ref x)])) (fun _ k_ => XS.iconst X7.here hx rfl (hb hby d7_35) k_) ?_
      refine own_st (T' := T7) (g' := (mkF m 37 #[rv x, iv (Int32.ofNat ii), iv (List.getD cs ii 0)] [(.int ((Int32.ofNat ii) + (1 : Int32))), (.ref x)])) (fun _ k_ => XS.iadd X7.here hx rfl (hb hby d7_36) rfl k_) ?_
      rw [own_on1 (by omega)]
      obtain ⟨cq9, kq9, q9a, q9b, q9c⟩ := isOf hZ eq7 E_x
      obtain ⟨_, T9, L9, X9, hQ9, st9⟩ := own_callV X7 hx (y := own_m10) (z := own_m10) hown (mvT hZ (wd hw 67 rfl)) (mvT hZ (wd hw 68 rfl)) (notFace_of_selects (args := #[]) (mvT hZ (wd hw 70 rfl))) (mvT hZ (wd hw 70 rfl)) (mvT hZ (wd hw 69 rfl)) (by decide) (backOf (W := 0) (rm_chat l Z a0 hw [] x cs (Int32.ofNat (ii + 1)) (ii + 1) cz fm hB n0 O0 E_x S rfl ((own_olt (by omega) (by omega)).mp hc8) lcs SC hcz SA SHI SLO SF hfm) hZ (wd hw 71 rfl) (wd hw 17 rfl) (by decide) (by decide)) q9a q9c (g := (mkF m 37 #[rv x, iv (Int32.ofNat ii), iv (List.getD cs ii 0)] [(.int (Int32.ofNat (ii + 1))), (.ref x)])) rfl (by rw [hml]; rfl) (argsL := [(.int (Int32.ofNat (ii + 1)))]) (rest := []) (lenOf pd__I_C rfl) rfl (by show 2 * 0 + _ ≤ _; exact Nat.le_of_eq rfl) (hb hby d7_37) rfl eq7 (by decide) (by decide) (c' := 0) (s' := 0) rfl rfl
      clear q9a q9b q9c kq9 cq9
      obtain ⟨rfl, Nq9, eq9⟩ := hQ9
      have N9 := Fr.app N7 Nq9
      refine own_st (T' := T9) (g' := (mkF m 40 #[rv x, iv (Int32.ofNat ii), iv (List.getD cs ii 0)] [(.int (List.getD cs (ii + 1) 0))])) st9 ?_
      clear st9
      obtain ⟨_, T10, L10, X10, hQ10, st10⟩ := own_callS X9 hx (y := own_m21) hown (mvT hZ (wd hw 130 rfl)) (mvT hZ (wd hw 131 rfl)) (mvT hZ (wd hw 91 rfl)) (mvT hZ (wd hw 132 rfl)) (by decide) (backOf (W := 0) (rm_clo l Z a0 hw [] (List.getD cs (ii + 1) 0) hB n0 O0) hZ (wd hw 132 rfl) (wd hw 91 rfl) (by decide) (by decide)) (g := (mkF m 40 #[rv x, iv (Int32.ofNat ii), iv (List.getD cs ii 0)] [(.int (List.getD cs (ii + 1) 0))])) rfl (by rw [hml]; rfl) (argsL := [(.int (List.getD cs (ii + 1) 0))]) (rest := []) (lenOf pd__C_Z rfl) rfl (by show 2 * 0 + _ ≤ _; exact Nat.le_of_eq rfl) (hb hby d7_40) rfl eq9 (by decide) (by decide) (c' := 0) (s' := 0) rfl rfl
      obtain ⟨rfl, Nq10, eq10⟩ := hQ10
      have N10 := Fr.app N9 Nq10
      refine own_st (T' := T10) (g' := (mkF m 43 #[rv x, iv (Int32.ofNat ii), iv (List.getD cs ii 0)] [(.int (own_lo (List.getD cs (ii + 1) 0)))])) st10 ?_
      clear st10
      by_cases hc11 : (own_lo (List.getD cs (ii + 1) 0)) = (0 : Int32)
      · refine own_st (T' := T10) (g' := (mkF m 52 #[rv x, iv (Int32.ofNat ii), iv (List.getD cs ii 0)] [])) (fun _ k_ => XS.ifYes X10.here hx rfl (pc0 := 43) (pc' := 52) rfl (hb hby d7_43) rfl ((if0 _ _).trans (teq hc11).1) (by decide) (by decide) k_) ?_
        refine own_st (T' := T10) (g' := (mkF m 53 #[rv x, iv (Int32.ofNat ii), iv (List.getD cs ii 0)] [(.int (List.getD cs ii 0))])) (fun _ k_ => XS.iloadN X10.here hx rfl (hb hby d7_52) rfl  k_) ?_
        obtain ⟨_, T12, L12, X12, hQ12, st12⟩ := own_callS X10 hx (y := own_m22) hown (mvT hZ (wd hw 94 rfl)) (mvT hZ (wd hw 95 rfl)) (mvT hZ (wd hw 91 rfl)) (mvT hZ (wd hw 96 rfl)) (by decide) (backOf (W := 0) (rm_csu l Z a0 hw [] (List.getD cs ii 0) hB n0 O0) hZ (wd hw 96 rfl) (wd hw 91 rfl) (by decide) (by decide)) (g := (mkF m 53 #[rv x, iv (Int32.ofNat ii), iv (List.getD cs ii 0)] [(.int (List.getD cs ii 0))])) rfl (by rw [hml]; rfl) (argsL := [(.int (List.getD cs ii 0))]) (rest := []) (lenOf pd__C_Z rfl) rfl (by show 2 * 0 + _ ≤ _; exact Nat.le_of_eq rfl) (hb hby d7_53) rfl eq10 (by decide) (by decide) (c' := 0) (s' := 0) rfl rfl
        obtain ⟨rfl, Nq12, eq12⟩ := hQ12
        have N12 := Fr.app N10 Nq12
        refine own_st (T' := T12) (g' := (mkF m 56 #[rv x, iv (Int32.ofNat ii), iv (List.getD cs ii 0)] [(.int (own_su (List.getD cs ii 0)))])) st12 ?_
        clear st12
        refine own_st (T' := T12) (g' := (mkF m 59 #[rv x, iv (Int32.ofNat ii), iv (List.getD cs ii 0)] [])) (fun _ k_ => XS.ifNo X12.here hx rfl (hb hby d7_56) rfl ((if0 _ _).trans (feq ((own_hs hc4) : ¬ ((own_su (List.getD cs ii 0)) = (0 : Int32)))).1) k_) ?_
        refine own_st (T' := T12) (g' := (mkF m 60 #[rv x, iv (Int32.ofNat ii), iv (List.getD cs ii 0)] [(.int (0 : Int32))])) (fun _ k_ => XS.iconst X12.here hx rfl (hb hby d7_59) k_) ?_
        exact own_retN X12 hx (t := .boolean) hret (by simp) hlk (hb hby d7_60) (by decide) (by decide) ⟨congrArg (fun z => some (Value.int z)) ((own_f2 hii (own_hs hc4) (fun _ => Or.inr hc11)).symm.trans hf), N12, eq12.trans eB⟩
      · refine own_st (T' := T10) (g' := (mkF m 46 #[rv x, iv (Int32.ofNat ii), iv (List.getD cs ii 0)] [])) (fun _ k_ => XS.ifNo X10.here hx rfl (hb hby d7_43) rfl ((if0 _ _).trans (feq hc11).1) k_) ?_
        refine own_st (T' := T10) (g' := (mkF m 49 #[rv x, iv ((Int32.ofNat ii) + (1 : Int32)), iv (List.getD cs ii 0)] [])) (fun _ k_ => XS.iinc X10.here hx rfl (hb hby d7_46) rfl (l' := #[rv x, iv ((Int32.ofNat ii) + (1 : Int32)), iv (List.getD cs ii 0)]) rfl k_) ?_
        refine own_st (T' := T10) (g' := (mkF m 61 #[rv x, iv ((Int32.ofNat ii) + (1 : Int32)), iv (List.getD cs ii 0)] [])) (fun _ k_ => XS.goto X10.here hx rfl (pc0 := 49) (pc' := 61) rfl (hb hby d7_49) (by decide) (by decide) k_) ?_
        refine own_st (T' := T10) (g' := (mkF m 64 #[rv x, iv (((Int32.ofNat ii) + (1 : Int32)) + (1 : Int32)), iv (List.getD cs ii 0)] [])) (fun _ k_ => XS.iinc X10.here hx rfl (hb hby d7_61) rfl (l' := #[rv x, iv (((Int32.ofNat ii) + (1 : Int32)) + (1 : Int32)), iv (List.getD cs ii 0)]) rfl k_) ?_
        refine own_st (T' := T10) (g' := (mkF m 2 #[rv x, iv (((Int32.ofNat ii) + (1 : Int32)) + (1 : Int32)), iv (List.getD cs ii 0)] [])) (fun _ k_ => XS.goto X10.here hx rfl (pc0 := 64) (pc' := 2) rfl (hb hby d7_64) (by decide) (by decide) k_) ?_
        have hq := (own_olt (by omega) (by omega)).mp hc8
        rw [own_on1 (by omega), own_on1 (by omega)]
        exact K (ii + 2) _ T10 _ (by omega) (by omega) ((own_f3 hq hc4 hc11).symm.trans hf) (Or.inr ⟨_, rfl, rfl⟩) X10 eq10 N10
    · refine own_st (T' := T7) (g' := (mkF m 52 #[rv x, iv (Int32.ofNat ii), iv (List.getD cs ii 0)] [])) (fun _ k_ => XS.icmpYes X7.here hx rfl (pc0 := 30) (pc' := 52) rfl (hb hby d7_30) rfl (flt hc8).2.1 (by decide) (by decide) k_) ?_
      refine own_st (T' := T7) (g' := (mkF m 53 #[rv x, iv (Int32.ofNat ii), iv (List.getD cs ii 0)] [(.int (List.getD cs ii 0))])) (fun _ k_ => XS.iloadN X7.here hx rfl (hb hby d7_52) rfl  k_) ?_
      obtain ⟨_, T13, L13, X13, hQ13, st13⟩ := own_callS X7 hx (y := own_m22) hown (mvT hZ (wd hw 94 rfl)) (mvT hZ (wd hw 95 rfl)) (mvT hZ (wd hw 91 rfl)) (mvT hZ (wd hw 96 rfl)) (by decide) (backOf (W := 0) (rm_csu l Z a0 hw [] (List.getD cs ii 0) hB n0 O0) hZ (wd hw 96 rfl) (wd hw 91 rfl) (by decide) (by decide)) (g := (mkF m 53 #[rv x, iv (Int32.ofNat ii), iv (List.getD cs ii 0)] [(.int (List.getD cs ii 0))])) rfl (by rw [hml]; rfl) (argsL := [(.int (List.getD cs ii 0))]) (rest := []) (lenOf pd__C_Z rfl) rfl (by show 2 * 0 + _ ≤ _; exact Nat.le_of_eq rfl) (hb hby d7_53) rfl eq7 (by decide) (by decide) (c' := 0) (s' := 0) rfl rfl
      obtain ⟨rfl, Nq13, eq13⟩ := hQ13
      have N13 := Fr.app N7 Nq13
      refine own_st (T' := T13) (g' := (mkF m 56 #[rv x, iv (Int32.ofNat ii), iv (List.getD cs ii 0)] [(.int (own_su (List.getD cs ii 0)))])) st13 ?_
      clear st13
      refine own_st (T' := T13) (g' := (mkF m 59 #[rv x, iv (Int32.ofNat ii), iv (List.getD cs ii 0)] [])) (fun _ k_ => XS.ifNo X13.here hx rfl (hb hby d7_56) rfl ((if0 _ _).trans (feq ((own_hs hc4) : ¬ ((own_su (List.getD cs ii 0)) = (0 : Int32)))).1) k_) ?_
      refine own_st (T' := T13) (g' := (mkF m 60 #[rv x, iv (Int32.ofNat ii), iv (List.getD cs ii 0)] [(.int (0 : Int32))])) (fun _ k_ => XS.iconst X13.here hx rfl (hb hby d7_59) k_) ?_
      exact own_retN X13 hx (t := .boolean) hret (by simp) hlk (hb hby d7_60) (by decide) (by decide) ⟨congrArg (fun z => some (Value.int z)) ((own_f2 hii (own_hs hc4) (fun z => absurd ((own_olt (by omega) (by omega)).mpr z) hc8)).symm.trans hf), N13, eq13.trans eB⟩
theorem d7_67 : decode prog_24_method_2_code 67 = .ok (.iconst 1, 1) := by decide +kernel
theorem d7_68 : decode prog_24_method_2_code 68 = .ok (.ireturn, 1) := by decide +kernel
set_option maxRecDepth 65536 in
set_option maxHeartbeats 40000000 in
theorem seg_hx {p : Program} {l : Launch} {e : Env} {s : State} {m : MethodId} {args : Array Value} {below : List Frame} {meth : Method} {c : Code} {T0 : State} {locs : List Loc} {Z : State} {a0 : Array Value} (h0 : Heap) (hB : Heap) (n0 : Nat) (x : Addr) (cs : List Int32) (cz : Int32) (fm : Value) (sl : Slot)
    (X0 : Stand p l e ({ frames := 7, cells := 0, slots := 0, locals := 150 } : Room) s m args below meth c T0 locs 0 0) (hx : p.tables.exec = Jvm.exec) (hZ : Z.Warmed39 s.vm) (hw : ∀ d ∈ tables_1, d.before a0 Z = true) (hby : c.code = prog_24_method_2_code) (hml : c.maxLocals = 3) (hown : s.vm.findClass "com/example/countersign/countersign/scheme/Utf8" = some m.cls) (hnm : meth.name = "hasForm") (hret : meth.sig.returnType = some .boolean) (hlk : meth.locks = false) (e0 : T0.heap = hB) (N0 : Fr n0 locs) (O0 : Old Z n0 hB) (E_x : Exa Z hB x "java/lang/String") (S : own_S Z hB x cs) (lcs : cs.length ≤ 4) (SC : Sta Z Z.heap "java/lang/String" "COMPACT_STRINGS" "Z" (.int cz)) (hcz : ¬ cz = (0 : Int32)) (SA : Sta Z Z.heap "java/lang/StringUTF16" "$assertionsDisabled" "Z" (.int (1 : Int32))) (SHI : Sta Z Z.heap "java/lang/StringUTF16" "HI_BYTE_SHIFT" "I" (.int (0 : Int32))) (SLO : Sta Z Z.heap "java/lang/StringUTF16" "LO_BYTE_SHIFT" "I" (.int (8 : Int32))) (SF : Sta Z Z.heap "jdk/internal/util/Preconditions" "SIOOBE_FORMATTER" "Ljava/util/function/BiFunction;" fm) (hfm : fm.isRef = true) (eB : hB = h0) (hf : own_f (cs.drop cs.length) = own_f cs) :
    own_E p e below s ({ frames := 7, cells := 0, slots := 0, locals := 150 } : Room).cells ({ frames := 7, cells := 0, slots := 0, locals := 150 } : Room).slots (Q_hf x cs h0 n0) T0 (mkF m 2 #[rv x, iv (Int32.ofNat cs.length), sl] []) := by
  refine own_st (T' := T0) (g' := (mkF m 3 #[rv x, iv (Int32.ofNat cs.length), sl] [(.int (Int32.ofNat cs.length))])) (fun _ k_ => XS.iloadN X0.here hx rfl (hb hby d7_2) rfl  k_) ?_
  refine own_st (T' := T0) (g' := (mkF m 4 #[rv x, iv (Int32.ofNat cs.length), sl] [(.ref x), (.int (Int32.ofNat cs.length))])) (fun _ k_ => XS.aloadN X0.here hx rfl (hb hby d7_3) rfl rfl  k_) ?_
  obtain ⟨cq1, kq1, q1a, q1b, q1c⟩ := isOf hZ e0 E_x
  obtain ⟨_, T1, L1, X1, hQ1, st1⟩ := own_callV X0 hx (y := own_m2) (z := own_m2) hown (mvT hZ (wd hw 40 rfl)) (mvT hZ (wd hw 41 rfl)) (notFace_of_selects (args := #[]) (mvT hZ (wd hw 43 rfl))) (mvT hZ (wd hw 43 rfl)) (mvT hZ (wd hw 42 rfl)) (by decide) (backOf (W := 1) (rm_slen l Z a0 hw [] x cs cz hB n0 O0 E_x S lcs SC hcz) hZ (wd hw 44 rfl) (wd hw 17 rfl) (by decide) (by decide)) q1a q1c (g := (mkF m 4 #[rv x, iv (Int32.ofNat cs.length), sl] [(.ref x), (.int (Int32.ofNat cs.length))])) rfl (by rw [hml]; rfl) (argsL := []) (rest := [(.int (Int32.ofNat cs.length))]) (lenOf pd___I rfl) rfl (by show 2 * 0 + _ ≤ _; exact Nat.le_of_eq rfl) (hb hby d7_4) rfl e0 (by decide) (by decide) (c' := 0) (s' := 0) rfl rfl
  clear q1a q1b q1c kq1 cq1
  obtain ⟨rfl, Nq1, eq1⟩ := hQ1
  have N1 := Fr.app N0 Nq1
  refine own_st (T' := T1) (g' := (mkF m 7 #[rv x, iv (Int32.ofNat cs.length), sl] [(.int (Int32.ofNat cs.length)), (.int (Int32.ofNat cs.length))])) st1 ?_
  clear st1
  refine own_st (T' := T1) (g' := (mkF m 67 #[rv x, iv (Int32.ofNat cs.length), sl] [])) (fun _ k_ => XS.icmpYes X1.here hx rfl (pc0 := 7) (pc' := 67) rfl (hb hby d7_7) rfl (flt ((own_nlt _) : ¬ ((Int32.ofNat cs.length) < (Int32.ofNat cs.length)))).2.1 (by decide) (by decide) k_) ?_
  refine own_st (T' := T1) (g' := (mkF m 68 #[rv x, iv (Int32.ofNat cs.length), sl] [(.int (1 : Int32))])) (fun _ k_ => XS.iconst X1.here hx rfl (hb hby d7_67) k_) ?_
  exact own_retN X1 hx (t := .boolean) hret (by simp) hlk (hb hby d7_68) (by decide) (by decide) ⟨congrArg (fun z => some (Value.int z)) ((show own_f (cs.drop cs.length) = 1 from by rw [List.drop_length]; rfl).symm.trans hf), N1, eq1.trans eB⟩
theorem own_hfl {p : Program} {l : Launch} {e : Env} {s : State} {m : MethodId} {args : Array Value} {below : List Frame} {meth : Method} {c : Code} {Z : State} {a0 : Array Value} (h0 hB : Heap) (n0 : Nat) (x : Addr) (cs : List Int32) (cz : Int32) (fm : Value) (hx : p.tables.exec = Jvm.exec) (hZ : Z.Warmed39 s.vm) (hw : ∀ d ∈ tables_1, d.before a0 Z = true) (hby : c.code = prog_24_method_2_code) (hml : c.maxLocals = 3) (hown : s.vm.findClass "com/example/countersign/countersign/scheme/Utf8" = some m.cls) (hnm : meth.name = "hasForm") (hret : meth.sig.returnType = some .boolean) (hlk : meth.locks = false) (O0 : Old Z n0 hB) (eB : hB = h0) (E_x : Exa Z hB x "java/lang/String") (S : own_S Z hB x cs) (lcs : cs.length ≤ 4) (SC : Sta Z Z.heap "java/lang/String" "COMPACT_STRINGS" "Z" (.int cz)) (hcz : ¬ cz = (0 : Int32)) (SA : Sta Z Z.heap "java/lang/StringUTF16" "$assertionsDisabled" "Z" (.int (1 : Int32))) (SHI : Sta Z Z.heap "java/lang/StringUTF16" "HI_BYTE_SHIFT" "I" (.int (0 : Int32))) (SLO : Sta Z Z.heap "java/lang/StringUTF16" "LO_BYTE_SHIFT" "I" (.int (8 : Int32))) (SF : Sta Z Z.heap "jdk/internal/util/Preconditions" "SIOOBE_FORMATTER" "Ljava/util/function/BiFunction;" fm) (hfm : fm.isRef = true) :
    ∀ (d i : Nat), cs.length - i = d → i ≤ cs.length → own_f (cs.drop i) = own_f cs → ∀ (sl : Slot) (T : State) (locs : List Loc), (sl = .unset ∨ ∃ w, sl = .val w ∧ w.category = 1) → Stand p l e ({ frames := 7, cells := 0, slots := 0, locals := 150 } : Room) s m args below meth c T locs 0 0 → T.heap = hB → Fr n0 locs → own_E p e below s ({ frames := 7, cells := 0, slots := 0, locals := 150 } : Room).cells ({ frames := 7, cells := 0, slots := 0, locals := 150 } : Room).slots (Q_hf x cs h0 n0) T (mkF m 2 #[rv x, iv (Int32.ofNat i), sl] []) := by
  intro d
  induction d using Nat.strongRecOn with
  | _ d ih =>
    intro i h1 h2 hf sl T locs hsl X0 e0 N0
    by_cases hii : i < cs.length
    · exact seg_hf h0 hB n0 x cs cz fm i sl X0 hx hZ hw hby hml hown hnm hret hlk e0 N0 O0 E_x S lcs SC hcz SA SHI SLO SF hfm eB hii hf hsl (fun j sl' T' locs' q1 q2 q3 q4 X' e' N' => ih (cs.length - j) (by omega) j rfl q2 q3 sl' T' locs' q4 X' e' N')
    · have : i = cs.length := by omega
      subst this
      exact seg_hx h0 hB n0 x cs cz fm sl X0 hx hZ hw hby hml hown hnm hret hlk e0 N0 O0 E_x S lcs SC hcz SA SHI SLO SF hfm eB hf
theorem d7_0 : decode prog_24_method_2_code 0 = .ok (.iconst 0, 1) := by decide +kernel
theorem d7_1 : decode prog_24_method_2_code 1 = .ok (.istore_n 1, 1) := by decide +kernel
theorem pn_6 : plainName "com/example/countersign/countersign/scheme/Utf8" = true := by first | (simp [plainName, overriddenIn]; done) | decide +kernel
theorem ef_hasf (m : MethodId) (x0 : Addr) : entryFrame m #[(.ref x0)] 3 = mkF m 0 #[rv x0, .unset, .unset] [] := by first | (simp [entryFrame, mkF, argsToLocals, Value.category]; done) | rfl
set_option maxRecDepth 65536 in
set_option maxHeartbeats 40000000 in
theorem rm_hasf (l : Launch) (Z : State) (a0 : Array Value) (hw : ∀ d ∈ tables_1, d.before a0 Z = true) (ws : List Jvm.Cond) (x : Addr) (cs : List Int32) (cz : Int32) (fm : Value) (h0 : Heap) (n0 : Nat) (O0 : Old Z n0 h0) (E_x : Exa Z h0 x "java/lang/String") (S : own_S Z h0 x cs) (lcs : cs.length ≤ 4) (SC : Sta Z Z.heap "java/lang/String" "COMPACT_STRINGS" "Z" (.int cz)) (hcz : ¬ cz = (0 : Int32)) (SA : Sta Z Z.heap "java/lang/StringUTF16" "$assertionsDisabled" "Z" (.int (1 : Int32))) (SHI : Sta Z Z.heap "java/lang/StringUTF16" "HI_BYTE_SHIFT" "I" (.int (0 : Int32))) (SLO : Sta Z Z.heap "java/lang/StringUTF16" "LO_BYTE_SHIFT" "I" (.int (8 : Int32))) (SF : Sta Z Z.heap "jdk/internal/util/Preconditions" "SIOOBE_FORMATTER" "Ljava/util/function/BiFunction;" fm) (hfm : fm.isRef = true) :
    own_MF l own_m25 (Jvm.Cond.code own_m25 prog_24_method_2_code 3 (some .boolean) :: ws) ({ frames := 7, cells := 0, slots := 0, locals := 150 } : Room) #[(.ref x)] Z h0 (Q_hf x cs h0 n0) := by
  refine own_met (own := "com/example/countersign/countersign/scheme/Utf8") (nme := "hasForm") rfl rfl (plainFor_of_name pn_6) ?_
  intro p e s m below meth c s₁ hx hby hml hown hnm X0 e0 hret hlk hZ
  have N0 := Fr.nil n0
  rw [ef_hasf m x]
  refine own_st (T' := s₁) (g' := (mkF m 1 #[rv x, .unset, .unset] [(.int (0 : Int32))])) (fun _ k_ => XS.iconst X0.here hx rfl (hb hby d7_0) k_) ?_
  refine own_st (T' := s₁) (g' := (mkF m 2 #[rv x, iv (0 : Int32), .unset] [])) (fun _ k_ => XS.istoreN X0.here hx rfl (hb hby d7_1) rfl (l' := #[rv x, iv (0 : Int32), .unset]) rfl k_) ?_
  exact own_hfl h0 h0 n0 x cs cz fm hx hZ hw hby hml hown hnm hret hlk O0 rfl E_x S lcs SC hcz SA SHI SLO SF hfm _ 0 rfl (Nat.zero_le _) rfl .unset s₁ _ (Or.inl rfl) X0 e0 N0
def own_ok0 (nn c0 c1 c2 c3 : Int32) : Int32 := if (0 : Int32) < nn then (if own_isH c0 = 0 then (if own_isL c0 = 0 then (1 : Int32) else (0 : Int32)) else (if (1 : Int32) < nn then (if own_isL c1 = 0 then (0 : Int32) else (if own_isL c0 = 0 then (1 : Int32) else (0 : Int32))) else 0)) else 1
theorem d2_0 : decode method_5_code 0 = .ok (.iload_n 2, 1) := by decide +kernel
theorem d2_1 : decode method_5_code 1 = .ok (.iload_n 1, 1) := by decide +kernel
theorem d2_2 : decode method_5_code 2 = .ok (.if_icmp .lt 5, 3) := by decide +kernel
theorem d2_5 : decode method_5_code 5 = .ok (.iconst 1, 1) := by decide +kernel
theorem d2_6 : decode method_5_code 6 = .ok (.ireturn, 1) := by decide +kernel
theorem d2_7 : decode method_5_code 7 = .ok (.aload_n 0, 1) := by decide +kernel
theorem d2_8 : decode method_5_code 8 = .ok (.iload_n 2, 1) := by decide +kernel
theorem d2_9 : decode method_5_code 9 = .ok (.caload, 1) := by decide +kernel
theorem d2_10 : decode method_5_code 10 = .ok (.istore_n 3, 1) := by decide +kernel
theorem d2_11 : decode method_5_code 11 = .ok (.iload_n 3, 1) := by decide +kernel
theorem d2_12 : decode method_5_code 12 = .ok (.invokestatic 12, 3) := by decide +kernel
theorem d2_15 : decode method_5_code 15 = .ok (.ifCond .eq 23, 3) := by decide +kernel
theorem d2_18 : decode method_5_code 18 = .ok (.iload_n 2, 1) := by decide +kernel
theorem d2_19 : decode method_5_code 19 = .ok (.iconst 1, 1) := by decide +kernel
theorem d2_20 : decode method_5_code 20 = .ok (.iadd, 1) := by decide +kernel
theorem d2_21 : decode method_5_code 21 = .ok (.iload_n 1, 1) := by decide +kernel
theorem d2_22 : decode method_5_code 22 = .ok (.if_icmp .ge 14, 3) := by decide +kernel
theorem d2_25 : decode method_5_code 25 = .ok (.aload_n 0, 1) := by decide +kernel
theorem d2_26 : decode method_5_code 26 = .ok (.iload_n 2, 1) := by decide +kernel
theorem d2_27 : decode method_5_code 27 = .ok (.iconst 1, 1) := by decide +kernel
theorem d2_28 : decode method_5_code 28 = .ok (.iadd, 1) := by decide +kernel
theorem d2_29 : decode method_5_code 29 = .ok (.caload, 1) := by decide +kernel
theorem d2_30 : decode method_5_code 30 = .ok (.invokestatic 18, 3) := by decide +kernel
theorem d2_33 : decode method_5_code 33 = .ok (.ifCond .ne 5, 3) := by decide +kernel
theorem d2_36 : decode method_5_code 36 = .ok (.iconst 0, 1) := by decide +kernel
theorem d2_37 : decode method_5_code 37 = .ok (.ireturn, 1) := by decide +kernel
theorem d2_38 : decode method_5_code 38 = .ok (.iload_n 3, 1) := by decide +kernel
theorem d2_39 : decode method_5_code 39 = .ok (.invokestatic 18, 3) := by decide +kernel
theorem d2_42 : decode method_5_code 42 = .ok (.ifCond .eq 20, 3) := by decide +kernel
theorem d2_45 : decode method_5_code 45 = .ok (.iload_n 2, 1) := by decide +kernel
theorem d2_46 : decode method_5_code 46 = .ok (.ifCond .le 14, 3) := by decide +kernel
theorem d2_60 : decode method_5_code 60 = .ok (.iconst 0, 1) := by decide +kernel
theorem d2_61 : decode method_5_code 61 = .ok (.ireturn, 1) := by decide +kernel
theorem d2_62 : decode method_5_code 62 = .ok (.iconst 1, 1) := by decide +kernel
theorem d2_63 : decode method_5_code 63 = .ok (.ireturn, 1) := by decide +kernel
theorem ef_okat0 (m : MethodId) (x0 : Addr) (x1 : Int32) (x2 : Int32) : entryFrame m #[(.ref x0), (.int x1), (.int x2)] 4 = mkF m 0 #[rv x0, iv x1, iv x2, .unset] [] := by first | (simp [entryFrame, mkF, argsToLocals, Value.category]; done) | rfl
def Q_okat0 (Z : State) (va : Addr) (kv : ClassId) (nn : Int32) (c0 : Int32) (c1 : Int32) (c2 : Int32) (c3 : Int32) (h0 : Heap) (n0 : Nat) (v : Option Value) (h : Heap) (L : List Loc) : Prop := (v = some (.int (own_ok0 nn c0 c1 c2 c3))) ∧ (Fr n0 L) ∧ (h = h0)
set_option maxRecDepth 65536 in
set_option maxHeartbeats 40000000 in
theorem rm_okat0 (l : Launch) (Z : State) (a0 : Array Value) (hw : ∀ d ∈ tables_1, d.before a0 Z = true) (ws : List Jvm.Cond) (va : Addr) (kv : ClassId) (nn : Int32) (c0 : Int32) (c1 : Int32) (c2 : Int32) (c3 : Int32) (h0 : Heap) (n0 : Nat) (O0 : Old Z n0 h0) (VA : Arv Z h0 va kv .char (4 : Int32) [(.int c0), (.int c1), (.int c2), (.int c3)] (.int (0 : Int32))) (hn4 : ¬ (4 : Int32) < nn) :
    own_MF l own_m26 (Jvm.Cond.code own_m26 method_5_code 4 (some .boolean) :: ws) ({ frames := 1, cells := 0, slots := 0, locals := 12 } : Room) #[(.ref va), (.int nn), (.int (0 : Int32))] Z h0 (Q_okat0 Z va kv nn c0 c1 c2 c3 h0 n0) := by
  refine own_met (own := "com/example/countersign/countersign/scheme/Utf8HasFormPinLaw") (nme := "okAt") rfl rfl (plainFor_of_name pn_5) ?_
  intro p e s m below meth c s₁ hx hby hml hown hnm X0 e0 hret hlk hZ
  have N0 := Fr.nil n0
  rw [ef_okat0 m va nn (0 : Int32)]
  refine own_st (T' := s₁) (g' := (mkF m 1 #[rv va, iv nn, iv (0 : Int32), .unset] [(.int (0 : Int32))])) (fun _ k_ => XS.iloadN X0.here hx rfl (hb hby d2_0) rfl  k_) ?_
  refine own_st (T' := s₁) (g' := (mkF m 2 #[rv va, iv nn, iv (0 : Int32), .unset] [(.int nn), (.int (0 : Int32))])) (fun _ k_ => XS.iloadN X0.here hx rfl (hb hby d2_1) rfl  k_) ?_
  by_cases hc1 : (0 : Int32) < nn
  · refine own_st (T' := s₁) (g' := (mkF m 7 #[rv va, iv nn, iv (0 : Int32), .unset] [])) (fun _ k_ => XS.icmpYes X0.here hx rfl (pc0 := 2) (pc' := 7) rfl (hb hby d2_2) rfl (tlt hc1).1 (by decide) (by decide) k_) ?_
    refine own_st (T' := s₁) (g' := (mkF m 8 #[rv va, iv nn, iv (0 : Int32), .unset] [(.ref va)])) (fun _ k_ => XS.aloadN X0.here hx rfl (hb hby d2_7) rfl rfl  k_) ?_
    refine own_st (T' := s₁) (g' := (mkF m 9 #[rv va, iv nn, iv (0 : Int32), .unset] [(.int (0 : Int32)), (.ref va)])) (fun _ k_ => XS.iloadN X0.here hx rfl (hb hby d2_8) rfl  k_) ?_
    obtain ⟨cl2, Ar2, q2, S2, N2, H2, G2⟩ := id VA
    have hin2 : ¬ ((0 : Int32) < 0 ∨ cl2.slots.size ≤ ((0 : Int32)).toNatClampNeg) := inb_of S2 ⟨by decide, by decide⟩
    refine own_st (T' := s₁) (g' := (mkF m 10 #[rv va, iv nn, iv (0 : Int32), .unset] [(.int c0)])) (X0.caload hx (j := (0 : Int32)) (v := (.int c0)) (by rw [e0]; exact Ar2.1) (State.isArrayOf_alike hZ.alike Ar2.2.1) Ar2.2.2 hin2 (H2.at hin2 rfl) (g := (mkF m 9 #[rv va, iv nn, iv (0 : Int32), .unset] [(.int (0 : Int32)), (.ref va)])) rfl rfl (hb hby d2_9)) ?_
    clear hin2 G2 H2 N2 S2 q2 Ar2 cl2
    refine own_st (T' := s₁) (g' := (mkF m 11 #[rv va, iv nn, iv (0 : Int32), iv c0] [])) (fun _ k_ => XS.istoreN X0.here hx rfl (hb hby d2_10) rfl (l' := #[rv va, iv nn, iv (0 : Int32), iv c0]) rfl k_) ?_
    refine own_st (T' := s₁) (g' := (mkF m 12 #[rv va, iv nn, iv (0 : Int32), iv c0] [(.int c0)])) (fun _ k_ => XS.iloadN X0.here hx rfl (hb hby d2_11) rfl  k_) ?_
    obtain ⟨_, T3, L3, X3, hQ3, st3⟩ := own_callS X0 hx (y := own_m23) hown (mvT hZ (wd hw 51 rfl)) (mvT hZ (wd hw 52 rfl)) (mvT hZ (wd hw 4 rfl)) (mvT hZ (wd hw 53 rfl)) (by decide) (backOf (W := 0) (rm_lih l Z a0 hw [] c0 h0 n0 O0) hZ (wd hw 53 rfl) (wd hw 4 rfl) (by decide) (by decide)) (g := (mkF m 12 #[rv va, iv nn, iv (0 : Int32), iv c0] [(.int c0)])) rfl (by rw [hml]; rfl) (argsL := [(.int c0)]) (rest := []) (lenOf pd__C_Z rfl) rfl (by show 2 * 0 + _ ≤ _; exact Nat.le_of_eq rfl) (hb hby d2_12) rfl e0 (by decide) (by decide) (c' := 0) (s' := 0) rfl rfl
    obtain ⟨rfl, Nq3, eq3⟩ := hQ3
    have N3 := Fr.app N0 Nq3
    refine own_st (T' := T3) (g' := (mkF m 15 #[rv va, iv nn, iv (0 : Int32), iv c0] [(.int (own_isH c0))])) st3 ?_
    clear st3
    by_cases hc4 : (own_isH c0) = (0 : Int32)
    · refine own_st (T' := T3) (g' := (mkF m 38 #[rv va, iv nn, iv (0 : Int32), iv c0] [])) (fun _ k_ => XS.ifYes X3.here hx rfl (pc0 := 15) (pc' := 38) rfl (hb hby d2_15) rfl ((if0 _ _).trans (teq hc4).1) (by decide) (by decide) k_) ?_
      refine own_st (T' := T3) (g' := (mkF m 39 #[rv va, iv nn, iv (0 : Int32), iv c0] [(.int c0)])) (fun _ k_ => XS.iloadN X3.here hx rfl (hb hby d2_38) rfl  k_) ?_
      obtain ⟨_, T5, L5, X5, hQ5, st5⟩ := own_callS X3 hx (y := own_m24) hown (mvT hZ (wd hw 54 rfl)) (mvT hZ (wd hw 55 rfl)) (mvT hZ (wd hw 4 rfl)) (mvT hZ (wd hw 56 rfl)) (by decide) (backOf (W := 0) (rm_lil l Z a0 hw [] c0 h0 n0 O0) hZ (wd hw 56 rfl) (wd hw 4 rfl) (by decide) (by decide)) (g := (mkF m 39 #[rv va, iv nn, iv (0 : Int32), iv c0] [(.int c0)])) rfl (by rw [hml]; rfl) (argsL := [(.int c0)]) (rest := []) (lenOf pd__C_Z rfl) rfl (by show 2 * 0 + _ ≤ _; exact Nat.le_of_eq rfl) (hb hby d2_39) rfl eq3 (by decide) (by decide) (c' := 0) (s' := 0) rfl rfl
      obtain ⟨rfl, Nq5, eq5⟩ := hQ5
      have N5 := Fr.app N3 Nq5
      refine own_st (T' := T5) (g' := (mkF m 42 #[rv va, iv nn, iv (0 : Int32), iv c0] [(.int (own_isL c0))])) st5 ?_
      clear st5
      by_cases hc6 : (own_isL c0) = (0 : Int32)
      · refine own_st (T' := T5) (g' := (mkF m 62 #[rv va, iv nn, iv (0 : Int32), iv c0] [])) (fun _ k_ => XS.ifYes X5.here hx rfl (pc0 := 42) (pc' := 62) rfl (hb hby d2_42) rfl ((if0 _ _).trans (teq hc6).1) (by decide) (by decide) k_) ?_
        refine own_st (T' := T5) (g' := (mkF m 63 #[rv va, iv nn, iv (0 : Int32), iv c0] [(.int (1 : Int32))])) (fun _ k_ => XS.iconst X5.here hx rfl (hb hby d2_62) k_) ?_
        exact own_retN X5 hx (t := .boolean) hret (by simp) hlk (hb hby d2_63) (by decide) (by decide) ⟨(by unfold own_ok0; rw [if_pos hc1, if_pos hc4, if_pos hc6]; rfl), N5, eq5⟩
      · refine own_st (T' := T5) (g' := (mkF m 45 #[rv va, iv nn, iv (0 : Int32), iv c0] [])) (fun _ k_ => XS.ifNo X5.here hx rfl (hb hby d2_42) rfl ((if0 _ _).trans (feq hc6).1) k_) ?_
        refine own_st (T' := T5) (g' := (mkF m 46 #[rv va, iv nn, iv (0 : Int32), iv c0] [(.int (0 : Int32))])) (fun _ k_ => XS.iloadN X5.here hx rfl (hb hby d2_45) rfl  k_) ?_
        refine own_st (T' := T5) (g' := (mkF m 60 #[rv va, iv nn, iv (0 : Int32), iv c0] [])) (fun _ k_ => XS.ifYes X5.here hx rfl (pc0 := 46) (pc' := 60) rfl (hb hby d2_46) rfl ((if0 _ _).trans (flt (by decide : ¬ ((0 : Int32) < (0 : Int32)))).2.2.2) (by decide) (by decide) k_) ?_
        refine own_st (T' := T5) (g' := (mkF m 61 #[rv va, iv nn, iv (0 : Int32), iv c0] [(.int (0 : Int32))])) (fun _ k_ => XS.iconst X5.here hx rfl (hb hby d2_60) k_) ?_
        exact own_retN X5 hx (t := .boolean) hret (by simp) hlk (hb hby d2_61) (by decide) (by decide) ⟨(by unfold own_ok0; rw [if_pos hc1, if_pos hc4, if_neg hc6]; rfl), N5, eq5⟩
    · refine own_st (T' := T3) (g' := (mkF m 18 #[rv va, iv nn, iv (0 : Int32), iv c0] [])) (fun _ k_ => XS.ifNo X3.here hx rfl (hb hby d2_15) rfl ((if0 _ _).trans (feq hc4).1) k_) ?_
      refine own_st (T' := T3) (g' := (mkF m 19 #[rv va, iv nn, iv (0 : Int32), iv c0] [(.int (0 : Int32))])) (fun _ k_ => XS.iloadN X3.here hx rfl (hb hby d2_18) rfl  k_) ?_
      refine own_st (T' := T3) (g' := (mkF m 20 #[rv va, iv nn, iv (0 : Int32), iv c0] [(.int (1 : Int32)), (.int (0 : Int32))])) (fun _ k_ => XS.iconst X3.here hx rfl (hb hby d2_19) k_) ?_
      refine own_st (T' := T3) (g' := (mkF m 21 #[rv va, iv nn, iv (0 : Int32), iv c0] [(.int (1 : Int32))])) (fun _ k_ => XS.iadd X3.here hx rfl (hb hby d2_20) rfl k_) ?_
      refine own_st (T' := T3) (g' := (mkF m 22 #[rv va, iv nn, iv (0 : Int32), iv c0] [(.int nn), (.int (1 : Int32))])) (fun _ k_ => XS.iloadN X3.here hx rfl (hb hby d2_21) rfl  k_) ?_
      by_cases hc7 : (1 : Int32) < nn
      · refine own_st (T' := T3) (g' := (mkF m 25 #[rv va, iv nn, iv (0 : Int32), iv c0] [])) (fun _ k_ => XS.icmpNo X3.here hx rfl (hb hby d2_22) rfl (tlt hc7).2.1 k_) ?_
        refine own_st (T' := T3) (g' := (mkF m 26 #[rv va, iv nn, iv (0 : Int32), iv c0] [(.ref va)])) (fun _ k_ => XS.aloadN X3.here hx rfl (hb hby d2_25) rfl rfl  k_) ?_
        refine own_st (T' := T3) (g' := (mkF m 27 #[rv va, iv nn, iv (0 : Int32), iv c0] [(.int (0 : Int32)), (.ref va)])) (fun _ k_ => XS.iloadN X3.here hx rfl (hb hby d2_26) rfl  k_) ?_
        refine own_st (T' := T3) (g' := (mkF m 28 #[rv va, iv nn, iv (0 : Int32), iv c0] [(.int (1 : Int32)), (.int (0 : Int32)), (.ref va)])) (fun _ k_ => XS.iconst X3.here hx rfl (hb hby d2_27) k_) ?_
        refine own_st (T' := T3) (g' := (mkF m 29 #[rv va, iv nn, iv (0 : Int32), iv c0] [(.int (1 : Int32)), (.ref va)])) (fun _ k_ => XS.iadd X3.here hx rfl (hb hby d2_28) rfl k_) ?_
        obtain ⟨cl8, Ar8, q8, S8, N8, H8, G8⟩ := id VA
        have hin8 : ¬ ((1 : Int32) < 0 ∨ cl8.slots.size ≤ ((1 : Int32)).toNatClampNeg) := inb_of S8 ⟨by decide, by decide⟩
        refine own_st (T' := T3) (g' := (mkF m 30 #[rv va, iv nn, iv (0 : Int32), iv c0] [(.int c1)])) (X3.caload hx (j := (1 : Int32)) (v := (.int c1)) (by rw [eq3]; exact Ar8.1) (State.isArrayOf_alike hZ.alike Ar8.2.1) Ar8.2.2 hin8 (H8.at hin8 rfl) (g := (mkF m 29 #[rv va, iv nn, iv (0 : Int32), iv c0] [(.int (1 : Int32)), (.ref va)])) rfl rfl (hb hby d2_29)) ?_
        clear hin8 G8 H8 N8 S8 q8 Ar8 cl8
        obtain ⟨_, T9, L9, X9, hQ9, st9⟩ := own_callS X3 hx (y := own_m24) hown (mvT hZ (wd hw 54 rfl)) (mvT hZ (wd hw 55 rfl)) (mvT hZ (wd hw 4 rfl)) (mvT hZ (wd hw 56 rfl)) (by decide) (backOf (W := 0) (rm_lil l Z a0 hw [] c1 h0 n0 O0) hZ (wd hw 56 rfl) (wd hw 4 rfl) (by decide) (by decide)) (g := (mkF m 30 #[rv va, iv nn, iv (0 : Int32), iv c0] [(.int c1)])) rfl (by rw [hml]; rfl) (argsL := [(.int c1)]) (rest := []) (lenOf pd__C_Z rfl) rfl (by show 2 * 0 + _ ≤ _; exact Nat.le_of_eq rfl) (hb hby d2_30) rfl eq3 (by decide) (by decide) (c' := 0) (s' := 0) rfl rfl
        obtain ⟨rfl, Nq9, eq9⟩ := hQ9
        have N9 := Fr.app N3 Nq9
        refine own_st (T' := T9) (g' := (mkF m 33 #[rv va, iv nn, iv (0 : Int32), iv c0] [(.int (own_isL c1))])) st9 ?_
        clear st9
        by_cases hc10 : (own_isL c1) = (0 : Int32)
        · refine own_st (T' := T9) (g' := (mkF m 36 #[rv va, iv nn, iv (0 : Int32), iv c0] [])) (fun _ k_ => XS.ifNo X9.here hx rfl (hb hby d2_33) rfl ((if0 _ _).trans (teq hc10).2) k_) ?_
          refine own_st (T' := T9) (g' := (mkF m 37 #[rv va, iv nn, iv (0 : Int32), iv c0] [(.int (0 : Int32))])) (fun _ k_ => XS.iconst X9.here hx rfl (hb hby d2_36) k_) ?_
          exact own_retN X9 hx (t := .boolean) hret (by simp) hlk (hb hby d2_37) (by decide) (by decide) ⟨(by unfold own_ok0; rw [if_pos hc1, if_neg hc4, if_pos hc7, if_pos hc10]; rfl), N9, eq9⟩
        · refine own_st (T' := T9) (g' := (mkF m 38 #[rv va, iv nn, iv (0 : Int32), iv c0] [])) (fun _ k_ => XS.ifYes X9.here hx rfl (pc0 := 33) (pc' := 38) rfl (hb hby d2_33) rfl ((if0 _ _).trans (feq hc10).2) (by decide) (by decide) k_) ?_
          refine own_st (T' := T9) (g' := (mkF m 39 #[rv va, iv nn, iv (0 : Int32), iv c0] [(.int c0)])) (fun _ k_ => XS.iloadN X9.here hx rfl (hb hby d2_38) rfl  k_) ?_
          obtain ⟨_, T11, L11, X11, hQ11, st11⟩ := own_callS X9 hx (y := own_m24) hown (mvT hZ (wd hw 54 rfl)) (mvT hZ (wd hw 55 rfl)) (mvT hZ (wd hw 4 rfl)) (mvT hZ (wd hw 56 rfl)) (by decide) (backOf (W := 0) (rm_lil l Z a0 hw [] c0 h0 n0 O0) hZ (wd hw 56 rfl) (wd hw 4 rfl) (by decide) (by decide)) (g := (mkF m 39 #[rv va, iv nn, iv (0 : Int32), iv c0] [(.int c0)])) rfl (by rw [hml]; rfl) (argsL := [(.int c0)]) (rest := []) (lenOf pd__C_Z rfl) rfl (by show 2 * 0 + _ ≤ _; exact Nat.le_of_eq rfl) (hb hby d2_39) rfl eq9 (by decide) (by decide) (c' := 0) (s' := 0) rfl rfl
          obtain ⟨rfl, Nq11, eq11⟩ := hQ11
          have N11 := Fr.app N9 Nq11
          refine own_st (T' := T11) (g' := (mkF m 42 #[rv va, iv nn, iv (0 : Int32), iv c0] [(.int (own_isL c0))])) st11 ?_
          clear st11
          by_cases hc12 : (own_isL c0) = (0 : Int32)
          · refine own_st (T' := T11) (g' := (mkF m 62 #[rv va, iv nn, iv (0 : Int32), iv c0] [])) (fun _ k_ => XS.ifYes X11.here hx rfl (pc0 := 42) (pc' := 62) rfl (hb hby d2_42) rfl ((if0 _ _).trans (teq hc12).1) (by decide) (by decide) k_) ?_
            refine own_st (T' := T11) (g' := (mkF m 63 #[rv va, iv nn, iv (0 : Int32), iv c0] [(.int (1 : Int32))])) (fun _ k_ => XS.iconst X11.here hx rfl (hb hby d2_62) k_) ?_
            exact own_retN X11 hx (t := .boolean) hret (by simp) hlk (hb hby d2_63) (by decide) (by decide) ⟨(by unfold own_ok0; rw [if_pos hc1, if_neg hc4, if_pos hc7, if_neg hc10, if_pos hc12]; rfl), N11, eq11⟩
          · refine own_st (T' := T11) (g' := (mkF m 45 #[rv va, iv nn, iv (0 : Int32), iv c0] [])) (fun _ k_ => XS.ifNo X11.here hx rfl (hb hby d2_42) rfl ((if0 _ _).trans (feq hc12).1) k_) ?_
            refine own_st (T' := T11) (g' := (mkF m 46 #[rv va, iv nn, iv (0 : Int32), iv c0] [(.int (0 : Int32))])) (fun _ k_ => XS.iloadN X11.here hx rfl (hb hby d2_45) rfl  k_) ?_
            refine own_st (T' := T11) (g' := (mkF m 60 #[rv va, iv nn, iv (0 : Int32), iv c0] [])) (fun _ k_ => XS.ifYes X11.here hx rfl (pc0 := 46) (pc' := 60) rfl (hb hby d2_46) rfl ((if0 _ _).trans (flt (by decide : ¬ ((0 : Int32) < (0 : Int32)))).2.2.2) (by decide) (by decide) k_) ?_
            refine own_st (T' := T11) (g' := (mkF m 61 #[rv va, iv nn, iv (0 : Int32), iv c0] [(.int (0 : Int32))])) (fun _ k_ => XS.iconst X11.here hx rfl (hb hby d2_60) k_) ?_
            exact own_retN X11 hx (t := .boolean) hret (by simp) hlk (hb hby d2_61) (by decide) (by decide) ⟨(by unfold own_ok0; rw [if_pos hc1, if_neg hc4, if_pos hc7, if_neg hc10, if_neg hc12]; rfl), N11, eq11⟩
      · refine own_st (T' := T3) (g' := (mkF m 36 #[rv va, iv nn, iv (0 : Int32), iv c0] [])) (fun _ k_ => XS.icmpYes X3.here hx rfl (pc0 := 22) (pc' := 36) rfl (hb hby d2_22) rfl (flt hc7).2.1 (by decide) (by decide) k_) ?_
        refine own_st (T' := T3) (g' := (mkF m 37 #[rv va, iv nn, iv (0 : Int32), iv c0] [(.int (0 : Int32))])) (fun _ k_ => XS.iconst X3.here hx rfl (hb hby d2_36) k_) ?_
        exact own_retN X3 hx (t := .boolean) hret (by simp) hlk (hb hby d2_37) (by decide) (by decide) ⟨(by unfold own_ok0; rw [if_pos hc1, if_neg hc4, if_neg hc7]; rfl), N3, eq3⟩
  · refine own_st (T' := s₁) (g' := (mkF m 5 #[rv va, iv nn, iv (0 : Int32), .unset] [])) (fun _ k_ => XS.icmpNo X0.here hx rfl (hb hby d2_2) rfl (flt hc1).1 k_) ?_
    refine own_st (T' := s₁) (g' := (mkF m 6 #[rv va, iv nn, iv (0 : Int32), .unset] [(.int (1 : Int32))])) (fun _ k_ => XS.iconst X0.here hx rfl (hb hby d2_5) k_) ?_
    exact own_retN X0 hx (t := .boolean) hret (by simp) hlk (hb hby d2_6) (by decide) (by decide) ⟨(by unfold own_ok0; rw [if_neg hc1]; rfl), N0, e0⟩
def own_ok1 (nn c0 c1 c2 c3 : Int32) : Int32 := if (1 : Int32) < nn then (if own_isH c1 = 0 then (if own_isL c1 = 0 then (1 : Int32) else (if own_isH c0 = 0 then (0 : Int32) else 1)) else (if (2 : Int32) < nn then (if own_isL c2 = 0 then (0 : Int32) else (if own_isL c1 = 0 then (1 : Int32) else (if own_isH c0 = 0 then (0 : Int32) else 1))) else 0)) else 1
theorem d2_49 : decode method_5_code 49 = .ok (.aload_n 0, 1) := by decide +kernel
theorem d2_50 : decode method_5_code 50 = .ok (.iload_n 2, 1) := by decide +kernel
theorem d2_51 : decode method_5_code 51 = .ok (.iconst 1, 1) := by decide +kernel
theorem d2_52 : decode method_5_code 52 = .ok (.isub, 1) := by decide +kernel
theorem d2_53 : decode method_5_code 53 = .ok (.caload, 1) := by decide +kernel
theorem d2_54 : decode method_5_code 54 = .ok (.invokestatic 12, 3) := by decide +kernel
theorem d2_57 : decode method_5_code 57 = .ok (.ifCond .ne 5, 3) := by decide +kernel
theorem ef_okat1 (m : MethodId) (x0 : Addr) (x1 : Int32) (x2 : Int32) : entryFrame m #[(.ref x0), (.int x1), (.int x2)] 4 = mkF m 0 #[rv x0, iv x1, iv x2, .unset] [] := by first | (simp [entryFrame, mkF, argsToLocals, Value.category]; done) | rfl
def Q_okat1 (Z : State) (va : Addr) (kv : ClassId) (nn : Int32) (c0 : Int32) (c1 : Int32) (c2 : Int32) (c3 : Int32) (h0 : Heap) (n0 : Nat) (v : Option Value) (h : Heap) (L : List Loc) : Prop := (v = some (.int (own_ok1 nn c0 c1 c2 c3))) ∧ (Fr n0 L) ∧ (h = h0)
set_option maxRecDepth 65536 in
set_option maxHeartbeats 40000000 in
theorem rm_okat1 (l : Launch) (Z : State) (a0 : Array Value) (hw : ∀ d ∈ tables_1, d.before a0 Z = true) (ws : List Jvm.Cond) (va : Addr) (kv : ClassId) (nn : Int32) (c0 : Int32) (c1 : Int32) (c2 : Int32) (c3 : Int32) (h0 : Heap) (n0 : Nat) (O0 : Old Z n0 h0) (VA : Arv Z h0 va kv .char (4 : Int32) [(.int c0), (.int c1), (.int c2), (.int c3)] (.int (0 : Int32))) (hn4 : ¬ (4 : Int32) < nn) :
    own_MF l own_m26 (Jvm.Cond.code own_m26 method_5_code 4 (some .boolean) :: ws) ({ frames := 1, cells := 0, slots := 0, locals := 12 } : Room) #[(.ref va), (.int nn), (.int (1 : Int32))] Z h0 (Q_okat1 Z va kv nn c0 c1 c2 c3 h0 n0) := by
  refine own_met (own := "com/example/countersign/countersign/scheme/Utf8HasFormPinLaw") (nme := "okAt") rfl rfl (plainFor_of_name pn_5) ?_
  intro p e s m below meth c s₁ hx hby hml hown hnm X0 e0 hret hlk hZ
  have N0 := Fr.nil n0
  rw [ef_okat1 m va nn (1 : Int32)]
  refine own_st (T' := s₁) (g' := (mkF m 1 #[rv va, iv nn, iv (1 : Int32), .unset] [(.int (1 : Int32))])) (fun _ k_ => XS.iloadN X0.here hx rfl (hb hby d2_0) rfl  k_) ?_
  refine own_st (T' := s₁) (g' := (mkF m 2 #[rv va, iv nn, iv (1 : Int32), .unset] [(.int nn), (.int (1 : Int32))])) (fun _ k_ => XS.iloadN X0.here hx rfl (hb hby d2_1) rfl  k_) ?_
  by_cases hc1 : (1 : Int32) < nn
  · refine own_st (T' := s₁) (g' := (mkF m 7 #[rv va, iv nn, iv (1 : Int32), .unset] [])) (fun _ k_ => XS.icmpYes X0.here hx rfl (pc0 := 2) (pc' := 7) rfl (hb hby d2_2) rfl (tlt hc1).1 (by decide) (by decide) k_) ?_
    refine own_st (T' := s₁) (g' := (mkF m 8 #[rv va, iv nn, iv (1 : Int32), .unset] [(.ref va)])) (fun _ k_ => XS.aloadN X0.here hx rfl (hb hby d2_7) rfl rfl  k_) ?_
    refine own_st (T' := s₁) (g' := (mkF m 9 #[rv va, iv nn, iv (1 : Int32), .unset] [(.int (1 : Int32)), (.ref va)])) (fun _ k_ => XS.iloadN X0.here hx rfl (hb hby d2_8) rfl  k_) ?_
    obtain ⟨cl2, Ar2, q2, S2, N2, H2, G2⟩ := id VA
    have hin2 : ¬ ((1 : Int32) < 0 ∨ cl2.slots.size ≤ ((1 : Int32)).toNatClampNeg) := inb_of S2 ⟨by decide, by decide⟩
    refine own_st (T' := s₁) (g' := (mkF m 10 #[rv va, iv nn, iv (1 : Int32), .unset] [(.int c1)])) (X0.caload hx (j := (1 : Int32)) (v := (.int c1)) (by rw [e0]; exact Ar2.1) (State.isArrayOf_alike hZ.alike Ar2.2.1) Ar2.2.2 hin2 (H2.at hin2 rfl) (g := (mkF m 9 #[rv va, iv nn, iv (1 : Int32), .unset] [(.int (1 : Int32)), (.ref va)])) rfl rfl (hb hby d2_9)) ?_
    clear hin2 G2 H2 N2 S2 q2 Ar2 cl2
    refine own_st (T' := s₁) (g' := (mkF m 11 #[rv va, iv nn, iv (1 : Int32), iv c1] [])) (fun _ k_ => XS.istoreN X0.here hx rfl (hb hby d2_10) rfl (l' := #[rv va, iv nn, iv (1 : Int32), iv c1]) rfl k_) ?_
    refine own_st (T' := s₁) (g' := (mkF m 12 #[rv va, iv nn, iv (1 : Int32), iv c1] [(.int c1)])) (fun _ k_ => XS.iloadN X0.here hx rfl (hb hby d2_11) rfl  k_) ?_
    obtain ⟨_, T3, L3, X3, hQ3, st3⟩ := own_callS X0 hx (y := own_m23) hown (mvT hZ (wd hw 51 rfl)) (mvT hZ (wd hw 52 rfl)) (mvT hZ (wd hw 4 rfl)) (mvT hZ (wd hw 53 rfl)) (by decide) (backOf (W := 0) (rm_lih l Z a0 hw [] c1 h0 n0 O0) hZ (wd hw 53 rfl) (wd hw 4 rfl) (by decide) (by decide)) (g := (mkF m 12 #[rv va, iv nn, iv (1 : Int32), iv c1] [(.int c1)])) rfl (by rw [hml]; rfl) (argsL := [(.int c1)]) (rest := []) (lenOf pd__C_Z rfl) rfl (by show 2 * 0 + _ ≤ _; exact Nat.le_of_eq rfl) (hb hby d2_12) rfl e0 (by decide) (by decide) (c' := 0) (s' := 0) rfl rfl
    obtain ⟨rfl, Nq3, eq3⟩ := hQ3
    have N3 := Fr.app N0 Nq3
    refine own_st (T' := T3) (g' := (mkF m 15 #[rv va, iv nn, iv (1 : Int32), iv c1] [(.int (own_isH c1))])) st3 ?_
    clear st3
    by_cases hc4 : (own_isH c1) = (0 : Int32)
    · refine own_st (T' := T3) (g' := (mkF m 38 #[rv va, iv nn, iv (1 : Int32), iv c1] [])) (fun _ k_ => XS.ifYes X3.here hx rfl (pc0 := 15) (pc' := 38) rfl (hb hby d2_15) rfl ((if0 _ _).trans (teq hc4).1) (by decide) (by decide) k_) ?_
      refine own_st (T' := T3) (g' := (mkF m 39 #[rv va, iv nn, iv (1 : Int32), iv c1] [(.int c1)])) (fun _ k_ => XS.iloadN X3.here hx rfl (hb hby d2_38) rfl  k_) ?_
      obtain ⟨_, T5, L5, X5, hQ5, st5⟩ := own_callS X3 hx (y := own_m24) hown (mvT hZ (wd hw 54 rfl)) (mvT hZ (wd hw 55 rfl)) (mvT hZ (wd hw 4 rfl)) (mvT hZ (wd hw 56 rfl)) (by decide) (backOf (W := 0) (rm_lil l Z a0 hw [] c1 h0 n0 O0) hZ (wd hw 56 rfl) (wd hw 4 rfl) (by decide) (by decide)) (g := (mkF m 39 #[rv va, iv nn, iv (1 : Int32), iv c1] [(.int c1)])) rfl (by rw [hml]; rfl) (argsL := [(.int c1)]) (rest := []) (lenOf pd__C_Z rfl) rfl (by show 2 * 0 + _ ≤ _; exact Nat.le_of_eq rfl) (hb hby d2_39) rfl eq3 (by decide) (by decide) (c' := 0) (s' := 0) rfl rfl
      obtain ⟨rfl, Nq5, eq5⟩ := hQ5
      have N5 := Fr.app N3 Nq5
      refine own_st (T' := T5) (g' := (mkF m 42 #[rv va, iv nn, iv (1 : Int32), iv c1] [(.int (own_isL c1))])) st5 ?_
      clear st5
      by_cases hc6 : (own_isL c1) = (0 : Int32)
      · refine own_st (T' := T5) (g' := (mkF m 62 #[rv va, iv nn, iv (1 : Int32), iv c1] [])) (fun _ k_ => XS.ifYes X5.here hx rfl (pc0 := 42) (pc' := 62) rfl (hb hby d2_42) rfl ((if0 _ _).trans (teq hc6).1) (by decide) (by decide) k_) ?_
        refine own_st (T' := T5) (g' := (mkF m 63 #[rv va, iv nn, iv (1 : Int32), iv c1] [(.int (1 : Int32))])) (fun _ k_ => XS.iconst X5.here hx rfl (hb hby d2_62) k_) ?_
        exact own_retN X5 hx (t := .boolean) hret (by simp) hlk (hb hby d2_63) (by decide) (by decide) ⟨(by unfold own_ok1; rw [if_pos hc1, if_pos hc4, if_pos hc6]; rfl), N5, eq5⟩
      · refine own_st (T' := T5) (g' := (mkF m 45 #[rv va, iv nn, iv (1 : Int32), iv c1] [])) (fun _ k_ => XS.ifNo X5.here hx rfl (hb hby d2_42) rfl ((if0 _ _).trans (feq hc6).1) k_) ?_
        refine own_st (T' := T5) (g' := (mkF m 46 #[rv va, iv nn, iv (1 : Int32), iv c1] [(.int (1 : Int32))])) (fun _ k_ => XS.iloadN X5.here hx rfl (hb hby d2_45) rfl  k_) ?_
        refine own_st (T' := T5) (g' := (mkF m 49 #[rv va, iv nn, iv (1 : Int32), iv c1] [])) (fun _ k_ => XS.ifNo X5.here hx rfl (hb hby d2_46) rfl ((if0 _ _).trans (tlt (by decide : (0 : Int32) < (1 : Int32))).2.2.2) k_) ?_
        refine own_st (T' := T5) (g' := (mkF m 50 #[rv va, iv nn, iv (1 : Int32), iv c1] [(.ref va)])) (fun _ k_ => XS.aloadN X5.here hx rfl (hb hby d2_49) rfl rfl  k_) ?_
        refine own_st (T' := T5) (g' := (mkF m 51 #[rv va, iv nn, iv (1 : Int32), iv c1] [(.int (1 : Int32)), (.ref va)])) (fun _ k_ => XS.iloadN X5.here hx rfl (hb hby d2_50) rfl  k_) ?_
        refine own_st (T' := T5) (g' := (mkF m 52 #[rv va, iv nn, iv (1 : Int32), iv c1] [(.int (1 : Int32)), (.int (1 : Int32)), (.ref va)])) (fun _ k_ => XS.iconst X5.here hx rfl (hb hby d2_51) k_) ?_
        refine own_st (T' := T5) (g' := (mkF m 53 #[rv va, iv nn, iv (1 : Int32), iv c1] [(.int (0 : Int32)), (.ref va)])) (fun _ k_ => XS.isub X5.here hx rfl (hb hby d2_52) rfl k_) ?_
        obtain ⟨cl7, Ar7, q7, S7, N7, H7, G7⟩ := id VA
        have hin7 : ¬ ((0 : Int32) < 0 ∨ cl7.slots.size ≤ ((0 : Int32)).toNatClampNeg) := inb_of S7 ⟨by decide, by decide⟩
        refine own_st (T' := T5) (g' := (mkF m 54 #[rv va, iv nn, iv (1 : Int32), iv c1] [(.int c0)])) (X5.caload hx (j := (0 : Int32)) (v := (.int c0)) (by rw [eq5]; exact Ar7.1) (State.isArrayOf_alike hZ.alike Ar7.2.1) Ar7.2.2 hin7 (H7.at hin7 rfl) (g := (mkF m 53 #[rv va, iv nn, iv (1 : Int32), iv c1] [(.int (0 : Int32)), (.ref va)])) rfl rfl (hb hby d2_53)) ?_
        clear hin7 G7 H7 N7 S7 q7 Ar7 cl7
        obtain ⟨_, T8, L8, X8, hQ8, st8⟩ := own_callS X5 hx (y := own_m23) hown (mvT hZ (wd hw 51 rfl)) (mvT hZ (wd hw 52 rfl)) (mvT hZ (wd hw 4 rfl)) (mvT hZ (wd hw 53 rfl)) (by decide) (backOf (W := 0) (rm_lih l Z a0 hw [] c0 h0 n0 O0) hZ (wd hw 53 rfl) (wd hw 4 rfl) (by decide) (by decide)) (g := (mkF m 54 #[rv va, iv nn, iv (1 : Int32), iv c1] [(.int c0)])) rfl (by rw [hml]; rfl) (argsL := [(.int c0)]) (rest := []) (lenOf pd__C_Z rfl) rfl (by show 2 * 0 + _ ≤ _; exact Nat.le_of_eq rfl) (hb hby d2_54) rfl eq5 (by decide) (by decide) (c' := 0) (s' := 0) rfl rfl
        obtain ⟨rfl, Nq8, eq8⟩ := hQ8
        have N8 := Fr.app N5 Nq8
        refine own_st (T' := T8) (g' := (mkF m 57 #[rv va, iv nn, iv (1 : Int32), iv c1] [(.int (own_isH c0))])) st8 ?_
        clear st8
        by_cases hc9 : (own_isH c0) = (0 : Int32)
        · refine own_st (T' := T8) (g' := (mkF m 60 #[rv va, iv nn, iv (1 : Int32), iv c1] [])) (fun _ k_ => XS.ifNo X8.here hx rfl (hb hby d2_57) rfl ((if0 _ _).trans (teq hc9).2) k_) ?_
          refine own_st (T' := T8) (g' := (mkF m 61 #[rv va, iv nn, iv (1 : Int32), iv c1] [(.int (0 : Int32))])) (fun _ k_ => XS.iconst X8.here hx rfl (hb hby d2_60) k_) ?_
          exact own_retN X8 hx (t := .boolean) hret (by simp) hlk (hb hby d2_61) (by decide) (by decide) ⟨(by unfold own_ok1; rw [if_pos hc1, if_pos hc4, if_neg hc6, if_pos hc9]; rfl), N8, eq8⟩
        · refine own_st (T' := T8) (g' := (mkF m 62 #[rv va, iv nn, iv (1 : Int32), iv c1] [])) (fun _ k_ => XS.ifYes X8.here hx rfl (pc0 := 57) (pc' := 62) rfl (hb hby d2_57) rfl ((if0 _ _).trans (feq hc9).2) (by decide) (by decide) k_) ?_
          refine own_st (T' := T8) (g' := (mkF m 63 #[rv va, iv nn, iv (1 : Int32), iv c1] [(.int (1 : Int32))])) (fun _ k_ => XS.iconst X8.here hx rfl (hb hby d2_62) k_) ?_
          exact own_retN X8 hx (t := .boolean) hret (by simp) hlk (hb hby d2_63) (by decide) (by decide) ⟨(by unfold own_ok1; rw [if_pos hc1, if_pos hc4, if_neg hc6, if_neg hc9]; rfl), N8, eq8⟩
    · refine own_st (T' := T3) (g' := (mkF m 18 #[rv va, iv nn, iv (1 : Int32), iv c1] [])) (fun _ k_ => XS.ifNo X3.here hx rfl (hb hby d2_15) rfl ((if0 _ _).trans (feq hc4).1) k_) ?_
      refine own_st (T' := T3) (g' := (mkF m 19 #[rv va, iv nn, iv (1 : Int32), iv c1] [(.int (1 : Int32))])) (fun _ k_ => XS.iloadN X3.here hx rfl (hb hby d2_18) rfl  k_) ?_
      refine own_st (T' := T3) (g' := (mkF m 20 #[rv va, iv nn, iv (1 : Int32), iv c1] [(.int (1 : Int32)), (.int (1 : Int32))])) (fun _ k_ => XS.iconst X3.here hx rfl (hb hby d2_19) k_) ?_
      refine own_st (T' := T3) (g' := (mkF m 21 #[rv va, iv nn, iv (1 : Int32), iv c1] [(.int (2 : Int32))])) (fun _ k_ => XS.iadd X3.here hx rfl (hb hby d2_20) rfl k_) ?_
      refine own_st (T' := T3) (g' := (mkF m 22 #[rv va, iv nn, iv (1 : Int32), iv c1] [(.int nn), (.int (2 : Int32))])) (fun _ k_ => XS.iloadN X3.here hx rfl (hb hby d2_21) rfl  k_) ?_
      by_cases hc10 : (2 : Int32) < nn
      · refine own_st (T' := T3) (g' := (mkF m 25 #[rv va, iv nn, iv (1 : Int32), iv c1] [])) (fun _ k_ => XS.icmpNo X3.here hx rfl (hb hby d2_22) rfl (tlt hc10).2.1 k_) ?_
        refine own_st (T' := T3) (g' := (mkF m 26 #[rv va, iv nn, iv (1 : Int32), iv c1] [(.ref va)])) (fun _ k_ => XS.aloadN X3.here hx rfl (hb hby d2_25) rfl rfl  k_) ?_
        refine own_st (T' := T3) (g' := (mkF m 27 #[rv va, iv nn, iv (1 : Int32), iv c1] [(.int (1 : Int32)), (.ref va)])) (fun _ k_ => XS.iloadN X3.here hx rfl (hb hby d2_26) rfl  k_) ?_
        refine own_st (T' := T3) (g' := (mkF m 28 #[rv va, iv nn, iv (1 : Int32), iv c1] [(.int (1 : Int32)), (.int (1 : Int32)), (.ref va)])) (fun _ k_ => XS.iconst X3.here hx rfl (hb hby d2_27) k_) ?_
        refine own_st (T' := T3) (g' := (mkF m 29 #[rv va, iv nn, iv (1 : Int32), iv c1] [(.int (2 : Int32)), (.ref va)])) (fun _ k_ => XS.iadd X3.here hx rfl (hb hby d2_28) rfl k_) ?_
        obtain ⟨cl11, Ar11, q11, S11, N11, H11, G11⟩ := id VA
        have hin11 : ¬ ((2 : Int32) < 0 ∨ cl11.slots.size ≤ ((2 : Int32)).toNatClampNeg) := inb_of S11 ⟨by decide, by decide⟩
        refine own_st (T' := T3) (g' := (mkF m 30 #[rv va, iv nn, iv (1 : Int32), iv c1] [(.int c2)])) (X3.caload hx (j := (2 : Int32)) (v := (.int c2)) (by rw [eq3]; exact Ar11.1) (State.isArrayOf_alike hZ.alike Ar11.2.1) Ar11.2.2 hin11 (H11.at hin11 rfl) (g := (mkF m 29 #[rv va, iv nn, iv (1 : Int32), iv c1] [(.int (2 : Int32)), (.ref va)])) rfl rfl (hb hby d2_29)) ?_
        clear hin11 G11 H11 N11 S11 q11 Ar11 cl11
        obtain ⟨_, T12, L12, X12, hQ12, st12⟩ := own_callS X3 hx (y := own_m24) hown (mvT hZ (wd hw 54 rfl)) (mvT hZ (wd hw 55 rfl)) (mvT hZ (wd hw 4 rfl)) (mvT hZ (wd hw 56 rfl)) (by decide) (backOf (W := 0) (rm_lil l Z a0 hw [] c2 h0 n0 O0) hZ (wd hw 56 rfl) (wd hw 4 rfl) (by decide) (by decide)) (g := (mkF m 30 #[rv va, iv nn, iv (1 : Int32), iv c1] [(.int c2)])) rfl (by rw [hml]; rfl) (argsL := [(.int c2)]) (rest := []) (lenOf pd__C_Z rfl) rfl (by show 2 * 0 + _ ≤ _; exact Nat.le_of_eq rfl) (hb hby d2_30) rfl eq3 (by decide) (by decide) (c' := 0) (s' := 0) rfl rfl
        obtain ⟨rfl, Nq12, eq12⟩ := hQ12
        have N12 := Fr.app N3 Nq12
        refine own_st (T' := T12) (g' := (mkF m 33 #[rv va, iv nn, iv (1 : Int32), iv c1] [(.int (own_isL c2))])) st12 ?_
        clear st12
        by_cases hc13 : (own_isL c2) = (0 : Int32)
        · refine own_st (T' := T12) (g' := (mkF m 36 #[rv va, iv nn, iv (1 : Int32), iv c1] [])) (fun _ k_ => XS.ifNo X12.here hx rfl (hb hby d2_33) rfl ((if0 _ _).trans (teq hc13).2) k_) ?_
          refine own_st (T' := T12) (g' := (mkF m 37 #[rv va, iv nn, iv (1 : Int32), iv c1] [(.int (0 : Int32))])) (fun _ k_ => XS.iconst X12.here hx rfl (hb hby d2_36) k_) ?_
          exact own_retN X12 hx (t := .boolean) hret (by simp) hlk (hb hby d2_37) (by decide) (by decide) ⟨(by unfold own_ok1; rw [if_pos hc1, if_neg hc4, if_pos hc10, if_pos hc13]; rfl), N12, eq12⟩
        · refine own_st (T' := T12) (g' := (mkF m 38 #[rv va, iv nn, iv (1 : Int32), iv c1] [])) (fun _ k_ => XS.ifYes X12.here hx rfl (pc0 := 33) (pc' := 38) rfl (hb hby d2_33) rfl ((if0 _ _).trans (feq hc13).2) (by decide) (by decide) k_) ?_
          refine own_st (T' := T12) (g' := (mkF m 39 #[rv va, iv nn, iv (1 : Int32), iv c1] [(.int c1)])) (fun _ k_ => XS.iloadN X12.here hx rfl (hb hby d2_38) rfl  k_) ?_
          obtain ⟨_, T14, L14, X14, hQ14, st14⟩ := own_callS X12 hx (y := own_m24) hown (mvT hZ (wd hw 54 rfl)) (mvT hZ (wd hw 55 rfl)) (mvT hZ (wd hw 4 rfl)) (mvT hZ (wd hw 56 rfl)) (by decide) (backOf (W := 0) (rm_lil l Z a0 hw [] c1 h0 n0 O0) hZ (wd hw 56 rfl) (wd hw 4 rfl) (by decide) (by decide)) (g := (mkF m 39 #[rv va, iv nn, iv (1 : Int32), iv c1] [(.int c1)])) rfl (by rw [hml]; rfl) (argsL := [(.int c1)]) (rest := []) (lenOf pd__C_Z rfl) rfl (by show 2 * 0 + _ ≤ _; exact Nat.le_of_eq rfl) (hb hby d2_39) rfl eq12 (by decide) (by decide) (c' := 0) (s' := 0) rfl rfl
          obtain ⟨rfl, Nq14, eq14⟩ := hQ14
          have N14 := Fr.app N12 Nq14
          refine own_st (T' := T14) (g' := (mkF m 42 #[rv va, iv nn, iv (1 : Int32), iv c1] [(.int (own_isL c1))])) st14 ?_
          clear st14
          by_cases hc15 : (own_isL c1) = (0 : Int32)
          · refine own_st (T' := T14) (g' := (mkF m 62 #[rv va, iv nn, iv (1 : Int32), iv c1] [])) (fun _ k_ => XS.ifYes X14.here hx rfl (pc0 := 42) (pc' := 62) rfl (hb hby d2_42) rfl ((if0 _ _).trans (teq hc15).1) (by decide) (by decide) k_) ?_
            refine own_st (T' := T14) (g' := (mkF m 63 #[rv va, iv nn, iv (1 : Int32), iv c1] [(.int (1 : Int32))])) (fun _ k_ => XS.iconst X14.here hx rfl (hb hby d2_62) k_) ?_
            exact own_retN X14 hx (t := .boolean) hret (by simp) hlk (hb hby d2_63) (by decide) (by decide) ⟨(by unfold own_ok1; rw [if_pos hc1, if_neg hc4, if_pos hc10, if_neg hc13, if_pos hc15]; rfl), N14, eq14⟩
          · refine own_st (T' := T14) (g' := (mkF m 45 #[rv va, iv nn, iv (1 : Int32), iv c1] [])) (fun _ k_ => XS.ifNo X14.here hx rfl (hb hby d2_42) rfl ((if0 _ _).trans (feq hc15).1) k_) ?_
            refine own_st (T' := T14) (g' := (mkF m 46 #[rv va, iv nn, iv (1 : Int32), iv c1] [(.int (1 : Int32))])) (fun _ k_ => XS.iloadN X14.here hx rfl (hb hby d2_45) rfl  k_) ?_
            refine own_st (T' := T14) (g' := (mkF m 49 #[rv va, iv nn, iv (1 : Int32), iv c1] [])) (fun _ k_ => XS.ifNo X14.here hx rfl (hb hby d2_46) rfl ((if0 _ _).trans (tlt (by decide : (0 : Int32) < (1 : Int32))).2.2.2) k_) ?_
            refine own_st (T' := T14) (g' := (mkF m 50 #[rv va, iv nn, iv (1 : Int32), iv c1] [(.ref va)])) (fun _ k_ => XS.aloadN X14.here hx rfl (hb hby d2_49) rfl rfl  k_) ?_
            refine own_st (T' := T14) (g' := (mkF m 51 #[rv va, iv nn, iv (1 : Int32), iv c1] [(.int (1 : Int32)), (.ref va)])) (fun _ k_ => XS.iloadN X14.here hx rfl (hb hby d2_50) rfl  k_) ?_
            refine own_st (T' := T14) (g' := (mkF m 52 #[rv va, iv nn, iv (1 : Int32), iv c1] [(.int (1 : Int32)), (.int (1 : Int32)), (.ref va)])) (fun _ k_ => XS.iconst X14.here hx rfl (hb hby d2_51) k_) ?_
            refine own_st (T' := T14) (g' := (mkF m 53 #[rv va, iv nn, iv (1 : Int32), iv c1] [(.int (0 : Int32)), (.ref va)])) (fun _ k_ => XS.isub X14.here hx rfl (hb hby d2_52) rfl k_) ?_
            obtain ⟨cl16, Ar16, q16, S16, N16, H16, G16⟩ := id VA
            have hin16 : ¬ ((0 : Int32) < 0 ∨ cl16.slots.size ≤ ((0 : Int32)).toNatClampNeg) := inb_of S16 ⟨by decide, by decide⟩
            refine own_st (T' := T14) (g' := (mkF m 54 #[rv va, iv nn, iv (1 : Int32), iv c1] [(.int c0)])) (X14.caload hx (j := (0 : Int32)) (v := (.int c0)) (by rw [eq14]; exact Ar16.1) (State.isArrayOf_alike hZ.alike Ar16.2.1) Ar16.2.2 hin16 (H16.at hin16 rfl) (g := (mkF m 53 #[rv va, iv nn, iv (1 : Int32), iv c1] [(.int (0 : Int32)), (.ref va)])) rfl rfl (hb hby d2_53)) ?_
            clear hin16 G16 H16 N16 S16 q16 Ar16 cl16
            obtain ⟨_, T17, L17, X17, hQ17, st17⟩ := own_callS X14 hx (y := own_m23) hown (mvT hZ (wd hw 51 rfl)) (mvT hZ (wd hw 52 rfl)) (mvT hZ (wd hw 4 rfl)) (mvT hZ (wd hw 53 rfl)) (by decide) (backOf (W := 0) (rm_lih l Z a0 hw [] c0 h0 n0 O0) hZ (wd hw 53 rfl) (wd hw 4 rfl) (by decide) (by decide)) (g := (mkF m 54 #[rv va, iv nn, iv (1 : Int32), iv c1] [(.int c0)])) rfl (by rw [hml]; rfl) (argsL := [(.int c0)]) (rest := []) (lenOf pd__C_Z rfl) rfl (by show 2 * 0 + _ ≤ _; exact Nat.le_of_eq rfl) (hb hby d2_54) rfl eq14 (by decide) (by decide) (c' := 0) (s' := 0) rfl rfl
            obtain ⟨rfl, Nq17, eq17⟩ := hQ17
            have N17 := Fr.app N14 Nq17
            refine own_st (T' := T17) (g' := (mkF m 57 #[rv va, iv nn, iv (1 : Int32), iv c1] [(.int (own_isH c0))])) st17 ?_
            clear st17
            by_cases hc18 : (own_isH c0) = (0 : Int32)
            · refine own_st (T' := T17) (g' := (mkF m 60 #[rv va, iv nn, iv (1 : Int32), iv c1] [])) (fun _ k_ => XS.ifNo X17.here hx rfl (hb hby d2_57) rfl ((if0 _ _).trans (teq hc18).2) k_) ?_
              refine own_st (T' := T17) (g' := (mkF m 61 #[rv va, iv nn, iv (1 : Int32), iv c1] [(.int (0 : Int32))])) (fun _ k_ => XS.iconst X17.here hx rfl (hb hby d2_60) k_) ?_
              exact own_retN X17 hx (t := .boolean) hret (by simp) hlk (hb hby d2_61) (by decide) (by decide) ⟨(by unfold own_ok1; rw [if_pos hc1, if_neg hc4, if_pos hc10, if_neg hc13, if_neg hc15, if_pos hc18]; rfl), N17, eq17⟩
            · refine own_st (T' := T17) (g' := (mkF m 62 #[rv va, iv nn, iv (1 : Int32), iv c1] [])) (fun _ k_ => XS.ifYes X17.here hx rfl (pc0 := 57) (pc' := 62) rfl (hb hby d2_57) rfl ((if0 _ _).trans (feq hc18).2) (by decide) (by decide) k_) ?_
              refine own_st (T' := T17) (g' := (mkF m 63 #[rv va, iv nn, iv (1 : Int32), iv c1] [(.int (1 : Int32))])) (fun _ k_ => XS.iconst X17.here hx rfl (hb hby d2_62) k_) ?_
              exact own_retN X17 hx (t := .boolean) hret (by simp) hlk (hb hby d2_63) (by decide) (by decide) ⟨(by unfold own_ok1; rw [if_pos hc1, if_neg hc4, if_pos hc10, if_neg hc13, if_neg hc15, if_neg hc18]; rfl), N17, eq17⟩
      · refine own_st (T' := T3) (g' := (mkF m 36 #[rv va, iv nn, iv (1 : Int32), iv c1] [])) (fun _ k_ => XS.icmpYes X3.here hx rfl (pc0 := 22) (pc' := 36) rfl (hb hby d2_22) rfl (flt hc10).2.1 (by decide) (by decide) k_) ?_
        refine own_st (T' := T3) (g' := (mkF m 37 #[rv va, iv nn, iv (1 : Int32), iv c1] [(.int (0 : Int32))])) (fun _ k_ => XS.iconst X3.here hx rfl (hb hby d2_36) k_) ?_
        exact own_retN X3 hx (t := .boolean) hret (by simp) hlk (hb hby d2_37) (by decide) (by decide) ⟨(by unfold own_ok1; rw [if_pos hc1, if_neg hc4, if_neg hc10]; rfl), N3, eq3⟩
  · refine own_st (T' := s₁) (g' := (mkF m 5 #[rv va, iv nn, iv (1 : Int32), .unset] [])) (fun _ k_ => XS.icmpNo X0.here hx rfl (hb hby d2_2) rfl (flt hc1).1 k_) ?_
    refine own_st (T' := s₁) (g' := (mkF m 6 #[rv va, iv nn, iv (1 : Int32), .unset] [(.int (1 : Int32))])) (fun _ k_ => XS.iconst X0.here hx rfl (hb hby d2_5) k_) ?_
    exact own_retN X0 hx (t := .boolean) hret (by simp) hlk (hb hby d2_6) (by decide) (by decide) ⟨(by unfold own_ok1; rw [if_neg hc1]; rfl), N0, e0⟩
def own_ok2 (nn c0 c1 c2 c3 : Int32) : Int32 := if (2 : Int32) < nn then (if own_isH c2 = 0 then (if own_isL c2 = 0 then (1 : Int32) else (if own_isH c1 = 0 then (0 : Int32) else 1)) else (if (3 : Int32) < nn then (if own_isL c3 = 0 then (0 : Int32) else (if own_isL c2 = 0 then (1 : Int32) else (if own_isH c1 = 0 then (0 : Int32) else 1))) else 0)) else 1
theorem ef_okat2 (m : MethodId) (x0 : Addr) (x1 : Int32) (x2 : Int32) : entryFrame m #[(.ref x0), (.int x1), (.int x2)] 4 = mkF m 0 #[rv x0, iv x1, iv x2, .unset] [] := by first | (simp [entryFrame, mkF, argsToLocals, Value.category]; done) | rfl
def Q_okat2 (Z : State) (va : Addr) (kv : ClassId) (nn : Int32) (c0 : Int32) (c1 : Int32) (c2 : Int32) (c3 : Int32) (h0 : Heap) (n0 : Nat) (v : Option Value) (h : Heap) (L : List Loc) : Prop := (v = some (.int (own_ok2 nn c0 c1 c2 c3))) ∧ (Fr n0 L) ∧ (h = h0)
set_option maxRecDepth 65536 in
set_option maxHeartbeats 40000000 in
theorem rm_okat2 (l : Launch) (Z : State) (a0 : Array Value) (hw : ∀ d ∈ tables_1, d.before a0 Z = true) (ws : List Jvm.Cond) (va : Addr) (kv : ClassId) (nn : Int32) (c0 : Int32) (c1 : Int32) (c2 : Int32) (c3 : Int32) (h0 : Heap) (n0 : Nat) (O0 : Old Z n0 h0) (VA : Arv Z h0 va kv .char (4 : Int32) [(.int c0), (.int c1), (.int c2), (.int c3)] (.int (0 : Int32))) (hn4 : ¬ (4 : Int32) < nn) :
    own_MF l own_m26 (Jvm.Cond.code own_m26 method_5_code 4 (some .boolean) :: ws) ({ frames := 1, cells := 0, slots := 0, locals := 12 } : Room) #[(.ref va), (.int nn), (.int (2 : Int32))] Z h0 (Q_okat2 Z va kv nn c0 c1 c2 c3 h0 n0) := by
  refine own_met (own := "com/example/countersign/countersign/scheme/Utf8HasFormPinLaw") (nme := "okAt") rfl rfl (plainFor_of_name pn_5) ?_
  intro p e s m below meth c s₁ hx hby hml hown hnm X0 e0 hret hlk hZ
  have N0 := Fr.nil n0
  rw [ef_okat2 m va nn (2 : Int32)]
  refine own_st (T' := s₁) (g' := (mkF m 1 #[rv va, iv nn, iv (2 : Int32), .unset] [(.int (2 : Int32))])) (fun _ k_ => XS.iloadN X0.here hx rfl (hb hby d2_0) rfl  k_) ?_
  refine own_st (T' := s₁) (g' := (mkF m 2 #[rv va, iv nn, iv (2 : Int32), .unset] [(.int nn), (.int (2 : Int32))])) (fun _ k_ => XS.iloadN X0.here hx rfl (hb hby d2_1) rfl  k_) ?_
  by_cases hc1 : (2 : Int32) < nn
  · refine own_st (T' := s₁) (g' := (mkF m 7 #[rv va, iv nn, iv (2 : Int32), .unset] [])) (fun _ k_ => XS.icmpYes X0.here hx rfl (pc0 := 2) (pc' := 7) rfl (hb hby d2_2) rfl (tlt hc1).1 (by decide) (by decide) k_) ?_
    refine own_st (T' := s₁) (g' := (mkF m 8 #[rv va, iv nn, iv (2 : Int32), .unset] [(.ref va)])) (fun _ k_ => XS.aloadN X0.here hx rfl (hb hby d2_7) rfl rfl  k_) ?_
    refine own_st (T' := s₁) (g' := (mkF m 9 #[rv va, iv nn, iv (2 : Int32), .unset] [(.int (2 : Int32)), (.ref va)])) (fun _ k_ => XS.iloadN X0.here hx rfl (hb hby d2_8) rfl  k_) ?_
    obtain ⟨cl2, Ar2, q2, S2, N2, H2, G2⟩ := id VA
    have hin2 : ¬ ((2 : Int32) < 0 ∨ cl2.slots.size ≤ ((2 : Int32)).toNatClampNeg) := inb_of S2 ⟨by decide, by decide⟩
    refine own_st (T' := s₁) (g' := (mkF m 10 #[rv va, iv nn, iv (2 : Int32), .unset] [(.int c2)])) (X0.caload hx (j := (2 : Int32)) (v := (.int c2)) (by rw [e0]; exact Ar2.1) (State.isArrayOf_alike hZ.alike Ar2.2.1) Ar2.2.2 hin2 (H2.at hin2 rfl) (g := (mkF m 9 #[rv va, iv nn, iv (2 : Int32), .unset] [(.int (2 : Int32)), (.ref va)])) rfl rfl (hb hby d2_9)) ?_
    clear hin2 G2 H2 N2 S2 q2 Ar2 cl2
    refine own_st (T' := s₁) (g' := (mkF m 11 #[rv va, iv nn, iv (2 : Int32), iv c2] [])) (fun _ k_ => XS.istoreN X0.here hx rfl (hb hby d2_10) rfl (l' := #[rv va, iv nn, iv (2 : Int32), iv c2]) rfl k_) ?_
    refine own_st (T' := s₁) (g' := (mkF m 12 #[rv va, iv nn, iv (2 : Int32), iv c2] [(.int c2)])) (fun _ k_ => XS.iloadN X0.here hx rfl (hb hby d2_11) rfl  k_) ?_
    obtain ⟨_, T3, L3, X3, hQ3, st3⟩ := own_callS X0 hx (y := own_m23) hown (mvT hZ (wd hw 51 rfl)) (mvT hZ (wd hw 52 rfl)) (mvT hZ (wd hw 4 rfl)) (mvT hZ (wd hw 53 rfl)) (by decide) (backOf (W := 0) (rm_lih l Z a0 hw [] c2 h0 n0 O0) hZ (wd hw 53 rfl) (wd hw 4 rfl) (by decide) (by decide)) (g := (mkF m 12 #[rv va, iv nn, iv (2 : Int32), iv c2] [(.int c2)])) rfl (by rw [hml]; rfl) (argsL := [(.int c2)]) (rest := []) (lenOf pd__C_Z rfl) rfl (by show 2 * 0 + _ ≤ _; exact Nat.le_of_eq rfl) (hb hby d2_12) rfl e0 (by decide) (by decide) (c' := 0) (s' := 0) rfl rfl
    obtain ⟨rfl, Nq3, eq3⟩ := hQ3
    have N3 := Fr.app N0 Nq3
    refine own_st (T' := T3) (g' := (mkF m 15 #[rv va, iv nn, iv (2 : Int32), iv c2] [(.int (own_isH c2))])) st3 ?_
    clear st3
    by_cases hc4 : (own_isH c2) = (0 : Int32)
    · refine own_st (T' := T3) (g' := (mkF m 38 #[rv va, iv nn, iv (2 : Int32), iv c2] [])) (fun _ k_ => XS.ifYes X3.here hx rfl (pc0 := 15) (pc' := 38) rfl (hb hby d2_15) rfl ((if0 _ _).trans (teq hc4).1) (by decide) (by decide) k_) ?_
      refine own_st (T' := T3) (g' := (mkF m 39 #[rv va, iv nn, iv (2 : Int32), iv c2] [(.int c2)])) (fun _ k_ => XS.iloadN X3.here hx rfl (hb hby d2_38) rfl  k_) ?_
      obtain ⟨_, T5, L5, X5, hQ5, st5⟩ := own_callS X3 hx (y := own_m24) hown (mvT hZ (wd hw 54 rfl)) (mvT hZ (wd hw 55 rfl)) (mvT hZ (wd hw 4 rfl)) (mvT hZ (wd hw 56 rfl)) (by decide) (backOf (W := 0) (rm_lil l Z a0 hw [] c2 h0 n0 O0) hZ (wd hw 56 rfl) (wd hw 4 rfl) (by decide) (by decide)) (g := (mkF m 39 #[rv va, iv nn, iv (2 : Int32), iv c2] [(.int c2)])) rfl (by rw [hml]; rfl) (argsL := [(.int c2)]) (rest := []) (lenOf pd__C_Z rfl) rfl (by show 2 * 0 + _ ≤ _; exact Nat.le_of_eq rfl) (hb hby d2_39) rfl eq3 (by decide) (by decide) (c' := 0) (s' := 0) rfl rfl
      obtain ⟨rfl, Nq5, eq5⟩ := hQ5
      have N5 := Fr.app N3 Nq5
      refine own_st (T' := T5) (g' := (mkF m 42 #[rv va, iv nn, iv (2 : Int32), iv c2] [(.int (own_isL c2))])) st5 ?_
      clear st5
      by_cases hc6 : (own_isL c2) = (0 : Int32)
      · refine own_st (T' := T5) (g' := (mkF m 62 #[rv va, iv nn, iv (2 : Int32), iv c2] [])) (fun _ k_ => XS.ifYes X5.here hx rfl (pc0 := 42) (pc' := 62) rfl (hb hby d2_42) rfl ((if0 _ _).trans (teq hc6).1) (by decide) (by decide) k_) ?_
        refine own_st (T' := T5) (g' := (mkF m 63 #[rv va, iv nn, iv (2 : Int32), iv c2] [(.int (1 : Int32))])) (fun _ k_ => XS.iconst X5.here hx rfl (hb hby d2_62) k_) ?_
        exact own_retN X5 hx (t := .boolean) hret (by simp) hlk (hb hby d2_63) (by decide) (by decide) ⟨(by unfold own_ok2; rw [if_pos hc1, if_pos hc4, if_pos hc6]; rfl), N5, eq5⟩
      · refine own_st (T' := T5) (g' := (mkF m 45 #[rv va, iv nn, iv (2 : Int32), iv c2] [])) (fun _ k_ => XS.ifNo X5.here hx rfl (hb hby d2_42) rfl ((if0 _ _).trans (feq hc6).1) k_) ?_
        refine own_st (T' := T5) (g' := (mkF m 46 #[rv va, iv nn, iv (2 : Int32), iv c2] [(.int (2 : Int32))])) (fun _ k_ => XS.iloadN X5.here hx rfl (hb hby d2_45) rfl  k_) ?_
        refine own_st (T' := T5) (g' := (mkF m 49 #[rv va, iv nn, iv (2 : Int32), iv c2] [])) (fun _ k_ => XS.ifNo X5.here hx rfl (hb hby d2_46) rfl ((if0 _ _).trans (tlt (by decide : (0 : Int32) < (2 : Int32))).2.2.2) k_) ?_
        refine own_st (T' := T5) (g' := (mkF m 50 #[rv va, iv nn, iv (2 : Int32), iv c2] [(.ref va)])) (fun _ k_ => XS.aloadN X5.here hx rfl (hb hby d2_49) rfl rfl  k_) ?_
        refine own_st (T' := T5) (g' := (mkF m 51 #[rv va, iv nn, iv (2 : Int32), iv c2] [(.int (2 : Int32)), (.ref va)])) (fun _ k_ => XS.iloadN X5.here hx rfl (hb hby d2_50) rfl  k_) ?_
        refine own_st (T' := T5) (g' := (mkF m 52 #[rv va, iv nn, iv (2 : Int32), iv c2] [(.int (1 : Int32)), (.int (2 : Int32)), (.ref va)])) (fun _ k_ => XS.iconst X5.here hx rfl (hb hby d2_51) k_) ?_
        refine own_st (T' := T5) (g' := (mkF m 53 #[rv va, iv nn, iv (2 : Int32), iv c2] [(.int (1 : Int32)), (.ref va)])) (fun _ k_ => XS.isub X5.here hx rfl (hb hby d2_52) rfl k_) ?_
        obtain ⟨cl7, Ar7, q7, S7, N7, H7, G7⟩ := id VA
        have hin7 : ¬ ((1 : Int32) < 0 ∨ cl7.slots.size ≤ ((1 : Int32)).toNatClampNeg) := inb_of S7 ⟨by decide, by decide⟩
        refine own_st (T' := T5) (g' := (mkF m 54 #[rv va, iv nn, iv (2 : Int32), iv c2] [(.int c1)])) (X5.caload hx (j := (1 : Int32)) (v := (.int c1)) (by rw [eq5]; exact Ar7.1) (State.isArrayOf_alike hZ.alike Ar7.2.1) Ar7.2.2 hin7 (H7.at hin7 rfl) (g := (mkF m 53 #[rv va, iv nn, iv (2 : Int32), iv c2] [(.int (1 : Int32)), (.ref va)])) rfl rfl (hb hby d2_53)) ?_
        clear hin7 G7 H7 N7 S7 q7 Ar7 cl7
        obtain ⟨_, T8, L8, X8, hQ8, st8⟩ := own_callS X5 hx (y := own_m23) hown (mvT hZ (wd hw 51 rfl)) (mvT hZ (wd hw 52 rfl)) (mvT hZ (wd hw 4 rfl)) (mvT hZ (wd hw 53 rfl)) (by decide) (backOf (W := 0) (rm_lih l Z a0 hw [] c1 h0 n0 O0) hZ (wd hw 53 rfl) (wd hw 4 rfl) (by decide) (by decide)) (g := (mkF m 54 #[rv va, iv nn, iv (2 : Int32), iv c2] [(.int c1)])) rfl (by rw [hml]; rfl) (argsL := [(.int c1)]) (rest := []) (lenOf pd__C_Z rfl) rfl (by show 2 * 0 + _ ≤ _; exact Nat.le_of_eq rfl) (hb hby d2_54) rfl eq5 (by decide) (by decide) (c' := 0) (s' := 0) rfl rfl
        obtain ⟨rfl, Nq8, eq8⟩ := hQ8
        have N8 := Fr.app N5 Nq8
        refine own_st (T' := T8) (g' := (mkF m 57 #[rv va, iv nn, iv (2 : Int32), iv c2] [(.int (own_isH c1))])) st8 ?_
        clear st8
        by_cases hc9 : (own_isH c1) = (0 : Int32)
        · refine own_st (T' := T8) (g' := (mkF m 60 #[rv va, iv nn, iv (2 : Int32), iv c2] [])) (fun _ k_ => XS.ifNo X8.here hx rfl (hb hby d2_57) rfl ((if0 _ _).trans (teq hc9).2) k_) ?_
          refine own_st (T' := T8) (g' := (mkF m 61 #[rv va, iv nn, iv (2 : Int32), iv c2] [(.int (0 : Int32))])) (fun _ k_ => XS.iconst X8.here hx rfl (hb hby d2_60) k_) ?_
          exact own_retN X8 hx (t := .boolean) hret (by simp) hlk (hb hby d2_61) (by decide) (by decide) ⟨(by unfold own_ok2; rw [if_pos hc1, if_pos hc4, if_neg hc6, if_pos hc9]; rfl), N8, eq8⟩
        · refine own_st (T' := T8) (g' := (mkF m 62 #[rv va, iv nn, iv (2 : Int32), iv c2] [])) (fun _ k_ => XS.ifYes X8.here hx rfl (pc0 := 57) (pc' := 62) rfl (hb hby d2_57) rfl ((if0 _ _).trans (feq hc9).2) (by decide) (by decide) k_) ?_
          refine own_st (T' := T8) (g' := (mkF m 63 #[rv va, iv nn, iv (2 : Int32), iv c2] [(.int (1 : Int32))])) (fun _ k_ => XS.iconst X8.here hx rfl (hb hby d2_62) k_) ?_
          exact own_retN X8 hx (t := .boolean) hret (by simp) hlk (hb hby d2_63) (by decide) (by decide) ⟨(by unfold own_ok2; rw [if_pos hc1, if_pos hc4, if_neg hc6, if_neg hc9]; rfl), N8, eq8⟩
    · refine own_st (T' := T3) (g' := (mkF m 18 #[rv va, iv nn, iv (2 : Int32), iv c2] [])) (fun _ k_ => XS.ifNo X3.here hx rfl (hb hby d2_15) rfl ((if0 _ _).trans (feq hc4).1) k_) ?_
      refine own_st (T' := T3) (g' := (mkF m 19 #[rv va, iv nn, iv (2 : Int32), iv c2] [(.int (2 : Int32))])) (fun _ k_ => XS.iloadN X3.here hx rfl (hb hby d2_18) rfl  k_) ?_
      refine own_st (T' := T3) (g' := (mkF m 20 #[rv va, iv nn, iv (2 : Int32), iv c2] [(.int (1 : Int32)), (.int (2 : Int32))])) (fun _ k_ => XS.iconst X3.here hx rfl (hb hby d2_19) k_) ?_
      refine own_st (T' := T3) (g' := (mkF m 21 #[rv va, iv nn, iv (2 : Int32), iv c2] [(.int (3 : Int32))])) (fun _ k_ => XS.iadd X3.here hx rfl (hb hby d2_20) rfl k_) ?_
      refine own_st (T' := T3) (g' := (mkF m 22 #[rv va, iv nn, iv (2 : Int32), iv c2] [(.int nn), (.int (3 : Int32))])) (fun _ k_ => XS.iloadN X3.here hx rfl (hb hby d2_21) rfl  k_) ?_
      by_cases hc10 : (3 : Int32) < nn
      · refine own_st (T' := T3) (g' := (mkF m 25 #[rv va, iv nn, iv (2 : Int32), iv c2] [])) (fun _ k_ => XS.icmpNo X3.here hx rfl (hb hby d2_22) rfl (tlt hc10).2.1 k_) ?_
        refine own_st (T' := T3) (g' := (mkF m 26 #[rv va, iv nn, iv (2 : Int32), iv c2] [(.ref va)])) (fun _ k_ => XS.aloadN X3.here hx rfl (hb hby d2_25) rfl rfl  k_) ?_
        refine own_st (T' := T3) (g' := (mkF m 27 #[rv va, iv nn, iv (2 : Int32), iv c2] [(.int (2 : Int32)), (.ref va)])) (fun _ k_ => XS.iloadN X3.here hx rfl (hb hby d2_26) rfl  k_) ?_
        refine own_st (T' := T3) (g' := (mkF m 28 #[rv va, iv nn, iv (2 : Int32), iv c2] [(.int (1 : Int32)), (.int (2 : Int32)), (.ref va)])) (fun _ k_ => XS.iconst X3.here hx rfl (hb hby d2_27) k_) ?_
        refine own_st (T' := T3) (g' := (mkF m 29 #[rv va, iv nn, iv (2 : Int32), iv c2] [(.int (3 : Int32)), (.ref va)])) (fun _ k_ => XS.iadd X3.here hx rfl (hb hby d2_28) rfl k_) ?_
        obtain ⟨cl11, Ar11, q11, S11, N11, H11, G11⟩ := id VA
        have hin11 : ¬ ((3 : Int32) < 0 ∨ cl11.slots.size ≤ ((3 : Int32)).toNatClampNeg) := inb_of S11 ⟨by decide, by decide⟩
        refine own_st (T' := T3) (g' := (mkF m 30 #[rv va, iv nn, iv (2 : Int32), iv c2] [(.int c3)])) (X3.caload hx (j := (3 : Int32)) (v := (.int c3)) (by rw [eq3]; exact Ar11.1) (State.isArrayOf_alike hZ.alike Ar11.2.1) Ar11.2.2 hin11 (H11.at hin11 rfl) (g := (mkF m 29 #[rv va, iv nn, iv (2 : Int32), iv c2] [(.int (3 : Int32)), (.ref va)])) rfl rfl (hb hby d2_29)) ?_
        clear hin11 G11 H11 N11 S11 q11 Ar11 cl11
        obtain ⟨_, T12, L12, X12, hQ12, st12⟩ := own_callS X3 hx (y := own_m24) hown (mvT hZ (wd hw 54 rfl)) (mvT hZ (wd hw 55 rfl)) (mvT hZ (wd hw 4 rfl)) (mvT hZ (wd hw 56 rfl)) (by decide) (backOf (W := 0) (rm_lil l Z a0 hw [] c3 h0 n0 O0) hZ (wd hw 56 rfl) (wd hw 4 rfl) (by decide) (by decide)) (g := (mkF m 30 #[rv va, iv nn, iv (2 : Int32), iv c2] [(.int c3)])) rfl (by rw [hml]; rfl) (argsL := [(.int c3)]) (rest := []) (lenOf pd__C_Z rfl) rfl (by show 2 * 0 + _ ≤ _; exact Nat.le_of_eq rfl) (hb hby d2_30) rfl eq3 (by decide) (by decide) (c' := 0) (s' := 0) rfl rfl
        obtain ⟨rfl, Nq12, eq12⟩ := hQ12
        have N12 := Fr.app N3 Nq12
        refine own_st (T' := T12) (g' := (mkF m 33 #[rv va, iv nn, iv (2 : Int32), iv c2] [(.int (own_isL c3))])) st12 ?_
        clear st12
        by_cases hc13 : (own_isL c3) = (0 : Int32)
        · refine own_st (T' := T12) (g' := (mkF m 36 #[rv va, iv nn, iv (2 : Int32), iv c2] [])) (fun _ k_ => XS.ifNo X12.here hx rfl (hb hby d2_33) rfl ((if0 _ _).trans (teq hc13).2) k_) ?_
          refine own_st (T' := T12) (g' := (mkF m 37 #[rv va, iv nn, iv (2 : Int32), iv c2] [(.int (0 : Int32))])) (fun _ k_ => XS.iconst X12.here hx rfl (hb hby d2_36) k_) ?_
          exact own_retN X12 hx (t := .boolean) hret (by simp) hlk (hb hby d2_37) (by decide) (by decide) ⟨(by unfold own_ok2; rw [if_pos hc1, if_neg hc4, if_pos hc10, if_pos hc13]; rfl), N12, eq12⟩
        · refine own_st (T' := T12) (g' := (mkF m 38 #[rv va, iv nn, iv (2 : Int32), iv c2] [])) (fun _ k_ => XS.ifYes X12.here hx rfl (pc0 := 33) (pc' := 38) rfl (hb hby d2_33) rfl ((if0 _ _).trans (feq hc13).2) (by decide) (by decide) k_) ?_
          refine own_st (T' := T12) (g' := (mkF m 39 #[rv va, iv nn, iv (2 : Int32), iv c2] [(.int c2)])) (fun _ k_ => XS.iloadN X12.here hx rfl (hb hby d2_38) rfl  k_) ?_
          obtain ⟨_, T14, L14, X14, hQ14, st14⟩ := own_callS X12 hx (y := own_m24) hown (mvT hZ (wd hw 54 rfl)) (mvT hZ (wd hw 55 rfl)) (mvT hZ (wd hw 4 rfl)) (mvT hZ (wd hw 56 rfl)) (by decide) (backOf (W := 0) (rm_lil l Z a0 hw [] c2 h0 n0 O0) hZ (wd hw 56 rfl) (wd hw 4 rfl) (by decide) (by decide)) (g := (mkF m 39 #[rv va, iv nn, iv (2 : Int32), iv c2] [(.int c2)])) rfl (by rw [hml]; rfl) (argsL := [(.int c2)]) (rest := []) (lenOf pd__C_Z rfl) rfl (by show 2 * 0 + _ ≤ _; exact Nat.le_of_eq rfl) (hb hby d2_39) rfl eq12 (by decide) (by decide) (c' := 0) (s' := 0) rfl rfl
          obtain ⟨rfl, Nq14, eq14⟩ := hQ14
          have N14 := Fr.app N12 Nq14
          refine own_st (T' := T14) (g' := (mkF m 42 #[rv va, iv nn, iv (2 : Int32), iv c2] [(.int (own_isL c2))])) st14 ?_
          clear st14
          by_cases hc15 : (own_isL c2) = (0 : Int32)
          · refine own_st (T' := T14) (g' := (mkF m 62 #[rv va, iv nn, iv (2 : Int32), iv c2] [])) (fun _ k_ => XS.ifYes X14.here hx rfl (pc0 := 42) (pc' := 62) rfl (hb hby d2_42) rfl ((if0 _ _).trans (teq hc15).1) (by decide) (by decide) k_) ?_
            refine own_st (T' := T14) (g' := (mkF m 63 #[rv va, iv nn, iv (2 : Int32), iv c2] [(.int (1 : Int32))])) (fun _ k_ => XS.iconst X14.here hx rfl (hb hby d2_62) k_) ?_
            exact own_retN X14 hx (t := .boolean) hret (by simp) hlk (hb hby d2_63) (by decide) (by decide) ⟨(by unfold own_ok2; rw [if_pos hc1, if_neg hc4, if_pos hc10, if_neg hc13, if_pos hc15]; rfl), N14, eq14⟩
          · refine own_st (T' := T14) (g' := (mkF m 45 #[rv va, iv nn, iv (2 : Int32), iv c2] [])) (fun _ k_ => XS.ifNo X14.here hx rfl (hb hby d2_42) rfl ((if0 _ _).trans (feq hc15).1) k_) ?_
            refine own_st (T' := T14) (g' := (mkF m 46 #[rv va, iv nn, iv (2 : Int32), iv c2] [(.int (2 : Int32))])) (fun _ k_ => XS.iloadN X14.here hx rfl (hb hby d2_45) rfl  k_) ?_
            refine own_st (T' := T14) (g' := (mkF m 49 #[rv va, iv nn, iv (2 : Int32), iv c2] [])) (fun _ k_ => XS.ifNo X14.here hx rfl (hb hby d2_46) rfl ((if0 _ _).trans (tlt (by decide : (0 : Int32) < (2 : Int32))).2.2.2) k_) ?_
            refine own_st (T' := T14) (g' := (mkF m 50 #[rv va, iv nn, iv (2 : Int32), iv c2] [(.ref va)])) (fun _ k_ => XS.aloadN X14.here hx rfl (hb hby d2_49) rfl rfl  k_) ?_
            refine own_st (T' := T14) (g' := (mkF m 51 #[rv va, iv nn, iv (2 : Int32), iv c2] [(.int (2 : Int32)), (.ref va)])) (fun _ k_ => XS.iloadN X14.here hx rfl (hb hby d2_50) rfl  k_) ?_
            refine own_st (T' := T14) (g' := (mkF m 52 #[rv va, iv nn, iv (2 : Int32), iv c2] [(.int (1 : Int32)), (.int (2 : Int32)), (.ref va)])) (fun _ k_ => XS.iconst X14.here hx rfl (hb hby d2_51) k_) ?_
            refine own_st (T' := T14) (g' := (mkF m 53 #[rv va, iv nn, iv (2 : Int32), iv c2] [(.int (1 : Int32)), (.ref va)])) (fun _ k_ => XS.isub X14.here hx rfl (hb hby d2_52) rfl k_) ?_
            obtain ⟨cl16, Ar16, q16, S16, N16, H16, G16⟩ := id VA
            have hin16 : ¬ ((1 : Int32) < 0 ∨ cl16.slots.size ≤ ((1 : Int32)).toNatClampNeg) := inb_of S16 ⟨by decide, by decide⟩
            refine own_st (T' := T14) (g' := (mkF m 54 #[rv va, iv nn, iv (2 : Int32), iv c2] [(.int c1)])) (X14.caload hx (j := (1 : Int32)) (v := (.int c1)) (by rw [eq14]; exact Ar16.1) (State.isArrayOf_alike hZ.alike Ar16.2.1) Ar16.2.2 hin16 (H16.at hin16 rfl) (g := (mkF m 53 #[rv va, iv nn, iv (2 : Int32), iv c2] [(.int (1 : Int32)), (.ref va)])) rfl rfl (hb hby d2_53)) ?_
            clear hin16 G16 H16 N16 S16 q16 Ar16 cl16
            obtain ⟨_, T17, L17, X17, hQ17, st17⟩ := own_callS X14 hx (y := own_m23) hown (mvT hZ (wd hw 51 rfl)) (mvT hZ (wd hw 52 rfl)) (mvT hZ (wd hw 4 rfl)) (mvT hZ (wd hw 53 rfl)) (by decide) (backOf (W := 0) (rm_lih l Z a0 hw [] c1 h0 n0 O0) hZ (wd hw 53 rfl) (wd hw 4 rfl) (by decide) (by decide)) (g := (mkF m 54 #[rv va, iv nn, iv (2 : Int32), iv c2] [(.int c1)])) rfl (by rw [hml]; rfl) (argsL := [(.int c1)]) (rest := []) (lenOf pd__C_Z rfl) rfl (by show 2 * 0 + _ ≤ _; exact Nat.le_of_eq rfl) (hb hby d2_54) rfl eq14 (by decide) (by decide) (c' := 0) (s' := 0) rfl rfl
            obtain ⟨rfl, Nq17, eq17⟩ := hQ17
            have N17 := Fr.app N14 Nq17
            refine own_st (T' := T17) (g' := (mkF m 57 #[rv va, iv nn, iv (2 : Int32), iv c2] [(.int (own_isH c1))])) st17 ?_
            clear st17
            by_cases hc18 : (own_isH c1) = (0 : Int32)
            · refine own_st (T' := T17) (g' := (mkF m 60 #[rv va, iv nn, iv (2 : Int32), iv c2] [])) (fun _ k_ => XS.ifNo X17.here hx rfl (hb hby d2_57) rfl ((if0 _ _).trans (teq hc18).2) k_) ?_
              refine own_st (T' := T17) (g' := (mkF m 61 #[rv va, iv nn, iv (2 : Int32), iv c2] [(.int (0 : Int32))])) (fun _ k_ => XS.iconst X17.here hx rfl (hb hby d2_60) k_) ?_
              exact own_retN X17 hx (t := .boolean) hret (by simp) hlk (hb hby d2_61) (by decide) (by decide) ⟨(by unfold own_ok2; rw [if_pos hc1, if_neg hc4, if_pos hc10, if_neg hc13, if_neg hc15, if_pos hc18]; rfl), N17, eq17⟩
            · refine own_st (T' := T17) (g' := (mkF m 62 #[rv va, iv nn, iv (2 : Int32), iv c2] [])) (fun _ k_ => XS.ifYes X17.here hx rfl (pc0 := 57) (pc' := 62) rfl (hb hby d2_57) rfl ((if0 _ _).trans (feq hc18).2) (by decide) (by decide) k_) ?_
              refine own_st (T' := T17) (g' := (mkF m 63 #[rv va, iv nn, iv (2 : Int32), iv c2] [(.int (1 : Int32))])) (fun _ k_ => XS.iconst X17.here hx rfl (hb hby d2_62) k_) ?_
              exact own_retN X17 hx (t := .boolean) hret (by simp) hlk (hb hby d2_63) (by decide) (by decide) ⟨(by unfold own_ok2; rw [if_pos hc1, if_neg hc4, if_pos hc10, if_neg hc13, if_neg hc15, if_neg hc18]; rfl), N17, eq17⟩
      · refine own_st (T' := T3) (g' := (mkF m 36 #[rv va, iv nn, iv (2 : Int32), iv c2] [])) (fun _ k_ => XS.icmpYes X3.here hx rfl (pc0 := 22) (pc' := 36) rfl (hb hby d2_22) rfl (flt hc10).2.1 (by decide) (by decide) k_) ?_
        refine own_st (T' := T3) (g' := (mkF m 37 #[rv va, iv nn, iv (2 : Int32), iv c2] [(.int (0 : Int32))])) (fun _ k_ => XS.iconst X3.here hx rfl (hb hby d2_36) k_) ?_
        exact own_retN X3 hx (t := .boolean) hret (by simp) hlk (hb hby d2_37) (by decide) (by decide) ⟨(by unfold own_ok2; rw [if_pos hc1, if_neg hc4, if_neg hc10]; rfl), N3, eq3⟩
  · refine own_st (T' := s₁) (g' := (mkF m 5 #[rv va, iv nn, iv (2 : Int32), .unset] [])) (fun _ k_ => XS.icmpNo X0.here hx rfl (hb hby d2_2) rfl (flt hc1).1 k_) ?_
    refine own_st (T' := s₁) (g' := (mkF m 6 #[rv va, iv nn, iv (2 : Int32), .unset] [(.int (1 : Int32))])) (fun _ k_ => XS.iconst X0.here hx rfl (hb hby d2_5) k_) ?_
    exact own_retN X0 hx (t := .boolean) hret (by simp) hlk (hb hby d2_6) (by decide) (by decide) ⟨(by unfold own_ok2; rw [if_neg hc1]; rfl), N0, e0⟩
def own_ok3 (nn c0 c1 c2 c3 : Int32) : Int32 := if (3 : Int32) < nn then (if own_isH c3 = 0 then (if own_isL c3 = 0 then (1 : Int32) else (if own_isH c2 = 0 then (0 : Int32) else 1)) else 0) else 1
theorem ef_okat3 (m : MethodId) (x0 : Addr) (x1 : Int32) (x2 : Int32) : entryFrame m #[(.ref x0), (.int x1), (.int x2)] 4 = mkF m 0 #[rv x0, iv x1, iv x2, .unset] [] := by first | (simp [entryFrame, mkF, argsToLocals, Value.category]; done) | rfl
def Q_okat3 (Z : State) (va : Addr) (kv : ClassId) (nn : Int32) (c0 : Int32) (c1 : Int32) (c2 : Int32) (c3 : Int32) (h0 : Heap) (n0 : Nat) (v : Option Value) (h : Heap) (L : List Loc) : Prop := (v = some (.int (own_ok3 nn c0 c1 c2 c3))) ∧ (Fr n0 L) ∧ (h = h0)
set_option maxRecDepth 65536 in
set_option maxHeartbeats 40000000 in
theorem rm_okat3 (l : Launch) (Z : State) (a0 : Array Value) (hw : ∀ d ∈ tables_1, d.before a0 Z = true) (ws : List Jvm.Cond) (va : Addr) (kv : ClassId) (nn : Int32) (c0 : Int32) (c1 : Int32) (c2 : Int32) (c3 : Int32) (h0 : Heap) (n0 : Nat) (O0 : Old Z n0 h0) (VA : Arv Z h0 va kv .char (4 : Int32) [(.int c0), (.int c1), (.int c2), (.int c3)] (.int (0 : Int32))) (hn4 : ¬ (4 : Int32) < nn) :
    own_MF l own_m26 (Jvm.Cond.code own_m26 method_5_code 4 (some .boolean) :: ws) ({ frames := 1, cells := 0, slots := 0, locals := 12 } : Room) #[(.ref va), (.int nn), (.int (3 : Int32))] Z h0 (Q_okat3 Z va kv nn c0 c1 c2 c3 h0 n0) := by
  refine own_met (own := "com/example/countersign/countersign/scheme/Utf8HasFormPinLaw") (nme := "okAt") rfl rfl (plainFor_of_name pn_5) ?_
  intro p e s m below meth c s₁ hx hby hml hown hnm X0 e0 hret hlk hZ
  have N0 := Fr.nil n0
  rw [ef_okat3 m va nn (3 : Int32)]
  refine own_st (T' := s₁) (g' := (mkF m 1 #[rv va, iv nn, iv (3 : Int32), .unset] [(.int (3 : Int32))])) (fun _ k_ => XS.iloadN X0.here hx rfl (hb hby d2_0) rfl  k_) ?_
  refine own_st (T' := s₁) (g' := (mkF m 2 #[rv va, iv nn, iv (3 : Int32), .unset] [(.int nn), (.int (3 : Int32))])) (fun _ k_ => XS.iloadN X0.here hx rfl (hb hby d2_1) rfl  k_) ?_
  by_cases hc1 : (3 : Int32) < nn
  · refine own_st (T' := s₁) (g' := (mkF m 7 #[rv va, iv nn, iv (3 : Int32), .unset] [])) (fun _ k_ => XS.icmpYes X0.here hx rfl (pc0 := 2) (pc' := 7) rfl (hb hby d2_2) rfl (tlt hc1).1 (by decide) (by decide) k_) ?_
    refine own_st (T' := s₁) (g' := (mkF m 8 #[rv va, iv nn, iv (3 : Int32), .unset] [(.ref va)])) (fun _ k_ => XS.aloadN X0.here hx rfl (hb hby d2_7) rfl rfl  k_) ?_
    refine own_st (T' := s₁) (g' := (mkF m 9 #[rv va, iv nn, iv (3 : Int32), .unset] [(.int (3 : Int32)), (.ref va)])) (fun _ k_ => XS.iloadN X0.here hx rfl (hb hby d2_8) rfl  k_) ?_
    obtain ⟨cl2, Ar2, q2, S2, N2, H2, G2⟩ := id VA
    have hin2 : ¬ ((3 : Int32) < 0 ∨ cl2.slots.size ≤ ((3 : Int32)).toNatClampNeg) := inb_of S2 ⟨by decide, by decide⟩
    refine own_st (T' := s₁) (g' := (mkF m 10 #[rv va, iv nn, iv (3 : Int32), .unset] [(.int c3)])) (X0.caload hx (j := (3 : Int32)) (v := (.int c3)) (by rw [e0]; exact Ar2.1) (State.isArrayOf_alike hZ.alike Ar2.2.1) Ar2.2.2 hin2 (H2.at hin2 rfl) (g := (mkF m 9 #[rv va, iv nn, iv (3 : Int32), .unset] [(.int (3 : Int32)), (.ref va)])) rfl rfl (hb hby d2_9)) ?_
    clear hin2 G2 H2 N2 S2 q2 Ar2 cl2
    refine own_st (T' := s₁) (g' := (mkF m 11 #[rv va, iv nn, iv (3 : Int32), iv c3] [])) (fun _ k_ => XS.istoreN X0.here hx rfl (hb hby d2_10) rfl (l' := #[rv va, iv nn, iv (3 : Int32), iv c3]) rfl k_) ?_
    refine own_st (T' := s₁) (g' := (mkF m 12 #[rv va, iv nn, iv (3 : Int32), iv c3] [(.int c3)])) (fun _ k_ => XS.iloadN X0.here hx rfl (hb hby d2_11) rfl  k_) ?_
    obtain ⟨_, T3, L3, X3, hQ3, st3⟩ := own_callS X0 hx (y := own_m23) hown (mvT hZ (wd hw 51 rfl)) (mvT hZ (wd hw 52 rfl)) (mvT hZ (wd hw 4 rfl)) (mvT hZ (wd hw 53 rfl)) (by decide) (backOf (W := 0) (rm_lih l Z a0 hw [] c3 h0 n0 O0) hZ (wd hw 53 rfl) (wd hw 4 rfl) (by decide) (by decide)) (g := (mkF m 12 #[rv va, iv nn, iv (3 : Int32), iv c3] [(.int c3)])) rfl (by rw [hml]; rfl) (argsL := [(.int c3)]) (rest := []) (lenOf pd__C_Z rfl) rfl (by show 2 * 0 + _ ≤ _; exact Nat.le_of_eq rfl) (hb hby d2_12) rfl e0 (by decide) (by decide) (c' := 0) (s' := 0) rfl rfl
    obtain ⟨rfl, Nq3, eq3⟩ := hQ3
    have N3 := Fr.app N0 Nq3
    refine own_st (T' := T3) (g' := (mkF m 15 #[rv va, iv nn, iv (3 : Int32), iv c3] [(.int (own_isH c3))])) st3 ?_
    clear st3
    by_cases hc4 : (own_isH c3) = (0 : Int32)
    · refine own_st (T' := T3) (g' := (mkF m 38 #[rv va, iv nn, iv (3 : Int32), iv c3] [])) (fun _ k_ => XS.ifYes X3.here hx rfl (pc0 := 15) (pc' := 38) rfl (hb hby d2_15) rfl ((if0 _ _).trans (teq hc4).1) (by decide) (by decide) k_) ?_
      refine own_st (T' := T3) (g' := (mkF m 39 #[rv va, iv nn, iv (3 : Int32), iv c3] [(.int c3)])) (fun _ k_ => XS.iloadN X3.here hx rfl (hb hby d2_38) rfl  k_) ?_
      obtain ⟨_, T5, L5, X5, hQ5, st5⟩ := own_callS X3 hx (y := own_m24) hown (mvT hZ (wd hw 54 rfl)) (mvT hZ (wd hw 55 rfl)) (mvT hZ (wd hw 4 rfl)) (mvT hZ (wd hw 56 rfl)) (by decide) (backOf (W := 0) (rm_lil l Z a0 hw [] c3 h0 n0 O0) hZ (wd hw 56 rfl) (wd hw 4 rfl) (by decide) (by decide)) (g := (mkF m 39 #[rv va, iv nn, iv (3 : Int32), iv c3] [(.int c3)])) rfl (by rw [hml]; rfl) (argsL := [(.int c3)]) (rest := []) (lenOf pd__C_Z rfl) rfl (by show 2 * 0 + _ ≤ _; exact Nat.le_of_eq rfl) (hb hby d2_39) rfl eq3 (by decide) (by decide) (c' := 0) (s' := 0) rfl rfl
      obtain ⟨rfl, Nq5, eq5⟩ := hQ5
      have N5 := Fr.app N3 Nq5
      refine own_st (T' := T5) (g' := (mkF m 42 #[rv va, iv nn, iv (3 : Int32), iv c3] [(.int (own_isL c3))])) st5 ?_
      clear st5
      by_cases hc6 : (own_isL c3) = (0 : Int32)
      · refine own_st (T' := T5) (g' := (mkF m 62 #[rv va, iv nn, iv (3 : Int32), iv c3] [])) (fun _ k_ => XS.ifYes X5.here hx rfl (pc0 := 42) (pc' := 62) rfl (hb hby d2_42) rfl ((if0 _ _).trans (teq hc6).1) (by decide) (by decide) k_) ?_
        refine own_st (T' := T5) (g' := (mkF m 63 #[rv va, iv nn, iv (3 : Int32), iv c3] [(.int (1 : Int32))])) (fun _ k_ => XS.iconst X5.here hx rfl (hb hby d2_62) k_) ?_
        exact own_retN X5 hx (t := .boolean) hret (by simp) hlk (hb hby d2_63) (by decide) (by decide) ⟨(by unfold own_ok3; rw [if_pos hc1, if_pos hc4, if_pos hc6]; rfl), N5, eq5⟩
      · refine own_st (T' := T5) (g' := (mkF m 45 #[rv va, iv nn, iv (3 : Int32), iv c3] [])) (fun _ k_ => XS.ifNo X5.here hx rfl (hb hby d2_42) rfl ((if0 _ _).trans (feq hc6).1) k_) ?_
        refine own_st (T' := T5) (g' := (mkF m 46 #[rv va, iv nn, iv (3 : Int32), iv c3] [(.int (3 : Int32))])) (fun _ k_ => XS.iloadN X5.here hx rfl (hb hby d2_45) rfl  k_) ?_
        refine own_st (T' := T5) (g' := (mkF m 49 #[rv va, iv nn, iv (3 : Int32), iv c3] [])) (fun _ k_ => XS.ifNo X5.here hx rfl (hb hby d2_46) rfl ((if0 _ _).trans (tlt (by decide : (0 : Int32) < (3 : Int32))).2.2.2) k_) ?_
        refine own_st (T' := T5) (g' := (mkF m 50 #[rv va, iv nn, iv (3 : Int32), iv c3] [(.ref va)])) (fun _ k_ => XS.aloadN X5.here hx rfl (hb hby d2_49) rfl rfl  k_) ?_
        refine own_st (T' := T5) (g' := (mkF m 51 #[rv va, iv nn, iv (3 : Int32), iv c3] [(.int (3 : Int32)), (.ref va)])) (fun _ k_ => XS.iloadN X5.here hx rfl (hb hby d2_50) rfl  k_) ?_
        refine own_st (T' := T5) (g' := (mkF m 52 #[rv va, iv nn, iv (3 : Int32), iv c3] [(.int (1 : Int32)), (.int (3 : Int32)), (.ref va)])) (fun _ k_ => XS.iconst X5.here hx rfl (hb hby d2_51) k_) ?_
        refine own_st (T' := T5) (g' := (mkF m 53 #[rv va, iv nn, iv (3 : Int32), iv c3] [(.int (2 : Int32)), (.ref va)])) (fun _ k_ => XS.isub X5.here hx rfl (hb hby d2_52) rfl k_) ?_
        obtain ⟨cl7, Ar7, q7, S7, N7, H7, G7⟩ := id VA
        have hin7 : ¬ ((2 : Int32) < 0 ∨ cl7.slots.size ≤ ((2 : Int32)).toNatClampNeg) := inb_of S7 ⟨by decide, by decide⟩
        refine own_st (T' := T5) (g' := (mkF m 54 #[rv va, iv nn, iv (3 : Int32), iv c3] [(.int c2)])) (X5.caload hx (j := (2 : Int32)) (v := (.int c2)) (by rw [eq5]; exact Ar7.1) (State.isArrayOf_alike hZ.alike Ar7.2.1) Ar7.2.2 hin7 (H7.at hin7 rfl) (g := (mkF m 53 #[rv va, iv nn, iv (3 : Int32), iv c3] [(.int (2 : Int32)), (.ref va)])) rfl rfl (hb hby d2_53)) ?_
        clear hin7 G7 H7 N7 S7 q7 Ar7 cl7
        obtain ⟨_, T8, L8, X8, hQ8, st8⟩ := own_callS X5 hx (y := own_m23) hown (mvT hZ (wd hw 51 rfl)) (mvT hZ (wd hw 52 rfl)) (mvT hZ (wd hw 4 rfl)) (mvT hZ (wd hw 53 rfl)) (by decide) (backOf (W := 0) (rm_lih l Z a0 hw [] c2 h0 n0 O0) hZ (wd hw 53 rfl) (wd hw 4 rfl) (by decide) (by decide)) (g := (mkF m 54 #[rv va, iv nn, iv (3 : Int32), iv c3] [(.int c2)])) rfl (by rw [hml]; rfl) (argsL := [(.int c2)]) (rest := []) (lenOf pd__C_Z rfl) rfl (by show 2 * 0 + _ ≤ _; exact Nat.le_of_eq rfl) (hb hby d2_54) rfl eq5 (by decide) (by decide) (c' := 0) (s' := 0) rfl rfl
        obtain ⟨rfl, Nq8, eq8⟩ := hQ8
        have N8 := Fr.app N5 Nq8
        refine own_st (T' := T8) (g' := (mkF m 57 #[rv va, iv nn, iv (3 : Int32), iv c3] [(.int (own_isH c2))])) st8 ?_
        clear st8
        by_cases hc9 : (own_isH c2) = (0 : Int32)
        · refine own_st (T' := T8) (g' := (mkF m 60 #[rv va, iv nn, iv (3 : Int32), iv c3] [])) (fun _ k_ => XS.ifNo X8.here hx rfl (hb hby d2_57) rfl ((if0 _ _).trans (teq hc9).2) k_) ?_
          refine own_st (T' := T8) (g' := (mkF m 61 #[rv va, iv nn, iv (3 : Int32), iv c3] [(.int (0 : Int32))])) (fun _ k_ => XS.iconst X8.here hx rfl (hb hby d2_60) k_) ?_
          exact own_retN X8 hx (t := .boolean) hret (by simp) hlk (hb hby d2_61) (by decide) (by decide) ⟨(by unfold own_ok3; rw [if_pos hc1, if_pos hc4, if_neg hc6, if_pos hc9]; rfl), N8, eq8⟩
        · refine own_st (T' := T8) (g' := (mkF m 62 #[rv va, iv nn, iv (3 : Int32), iv c3] [])) (fun _ k_ => XS.ifYes X8.here hx rfl (pc0 := 57) (pc' := 62) rfl (hb hby d2_57) rfl ((if0 _ _).trans (feq hc9).2) (by decide) (by decide) k_) ?_
          refine own_st (T' := T8) (g' := (mkF m 63 #[rv va, iv nn, iv (3 : Int32), iv c3] [(.int (1 : Int32))])) (fun _ k_ => XS.iconst X8.here hx rfl (hb hby d2_62) k_) ?_
          exact own_retN X8 hx (t := .boolean) hret (by simp) hlk (hb hby d2_63) (by decide) (by decide) ⟨(by unfold own_ok3; rw [if_pos hc1, if_pos hc4, if_neg hc6, if_neg hc9]; rfl), N8, eq8⟩
    · refine own_st (T' := T3) (g' := (mkF m 18 #[rv va, iv nn, iv (3 : Int32), iv c3] [])) (fun _ k_ => XS.ifNo X3.here hx rfl (hb hby d2_15) rfl ((if0 _ _).trans (feq hc4).1) k_) ?_
      refine own_st (T' := T3) (g' := (mkF m 19 #[rv va, iv nn, iv (3 : Int32), iv c3] [(.int (3 : Int32))])) (fun _ k_ => XS.iloadN X3.here hx rfl (hb hby d2_18) rfl  k_) ?_
      refine own_st (T' := T3) (g' := (mkF m 20 #[rv va, iv nn, iv (3 : Int32), iv c3] [(.int (1 : Int32)), (.int (3 : Int32))])) (fun _ k_ => XS.iconst X3.here hx rfl (hb hby d2_19) k_) ?_
      refine own_st (T' := T3) (g' := (mkF m 21 #[rv va, iv nn, iv (3 : Int32), iv c3] [(.int (4 : Int32))])) (fun _ k_ => XS.iadd X3.here hx rfl (hb hby d2_20) rfl k_) ?_
      refine own_st (T' := T3) (g' := (mkF m 22 #[rv va, iv nn, iv (3 : Int32), iv c3] [(.int nn), (.int (4 : Int32))])) (fun _ k_ => XS.iloadN X3.here hx rfl (hb hby d2_21) rfl  k_) ?_
      refine own_st (T' := T3) (g' := (mkF m 36 #[rv va, iv nn, iv (3 : Int32), iv c3] [])) (fun _ k_ => XS.icmpYes X3.here hx rfl (pc0 := 22) (pc' := 36) rfl (hb hby d2_22) rfl (flt (hn4 : ¬ ((4 : Int32) < nn))).2.1 (by decide) (by decide) k_) ?_
      refine own_st (T' := T3) (g' := (mkF m 37 #[rv va, iv nn, iv (3 : Int32), iv c3] [(.int (0 : Int32))])) (fun _ k_ => XS.iconst X3.here hx rfl (hb hby d2_36) k_) ?_
      exact own_retN X3 hx (t := .boolean) hret (by simp) hlk (hb hby d2_37) (by decide) (by decide) ⟨(by unfold own_ok3; rw [if_pos hc1, if_neg hc4]; rfl), N3, eq3⟩
  · refine own_st (T' := s₁) (g' := (mkF m 5 #[rv va, iv nn, iv (3 : Int32), .unset] [])) (fun _ k_ => XS.icmpNo X0.here hx rfl (hb hby d2_2) rfl (flt hc1).1 k_) ?_
    refine own_st (T' := s₁) (g' := (mkF m 6 #[rv va, iv nn, iv (3 : Int32), .unset] [(.int (1 : Int32))])) (fun _ k_ => XS.iconst X0.here hx rfl (hb hby d2_5) k_) ?_
    exact own_retN X0 hx (t := .boolean) hret (by simp) hlk (hb hby d2_6) (by decide) (by decide) ⟨(by unfold own_ok3; rw [if_neg hc1]; rfl), N0, e0⟩
def own_draw (b : Int32) : Int32 := if b &&& (3 : Int32) = (1 : Int32) then nar .char (((55296 : Int32) + ((b.toUInt32 >>> ((2 : Int32) &&& 31).toUInt32).toInt32 &&& (1023 : Int32))).toUInt32.toUInt16.toUInt32.toInt32) else if b &&& (3 : Int32) = (2 : Int32) then nar .char (((56320 : Int32) + ((b.toUInt32 >>> ((2 : Int32) &&& 31).toUInt32).toInt32 &&& (1023 : Int32))).toUInt32.toUInt16.toUInt32.toInt32) else nar .char (((b.toUInt32 >>> ((2 : Int32) &&& 31).toUInt32).toInt32 &&& (65535 : Int32)).toUInt32.toUInt16.toUInt32.toInt32)
theorem own_drR (b : Int32) : own_R (own_draw b) := by
  unfold own_draw
  split
  · exact own_Rnc _
  · split
    · exact own_Rnc _
    · exact own_Rnc _
theorem own_ncd (b : Int32) : nar .char (own_draw b) = own_draw b := own_ncR (own_drR b)
theorem d1_0 : decode method_2_code 0 = .ok (.iload_n 0, 1) := by decide +kernel
theorem d1_1 : decode method_2_code 1 = .ok (.iconst 3, 1) := by decide +kernel
theorem d1_2 : decode method_2_code 2 = .ok (.iand, 1) := by decide +kernel
theorem d1_3 : decode method_2_code 3 = .ok (.istore_n 1, 1) := by decide +kernel
theorem d1_4 : decode method_2_code 4 = .ok (.iload_n 0, 1) := by decide +kernel
theorem d1_5 : decode method_2_code 5 = .ok (.iconst 2, 1) := by decide +kernel
theorem d1_6 : decode method_2_code 6 = .ok (.iushr, 1) := by decide +kernel
theorem d1_7 : decode method_2_code 7 = .ok (.sipush 1023, 3) := by decide +kernel
theorem d1_10 : decode method_2_code 10 = .ok (.iand, 1) := by decide +kernel
theorem d1_11 : decode method_2_code 11 = .ok (.istore_n 2, 1) := by decide +kernel
theorem d1_12 : decode method_2_code 12 = .ok (.iload_n 1, 1) := by decide +kernel
theorem d1_13 : decode method_2_code 13 = .ok (.iconst 1, 1) := by decide +kernel
theorem d1_14 : decode method_2_code 14 = .ok (.if_icmp .ne 9, 3) := by decide +kernel
theorem d1_17 : decode method_2_code 17 = .ok (.ldc 7, 2) := by decide +kernel
theorem d1_19 : decode method_2_code 19 = .ok (.iload_n 2, 1) := by decide +kernel
theorem d1_20 : decode method_2_code 20 = .ok (.iadd, 1) := by decide +kernel
theorem d1_21 : decode method_2_code 21 = .ok (.i2c, 1) := by decide +kernel
theorem d1_22 : decode method_2_code 22 = .ok (.ireturn, 1) := by decide +kernel
theorem d1_23 : decode method_2_code 23 = .ok (.iload_n 1, 1) := by decide +kernel
theorem d1_24 : decode method_2_code 24 = .ok (.iconst 2, 1) := by decide +kernel
theorem d1_25 : decode method_2_code 25 = .ok (.if_icmp .ne 9, 3) := by decide +kernel
theorem d1_28 : decode method_2_code 28 = .ok (.ldc 8, 2) := by decide +kernel
theorem d1_30 : decode method_2_code 30 = .ok (.iload_n 2, 1) := by decide +kernel
theorem d1_31 : decode method_2_code 31 = .ok (.iadd, 1) := by decide +kernel
theorem d1_32 : decode method_2_code 32 = .ok (.i2c, 1) := by decide +kernel
theorem d1_33 : decode method_2_code 33 = .ok (.ireturn, 1) := by decide +kernel
theorem d1_34 : decode method_2_code 34 = .ok (.iload_n 0, 1) := by decide +kernel
theorem d1_35 : decode method_2_code 35 = .ok (.iconst 2, 1) := by decide +kernel
theorem d1_36 : decode method_2_code 36 = .ok (.iushr, 1) := by decide +kernel
theorem d1_37 : decode method_2_code 37 = .ok (.ldc 9, 2) := by decide +kernel
theorem d1_39 : decode method_2_code 39 = .ok (.iand, 1) := by decide +kernel
theorem d1_40 : decode method_2_code 40 = .ok (.i2c, 1) := by decide +kernel
theorem d1_41 : decode method_2_code 41 = .ok (.ireturn, 1) := by decide +kernel
theorem ef_draw (m : MethodId) (x0 : Int32) : entryFrame m #[(.int x0)] 3 = mkF m 0 #[iv x0, .unset, .unset] [] := by first | (simp [entryFrame, mkF, argsToLocals, Value.category]; done) | rfl
def Q_draw (Z : State) (b : Int32) (h0 : Heap) (n0 : Nat) (v : Option Value) (h : Heap) (L : List Loc) : Prop := (v = some (.int (own_draw b))) ∧ (Fr n0 L) ∧ (h = h0)
set_option maxRecDepth 65536 in
set_option maxHeartbeats 40000000 in
theorem rm_draw (l : Launch) (Z : State) (a0 : Array Value) (hw : ∀ d ∈ tables_1, d.before a0 Z = true) (ws : List Jvm.Cond) (b : Int32) (h0 : Heap) (n0 : Nat) (O0 : Old Z n0 h0) :
    own_MF l own_m27 (Jvm.Cond.code own_m27 method_2_code 3 (some .char) :: ws) ({ frames := 0, cells := 0, slots := 0, locals := 0 } : Room) #[(.int b)] Z h0 (Q_draw Z b h0 n0) := by
  refine own_met (own := "com/example/countersign/countersign/scheme/Utf8HasFormPinLaw") (nme := "draw") rfl rfl (plainFor_of_name pn_5) ?_
  intro p e s m below meth c s₁ hx hby hml hown hnm X0 e0 hret hlk hZ
  have N0 := Fr.nil n0
  rw [ef_draw m b]
  refine own_st (T' := s₁) (g' := (mkF m 1 #[iv b, .unset, .unset] [(.int b)])) (fun _ k_ => XS.iloadN X0.here hx rfl (hb hby d1_0) rfl  k_) ?_
  refine own_st (T' := s₁) (g' := (mkF m 2 #[iv b, .unset, .unset] [(.int (3 : Int32)), (.int b)])) (fun _ k_ => XS.iconst X0.here hx rfl (hb hby d1_1) k_) ?_
  refine own_st (T' := s₁) (g' := (mkF m 3 #[iv b, .unset, .unset] [(.int (b &&& (3 : Int32)))])) (fun _ k_ => XS.iand X0.here hx rfl (hb hby d1_2) rfl k_) ?_
  refine own_st (T' := s₁) (g' := (mkF m 4 #[iv b, iv (b &&& (3 : Int32)), .unset] [])) (fun _ k_ => XS.istoreN X0.here hx rfl (hb hby d1_3) rfl (l' := #[iv b, iv (b &&& (3 : Int32)), .unset]) rfl k_) ?_
  refine own_st (T' := s₁) (g' := (mkF m 5 #[iv b, iv (b &&& (3 : Int32)), .unset] [(.int b)])) (fun _ k_ => XS.iloadN X0.here hx rfl (hb hby d1_4) rfl  k_) ?_
  refine own_st (T' := s₁) (g' := (mkF m 6 #[iv b, iv (b &&& (3 : Int32)), .unset] [(.int (2 : Int32)), (.int b)])) (fun _ k_ => XS.iconst X0.here hx rfl (hb hby d1_5) k_) ?_
  refine own_st (T' := s₁) (g' := (mkF m 7 #[iv b, iv (b &&& (3 : Int32)), .unset] [(.int ((b.toUInt32 >>> ((2 : Int32) &&& 31).toUInt32).toInt32))])) (fun _ k_ => XS.iushr X0.here hx rfl (hb hby d1_6) rfl k_) ?_
  refine own_st (T' := s₁) (g' := (mkF m 10 #[iv b, iv (b &&& (3 : Int32)), .unset] [(.int (1023 : Int32)), (.int ((b.toUInt32 >>> ((2 : Int32) &&& 31).toUInt32).toInt32))])) (fun _ k_ => XS.sipush X0.here hx rfl (hb hby d1_7) k_) ?_
  refine own_st (T' := s₁) (g' := (mkF m 11 #[iv b, iv (b &&& (3 : Int32)), .unset] [(.int (((b.toUInt32 >>> ((2 : Int32) &&& 31).toUInt32).toInt32) &&& (1023 : Int32)))])) (fun _ k_ => XS.iand X0.here hx rfl (hb hby d1_10) rfl k_) ?_
  refine own_st (T' := s₁) (g' := (mkF m 12 #[iv b, iv (b &&& (3 : Int32)), iv (((b.toUInt32 >>> ((2 : Int32) &&& 31).toUInt32).toInt32) &&& (1023 : Int32))] [])) (fun _ k_ => XS.istoreN X0.here hx rfl (hb hby d1_11) rfl (l' := #[iv b, iv (b &&& (3 : Int32)), iv (((b.toUInt32 >>> ((2 : Int32) &&& 31).toUInt32).toInt32) &&& (1023 : Int32))]) rfl k_) ?_
  refine own_st (T' := s₁) (g' := (mkF m 13 #[iv b, iv (b &&& (3 : Int32)), iv (((b.toUInt32 >>> ((2 : Int32) &&& 31).toUInt32).toInt32) &&& (1023 : Int32))] [(.int (b &&& (3 : Int32)))])) (fun _ k_ => XS.iloadN X0.here hx rfl (hb hby d1_12) rfl  k_) ?_
  refine own_st (T' := s₁) (g' := (mkF m 14 #[iv b, iv (b &&& (3 : Int32)), iv (((b.toUInt32 >>> ((2 : Int32) &&& 31).toUInt32).toInt32) &&& (1023 : Int32))] [(.int (1 : Int32)), (.int (b &&& (3 : Int32)))])) (fun _ k_ => XS.iconst X0.here hx rfl (hb hby d1_13) k_) ?_
  by_cases hc1 : (b &&& (3 : Int32)) = (1 : Int32)
  · refine own_st (T' := s₁) (g' := (mkF m 17 #[iv b, iv (b &&& (3 : Int32)), iv (((b.toUInt32 >>> ((2 : Int32) &&& 31).toUInt32).toInt32) &&& (1023 : Int32))] [])) (fun _ k_ => XS.icmpNo X0.here hx rfl (hb hby d1_14) rfl (teq hc1).2 k_) ?_
    refine own_st (T' := s₁) (g' := (mkF m 19 #[iv b, iv (b &&& (3 : Int32)), iv (((b.toUInt32 >>> ((2 : Int32) &&& 31).toUInt32).toInt32) &&& (1023 : Int32))] [(.int (55296 : Int32))])) (X0.ldcInt hx hown (mvT hZ (wd hw 8 rfl)) (g := (mkF m 17 #[iv b, iv (b &&& (3 : Int32)), iv (((b.toUInt32 >>> ((2 : Int32) &&& 31).toUInt32).toInt32) &&& (1023 : Int32))] [])) rfl (hb hby d1_17)) ?_
    refine own_st (T' := s₁) (g' := (mkF m 20 #[iv b, iv (b &&& (3 : Int32)), iv (((b.toUInt32 >>> ((2 : Int32) &&& 31).toUInt32).toInt32) &&& (1023 : Int32))] [(.int (((b.toUInt32 >>> ((2 : Int32) &&& 31).toUInt32).toInt32) &&& (1023 : Int32))), (.int (55296 : Int32))])) (fun _ k_ => XS.iloadN X0.here hx rfl (hb hby d1_19) rfl  k_) ?_
    refine own_st (T' := s₁) (g' := (mkF m 21 #[iv b, iv (b &&& (3 : Int32)), iv (((b.toUInt32 >>> ((2 : Int32) &&& 31).toUInt32).toInt32) &&& (1023 : Int32))] [(.int ((55296 : Int32) + (((b.toUInt32 >>> ((2 : Int32) &&& 31).toUInt32).toInt32) &&& (1023 : Int32))))])) (fun _ k_ => XS.iadd X0.here hx rfl (hb hby d1_20) rfl k_) ?_
    refine own_st (T' := s₁) (g' := (mkF m 22 #[iv b, iv (b &&& (3 : Int32)), iv (((b.toUInt32 >>> ((2 : Int32) &&& 31).toUInt32).toInt32) &&& (1023 : Int32))] [(.int (((55296 : Int32) + (((b.toUInt32 >>> ((2 : Int32) &&& 31).toUInt32).toInt32) &&& (1023 : Int32))).toUInt32.toUInt16.toUInt32.toInt32))])) (fun _ k_ => XS.i2c X0.here hx rfl (hb hby d1_21) rfl k_) ?_
    exact own_retN X0 hx (t := .char) hret (by simp) hlk (hb hby d1_22) (by decide) (by decide) ⟨(by unfold own_draw; rw [if_pos hc1]), N0, e0⟩
  · refine own_st (T' := s₁) (g' := (mkF m 23 #[iv b, iv (b &&& (3 : Int32)), iv (((b.toUInt32 >>> ((2 : Int32) &&& 31).toUInt32).toInt32) &&& (1023 : Int32))] [])) (fun _ k_ => XS.icmpYes X0.here hx rfl (pc0 := 14) (pc' := 23) rfl (hb hby d1_14) rfl (feq hc1).2 (by decide) (by decide) k_) ?_
    refine own_st (T' := s₁) (g' := (mkF m 24 #[iv b, iv (b &&& (3 : Int32)), iv (((b.toUInt32 >>> ((2 : Int32) &&& 31).toUInt32).toInt32) &&& (1023 : Int32))] [(.int (b &&& (3 : Int32)))])) (fun _ k_ => XS.iloadN X0.here hx rfl (hb hby d1_23) rfl  k_) ?_
    refine own_st (T' := s₁) (g' := (mkF m 25 #[iv b, iv (b &&& (3 : Int32)), iv (((b.toUInt32 >>> ((2 : Int32) &&& 31).toUInt32).toInt32) &&& (1023 : Int32))] [(.int (2 : Int32)), (.int (b &&& (3 : Int32)))])) (fun _ k_ => XS.iconst X0.here hx rfl (hb hby d1_24) k_) ?_
    by_cases hc2 : (b &&& (3 : Int32)) = (2 : Int32)
    · refine own_st (T' := s₁) (g' := (mkF m 28 #[iv b, iv (b &&& (3 : Int32)), iv (((b.toUInt32 >>> ((2 : Int32) &&& 31).toUInt32).toInt32) &&& (1023 : Int32))] [])) (fun _ k_ => XS.icmpNo X0.here hx rfl (hb hby d1_25) rfl (teq hc2).2 k_) ?_
      refine own_st (T' := s₁) (g' := (mkF m 30 #[iv b, iv (b &&& (3 : Int32)), iv (((b.toUInt32 >>> ((2 : Int32) &&& 31).toUInt32).toInt32) &&& (1023 : Int32))] [(.int (56320 : Int32))])) (X0.ldcInt hx hown (mvT hZ (wd hw 7 rfl)) (g := (mkF m 28 #[iv b, iv (b &&& (3 : Int32)), iv (((b.toUInt32 >>> ((2 : Int32) &&& 31).toUInt32).toInt32) &&& (1023 : Int32))] [])) rfl (hb hby d1_28)) ?_
      refine own_st (T' := s₁) (g' := (mkF m 31 #[iv b, iv (b &&& (3 : Int32)), iv (((b.toUInt32 >>> ((2 : Int32) &&& 31).toUInt32).toInt32) &&& (1023 : Int32))] [(.int (((b.toUInt32 >>> ((2 : Int32) &&& 31).toUInt32).toInt32) &&& (1023 : Int32))), (.int (56320 : Int32))])) (fun _ k_ => XS.iloadN X0.here hx rfl (hb hby d1_30) rfl  k_) ?_
      refine own_st (T' := s₁) (g' := (mkF m 32 #[iv b, iv (b &&& (3 : Int32)), iv (((b.toUInt32 >>> ((2 : Int32) &&& 31).toUInt32).toInt32) &&& (1023 : Int32))] [(.int ((56320 : Int32) + (((b.toUInt32 >>> ((2 : Int32) &&& 31).toUInt32).toInt32) &&& (1023 : Int32))))])) (fun _ k_ => XS.iadd X0.here hx rfl (hb hby d1_31) rfl k_) ?_
      refine own_st (T' := s₁) (g' := (mkF m 33 #[iv b, iv (b &&& (3 : Int32)), iv (((b.toUInt32 >>> ((2 : Int32) &&& 31).toUInt32).toInt32) &&& (1023 : Int32))] [(.int (((56320 : Int32) + (((b.toUInt32 >>> ((2 : Int32) &&& 31).toUInt32).toInt32) &&& (1023 : Int32))).toUInt32.toUInt16.toUInt32.toInt32))])) (fun _ k_ => XS.i2c X0.here hx rfl (hb hby d1_32) rfl k_) ?_
      exact own_retN X0 hx (t := .char) hret (by simp) hlk (hb hby d1_33) (by decide) (by decide) ⟨(by unfold own_draw; rw [if_neg hc1, if_pos hc2]), N0, e0⟩
    · refine own_st (T' := s₁) (g' := (mkF m 34 #[iv b, iv (b &&& (3 : Int32)), iv (((b.toUInt32 >>> ((2 : Int32) &&& 31).toUInt32).toInt32) &&& (1023 : Int32))] [])) (fun _ k_ => XS.icmpYes X0.here hx rfl (pc0 := 25) (pc' := 34) rfl (hb hby d1_25) rfl (feq hc2).2 (by decide) (by decide) k_) ?_
      refine own_st (T' := s₁) (g' := (mkF m 35 #[iv b, iv (b &&& (3 : Int32)), iv (((b.toUInt32 >>> ((2 : Int32) &&& 31).toUInt32).toInt32) &&& (1023 : Int32))] [(.int b)])) (fun _ k_ => XS.iloadN X0.here hx rfl (hb hby d1_34) rfl  k_) ?_
      refine own_st (T' := s₁) (g' := (mkF m 36 #[iv b, iv (b &&& (3 : Int32)), iv (((b.toUInt32 >>> ((2 : Int32) &&& 31).toUInt32).toInt32) &&& (1023 : Int32))] [(.int (2 : Int32)), (.int b)])) (fun _ k_ => XS.iconst X0.here hx rfl (hb hby d1_35) k_) ?_
      refine own_st (T' := s₁) (g' := (mkF m 37 #[iv b, iv (b &&& (3 : Int32)), iv (((b.toUInt32 >>> ((2 : Int32) &&& 31).toUInt32).toInt32) &&& (1023 : Int32))] [(.int ((b.toUInt32 >>> ((2 : Int32) &&& 31).toUInt32).toInt32))])) (fun _ k_ => XS.iushr X0.here hx rfl (hb hby d1_36) rfl k_) ?_
      refine own_st (T' := s₁) (g' := (mkF m 39 #[iv b, iv (b &&& (3 : Int32)), iv (((b.toUInt32 >>> ((2 : Int32) &&& 31).toUInt32).toInt32) &&& (1023 : Int32))] [(.int (65535 : Int32)), (.int ((b.toUInt32 >>> ((2 : Int32) &&& 31).toUInt32).toInt32))])) (X0.ldcInt hx hown (mvT hZ (wd hw 6 rfl)) (g := (mkF m 37 #[iv b, iv (b &&& (3 : Int32)), iv (((b.toUInt32 >>> ((2 : Int32) &&& 31).toUInt32).toInt32) &&& (1023 : Int32))] [(.int ((b.toUInt32 >>> ((2 : Int32) &&& 31).toUInt32).toInt32))])) rfl (hb hby d1_37)) ?_
      refine own_st (T' := s₁) (g' := (mkF m 40 #[iv b, iv (b &&& (3 : Int32)), iv (((b.toUInt32 >>> ((2 : Int32) &&& 31).toUInt32).toInt32) &&& (1023 : Int32))] [(.int (((b.toUInt32 >>> ((2 : Int32) &&& 31).toUInt32).toInt32) &&& (65535 : Int32)))])) (fun _ k_ => XS.iand X0.here hx rfl (hb hby d1_39) rfl k_) ?_
      refine own_st (T' := s₁) (g' := (mkF m 41 #[iv b, iv (b &&& (3 : Int32)), iv (((b.toUInt32 >>> ((2 : Int32) &&& 31).toUInt32).toInt32) &&& (1023 : Int32))] [(.int ((((b.toUInt32 >>> ((2 : Int32) &&& 31).toUInt32).toInt32) &&& (65535 : Int32)).toUInt32.toUInt16.toUInt32.toInt32))])) (fun _ k_ => XS.i2c X0.here hx rfl (hb hby d1_40) rfl k_) ?_
      exact own_retN X0 hx (t := .char) hret (by simp) hlk (hb hby d1_41) (by decide) (by decide) ⟨(by unfold own_draw; rw [if_neg hc1, if_neg hc2]), N0, e0⟩
theorem d3_0 : decode method_6_code 0 = .ok (.iload_n 1, 1) := by decide +kernel
theorem d3_1 : decode method_6_code 1 = .ok (.ifCond .ne 14, 3) := by decide +kernel
theorem d3_4 : decode method_6_code 4 = .ok (.new 21, 3) := by decide +kernel
theorem d3_7 : decode method_6_code 7 = .ok (.dup, 1) := by decide +kernel
theorem d3_8 : decode method_6_code 8 = .ok (.iconst 0, 1) := by decide +kernel
theorem d3_9 : decode method_6_code 9 = .ok (.newarray .char, 2) := by decide +kernel
theorem d3_11 : decode method_6_code 11 = .ok (.invokespecial 23, 3) := by decide +kernel
theorem d3_14 : decode method_6_code 14 = .ok (.areturn, 1) := by decide +kernel
theorem pd___C_V : parseMethodDescriptor "([C)V" = some ⟨[(.array .char)], none⟩ := by decide +kernel
theorem ef_str0 (m : MethodId) (x0 : Addr) (x1 : Int32) : entryFrame m #[(.ref x0), (.int x1)] 2 = mkF m 0 #[rv x0, iv x1] [] := by first | (simp [entryFrame, mkF, argsToLocals, Value.category]; done) | rfl
def Q_str0 (Z : State) (va : Addr) (kv : ClassId) (c0 : Int32) (c1 : Int32) (c2 : Int32) (c3 : Int32) (cz : Int32) (h0 : Heap) (n0 : Nat) (v : Option Value) (h : Heap) (L : List Loc) : Prop := ∃ (b : Addr), (v = some (.ref b)) ∧ (Fr n0 L) ∧ (Keep h0 h []) ∧ (Exa Z h b "java/lang/String") ∧ (own_S Z h b [])
set_option maxRecDepth 65536 in
set_option maxHeartbeats 40000000 in
theorem rm_str0 (l : Launch) (Z : State) (a0 : Array Value) (hw : ∀ d ∈ tables_1, d.before a0 Z = true) (ws : List Jvm.Cond) (va : Addr) (kv : ClassId) (c0 : Int32) (c1 : Int32) (c2 : Int32) (c3 : Int32) (cz : Int32) (h0 : Heap) (n0 : Nat) (O0 : Old Z n0 h0) (VA : Arv Z h0 va kv .char (4 : Int32) [(.int c0), (.int c1), (.int c2), (.int c3)] (.int (0 : Int32))) (hr0 : own_R c0) (hr1 : own_R c1) (hr2 : own_R c2) (hr3 : own_R c3) (SC : Sta Z Z.heap "java/lang/String" "COMPACT_STRINGS" "Z" (.int cz)) (hcz : ¬ cz = (0 : Int32)) :
    MetFree l own_m28 (head1 (Jvm.Cond.code own_m28 method_6_code 2 (some (.object "java/lang/String")) :: ws) ({ frames := 3, cells := 6, slots := 12, locals := 43 } : Room)) (fun ar_ U => ar_ = #[(.ref va), (.int (0 : Int32))] ∧ Z.Warmed39 U.vm ∧ U.heap = h0 ∧ CHv Z consts_1 U.vm h0 ∧ ∀ x ∈ ([] : List Addr), Safe Z consts_1 U.vm h0 x) (fun _ _ _ _ _ => True) (fun _ U o U' => ∃ v L, o = .returned v ∧ Q_str0 Z va kv c0 c1 c2 c3 cz h0 n0 v U'.heap L ∧ CHr Z consts_1 U.vm U.heap U'.vm U'.heap ∧ ReturnedEndW U o U' L ({ frames := 3, cells := 6, slots := 12, locals := 43 } : Room).cells ({ frames := 3, cells := 6, slots := 12, locals := 43 } : Room).slots) := by
  refine MetFree.of_bodySF (plainFor_of_name pn_5) hisR ?_
  intro p e s m args below meth c s₁ Bd hml0 hP hK
  obtain ⟨rfl, hZ, hh, CH0, SF0⟩ := hP
  have hx := Bd.exec
  have hby := Bd.bytes
  have hml : c.maxLocals = 2 := hml0
  have hown : s.vm.findClass "com/example/countersign/countersign/scheme/Utf8HasFormPinLaw" = some m.cls := findClass_of_methodNamed Bd.named
  have hnm := (name_of_methodNamed Bd.named Bd.method).1
  have X0 : Stand p l e ({ frames := 3, cells := 6, slots := 12, locals := 43 } : Room) (s.setVm s.vm) m #[(.ref va), (.int (0 : Int32))] below meth c s₁ [] 0 0 := Stand.of_body Bd
  have e0 : s₁.heap = h0 := by rw [← hh, Bd.state]; rfl
  have N0 := Fr.nil n0
  have hret := Bd.returns
  have hlk : meth.locks = false := Bd.notSynchronized
  have hEL := own_EW hw
  have hZs := hZ
  have howns := hown
  have hS0 : s.Since s.vm s.heap.size := (State.WarmedH.refl s).since _
  have hk0 : s.heap.size ≤ h0.size := Nat.le_of_eq (by rw [hh])
  have CR0 := CHr.refl CH0
  refine own_W0 hh ?_
  show own_W p e below s ({ frames := 3, cells := 6, slots := 12, locals := 43 } : Room).cells ({ frames := 3, cells := 6, slots := 12, locals := 43 } : Room).slots Z consts_1 h0 (Q_str0 Z va kv c0 c1 c2 c3 cz h0 n0) s₁ (entryFrame m #[(.ref va), (.int (0 : Int32))] 2)
  rw [ef_str0 m va (0 : Int32)]
  refine own_stW (T' := s₁) (g' := (mkF m 1 #[rv va, iv (0 : Int32)] [(.int (0 : Int32))])) (fun _ k_ => XS.iloadN X0.here hx rfl (hb hby d3_0) rfl  k_) ?_
  refine own_stW (T' := s₁) (g' := (mkF m 4 #[rv va, iv (0 : Int32)] [])) (fun _ k_ => XS.ifNo X0.here hx rfl (hb hby d3_1) rfl ((if0 _ _).trans (teq (rfl : (0 : Int32) = (0 : Int32))).2) k_) ?_
  obtain ⟨T1, h1, X1, e1, E1, A1, D1, -, st1⟩ := newO X0 hx hZ hown (wd hw 15 rfl) (wd hw 16 rfl) (wd hw 17 rfl) e0 (g := (mkF m 4 #[rv va, iv (0 : Int32)] [])) rfl (hb hby d3_4) (by decide) (by decide)
  obtain ⟨b1, g1⟩ : ∃ z, z = h0.size := ⟨_, rfl⟩
  rw [← g1] at A1 D1 st1
  have fr1 : n0 ≤ b1 := Nat.le_trans (own_z O0) (Nat.le_of_eq g1.symm)
  have sz1 : h0.size ≤ b1 := Nat.le_trans (Keep.refl h0 []).1 (Nat.le_of_eq g1.symm)
  have CR2 := CR0.trans (CHr.ext E1 CR0.1)
  have sf3 : Safe Z consts_1 s.vm h1 b1 := Safe.ext E1 CR0.1 (Safe.new (Nat.le_of_eq g1.symm))
  have F1_value : Fld Z h1 b1 "java/lang/String" "value" "[B" .null := D1 (Or.inr (wd hw 30 rfl)) (ty := (.array .byte)) (by decide)
  have F1_coder : Fld Z h1 b1 "java/lang/String" "coder" "B" (.int (0 : Int32)) := D1 (Or.inr (wd hw 31 rfl)) (ty := .byte) (by decide)
  refine own_stW (T' := T1) (g' := (mkF m 7 #[rv va, iv (0 : Int32)] [(.ref b1)])) st1 ?_
  clear st1
  refine own_stW (T' := T1) (g' := (mkF m 8 #[rv va, iv (0 : Int32)] [(.ref b1), (.ref b1)])) (fun _ k_ => XS.dup X1.here hx rfl (hb hby d3_7) rfl rfl k_) ?_
  refine own_stW (T' := T1) (g' := (mkF m 9 #[rv va, iv (0 : Int32)] [(.int (0 : Int32)), (.ref b1), (.ref b1)])) (fun _ k_ => XS.iconst X1.here hx rfl (hb hby d3_8) k_) ?_
  have f4 := O0.ext E1
  have f5 := (Keep.refl h0 []).ext E1
  obtain ⟨T6, h6, k6, X6, e6, E6, A6, st6⟩ := newP X1 hx hZ (wd hw 1 rfl) e1 (g := (mkF m 9 #[rv va, iv (0 : Int32)] [(.int (0 : Int32)), (.ref b1), (.ref b1)])) rfl (hb hby d3_9) rfl (by decide) (cap := 0) (by decide) (by decide) (by decide) (by decide)
  obtain ⟨b6, g6⟩ : ∃ z, z = h1.size := ⟨_, rfl⟩
  rw [← g6] at A6 st6
  have fr6 : n0 ≤ b6 := Nat.le_trans (own_z f4) (Nat.le_of_eq g6.symm)
  have sz6 : h0.size ≤ b6 := Nat.le_trans f5.1 (Nat.le_of_eq g6.symm)
  have CR7 := CR2.trans (CHr.ext E6 CR2.1)
  have sf8 : Safe Z consts_1 s.vm h6 b1 := Safe.ext E6 CR2.1 sf3
  have V6 : Arv Z h6 b6 k6 .char (0 : Int32) [] (.int (0 : Int32)) := Arv.new A6 (by decide)
  refine own_stW (T' := T6) (g' := (mkF m 11 #[rv va, iv (0 : Int32)] [(.ref b6), (.ref b1), (.ref b1)])) st6 ?_
  clear st6
  have f9 := A1.ext E6
  have f10 := F1_value.ext E6
  have f11 := F1_coder.ext E6
  have f12 := f4.ext E6
  obtain ⟨_, T13, L13, X13, hS13, hQ13, ch13, st13⟩ := own_callIW X6 hx (y := own_m13) rfl hown (mvT hZ (wd hw 18 rfl)) (mvT hZ (wd hw 19 rfl)) (mvT hZ (wd hw 20 rfl)) (by decide) (own_backW (W := 1) (rm_ini1_0 l Z a0 hw [] b1 b6 k6 h6 n0 f12 f9 f10 f11 fr1 V6) hZ (wd hw 20 rfl) (wd hw 17 rfl) (by decide) (by decide) hEL CR7.1 (sfS sf8 sf0) (allS (Nat.lt_of_lt_of_le A1.lt E6.1) all0)) (g := (mkF m 11 #[rv va, iv (0 : Int32)] [(.ref b6), (.ref b1), (.ref b1)])) rfl (by rw [hml]; rfl) (a := b1) (argsL := [(.ref b6)]) (rest := [(.ref b1)]) (lenOf pd___C_V rfl) rfl (by show 2 * 0 + _ ≤ _; exact Nat.le_of_eq rfl) (hb hby d3_11) rfl e6 (by decide) (by decide) (c' := 6) (s' := 12) rfl rfl hS0 (Nat.le_trans (Nat.le_trans hk0 E1.1) E6.1)
  obtain ⟨t13, kb13, rfl, Nq13, K13, fq13_0, fq13_1, fq13_2, fq13_3⟩ := hQ13
  have N13 := Fr.app N0 Nq13
  have CR14 := CR7.trans ch13
  have sf15 : Safe Z consts_1 T13.vm T13.heap b1 := ch13.safe (Nat.lt_of_lt_of_le A1.lt E6.1) sf8
  have hZ13 : Z.Warmed39 (s.setVm T13.vm).vm := own_hZ hZs hS13
  have hown13 : (s.setVm T13.vm).vm.findClass "com/example/countersign/countersign/scheme/Utf8HasFormPinLaw" = some m.cls := own_hown howns hS13
  refine own_stW (T' := T13) (g' := (mkF m 14 #[rv va, iv (0 : Int32)] [(.ref b1)])) st13 ?_
  clear st13
  have f16 := f5.ext E6
  have f17 := f16.trans K13 (allS (Or.inr sz1) all0)
  exact own_retAW X13 hZ13 hS13 (Nat.le_refl _) hEL CR14 hx hret rfl rfl hlk (hb hby d3_14) (by decide) (by decide) ⟨b1, rfl, N13, f17, fq13_0, ⟨t13, kb13, fq13_2, Or.inl ⟨fq13_1, fq13_3, own_a0⟩⟩⟩
theorem d3_15 : decode method_6_code 15 = .ok (.iload_n 1, 1) := by decide +kernel
theorem d3_16 : decode method_6_code 16 = .ok (.iconst 1, 1) := by decide +kernel
theorem d3_17 : decode method_6_code 17 = .ok (.if_icmp .ne 20, 3) := by decide +kernel
theorem d3_20 : decode method_6_code 20 = .ok (.new 21, 3) := by decide +kernel
theorem d3_23 : decode method_6_code 23 = .ok (.dup, 1) := by decide +kernel
theorem d3_24 : decode method_6_code 24 = .ok (.iconst 1, 1) := by decide +kernel
theorem d3_25 : decode method_6_code 25 = .ok (.newarray .char, 2) := by decide +kernel
theorem d3_27 : decode method_6_code 27 = .ok (.dup, 1) := by decide +kernel
theorem d3_28 : decode method_6_code 28 = .ok (.iconst 0, 1) := by decide +kernel
theorem d3_29 : decode method_6_code 29 = .ok (.aload_n 0, 1) := by decide +kernel
theorem d3_30 : decode method_6_code 30 = .ok (.iconst 0, 1) := by decide +kernel
theorem d3_31 : decode method_6_code 31 = .ok (.caload, 1) := by decide +kernel
theorem d3_32 : decode method_6_code 32 = .ok (.castore, 1) := by decide +kernel
theorem d3_33 : decode method_6_code 33 = .ok (.invokespecial 23, 3) := by decide +kernel
theorem d3_36 : decode method_6_code 36 = .ok (.areturn, 1) := by decide +kernel
theorem ef_str1 (m : MethodId) (x0 : Addr) (x1 : Int32) : entryFrame m #[(.ref x0), (.int x1)] 2 = mkF m 0 #[rv x0, iv x1] [] := by first | (simp [entryFrame, mkF, argsToLocals, Value.category]; done) | rfl
def Q_str1 (Z : State) (va : Addr) (kv : ClassId) (c0 : Int32) (c1 : Int32) (c2 : Int32) (c3 : Int32) (cz : Int32) (h0 : Heap) (n0 : Nat) (v : Option Value) (h : Heap) (L : List Loc) : Prop := ∃ (b : Addr), (v = some (.ref b)) ∧ (Fr n0 L) ∧ (Keep h0 h []) ∧ (Exa Z h b "java/lang/String") ∧ (own_S Z h b [c0])
set_option maxRecDepth 65536 in
set_option maxHeartbeats 40000000 in
theorem rm_str1 (l : Launch) (Z : State) (a0 : Array Value) (hw : ∀ d ∈ tables_1, d.before a0 Z = true) (ws : List Jvm.Cond) (va : Addr) (kv : ClassId) (c0 : Int32) (c1 : Int32) (c2 : Int32) (c3 : Int32) (cz : Int32) (h0 : Heap) (n0 : Nat) (O0 : Old Z n0 h0) (VA : Arv Z h0 va kv .char (4 : Int32) [(.int c0), (.int c1), (.int c2), (.int c3)] (.int (0 : Int32))) (hr0 : own_R c0) (hr1 : own_R c1) (hr2 : own_R c2) (hr3 : own_R c3) (SC : Sta Z Z.heap "java/lang/String" "COMPACT_STRINGS" "Z" (.int cz)) (hcz : ¬ cz = (0 : Int32)) (SA : Sta Z Z.heap "java/lang/StringUTF16" "$assertionsDisabled" "Z" (.int (1 : Int32))) (SHI : Sta Z Z.heap "java/lang/StringUTF16" "HI_BYTE_SHIFT" "I" (.int (0 : Int32))) (SLO : Sta Z Z.heap "java/lang/StringUTF16" "LO_BYTE_SHIFT" "I" (.int (8 : Int32))) :
    own_MF l own_m28 (Jvm.Cond.code own_m28 method_6_code 2 (some (.object "java/lang/String")) :: ws) ({ frames := 6, cells := 4, slots := 8, locals := 88 } : Room) #[(.ref va), (.int (1 : Int32))] Z h0 (Q_str1 Z va kv c0 c1 c2 c3 cz h0 n0) := by
  refine own_met (own := "com/example/countersign/countersign/scheme/Utf8HasFormPinLaw") (nme := "str") rfl rfl (plainFor_of_name pn_5) ?_
  intro p e s m below meth c s₁ hx hby hml hown hnm X0 e0 hret hlk hZ
  have N0 := Fr.nil n0
  rw [ef_str1 m va (1 : Int32)]
  refine own_st (T' := s₁) (g' := (mkF m 1 #[rv va, iv (1 : Int32)] [(.int (1 : Int32))])) (fun _ k_ => XS.iloadN X0.here hx rfl (hb hby d3_0) rfl  k_) ?_
  refine own_st (T' := s₁) (g' := (mkF m 15 #[rv va, iv (1 : Int32)] [])) (fun _ k_ => XS.ifYes X0.here hx rfl (pc0 := 1) (pc' := 15) rfl (hb hby d3_1) rfl ((if0 _ _).trans (feq (by decide : ¬ ((1 : Int32) = (0 : Int32)))).2) (by decide) (by decide) k_) ?_
  refine own_st (T' := s₁) (g' := (mkF m 16 #[rv va, iv (1 : Int32)] [(.int (1 : Int32))])) (fun _ k_ => XS.iloadN X0.here hx rfl (hb hby d3_15) rfl  k_) ?_
  refine own_st (T' := s₁) (g' := (mkF m 17 #[rv va, iv (1 : Int32)] [(.int (1 : Int32)), (.int (1 : Int32))])) (fun _ k_ => XS.iconst X0.here hx rfl (hb hby d3_16) k_) ?_
  refine own_st (T' := s₁) (g' := (mkF m 20 #[rv va, iv (1 : Int32)] [])) (fun _ k_ => XS.icmpNo X0.here hx rfl (hb hby d3_17) rfl (teq (rfl : (1 : Int32) = (1 : Int32))).2 k_) ?_
  obtain ⟨T1, h1, X1, e1, E1, A1, D1, -, st1⟩ := newO X0 hx hZ hown (wd hw 15 rfl) (wd hw 16 rfl) (wd hw 17 rfl) e0 (g := (mkF m 20 #[rv va, iv (1 : Int32)] [])) rfl (hb hby d3_20) (by decide) (by decide)
  obtain ⟨b1, g1⟩ : ∃ z, z = h0.size := ⟨_, rfl⟩
  rw [← g1] at A1 D1 st1
  have fr1 : n0 ≤ b1 := Nat.le_trans (own_z O0) (Nat.le_of_eq g1.symm)
  have sz1 : h0.size ≤ b1 := Nat.le_trans (Keep.refl h0 []).1 (Nat.le_of_eq g1.symm)
  have F1_value : Fld Z h1 b1 "java/lang/String" "value" "[B" .null := D1 (Or.inr (wd hw 30 rfl)) (ty := (.array .byte)) (by decide)
  have F1_coder : Fld Z h1 b1 "java/lang/String" "coder" "B" (.int (0 : Int32)) := D1 (Or.inr (wd hw 31 rfl)) (ty := .byte) (by decide)
  refine own_st (T' := T1) (g' := (mkF m 23 #[rv va, iv (1 : Int32)] [(.ref b1)])) st1 ?_
  clear st1
  refine own_st (T' := T1) (g' := (mkF m 24 #[rv va, iv (1 : Int32)] [(.ref b1), (.ref b1)])) (fun _ k_ => XS.dup X1.here hx rfl (hb hby d3_23) rfl rfl k_) ?_
  refine own_st (T' := T1) (g' := (mkF m 25 #[rv va, iv (1 : Int32)] [(.int (1 : Int32)), (.ref b1), (.ref b1)])) (fun _ k_ => XS.iconst X1.here hx rfl (hb hby d3_24) k_) ?_
  have f2 := O0.ext E1
  have f3 := (Keep.refl h0 []).ext E1
  obtain ⟨T4, h4, k4, X4, e4, E4, A4, st4⟩ := newP X1 hx hZ (wd hw 1 rfl) e1 (g := (mkF m 25 #[rv va, iv (1 : Int32)] [(.int (1 : Int32)), (.ref b1), (.ref b1)])) rfl (hb hby d3_25) rfl (by decide) (cap := 1) (by decide) (by decide) (by decide) (by decide)
  obtain ⟨b4, g4⟩ : ∃ z, z = h1.size := ⟨_, rfl⟩
  rw [← g4] at A4 st4
  have fr4 : n0 ≤ b4 := Nat.le_trans (own_z f2) (Nat.le_of_eq g4.symm)
  have sz4 : h0.size ≤ b4 := Nat.le_trans f3.1 (Nat.le_of_eq g4.symm)
  have V4 : Arv Z h4 b4 k4 .char (1 : Int32) [(.int (0 : Int32))] (.int (0 : Int32)) := (Arv.new A4 (by decide)).pad (pad_rep [] (.int (0 : Int32)) 1)
  refine own_st (T' := T4) (g' := (mkF m 27 #[rv va, iv (1 : Int32)] [(.ref b4), (.ref b1), (.ref b1)])) st4 ?_
  clear st4
  refine own_st (T' := T4) (g' := (mkF m 28 #[rv va, iv (1 : Int32)] [(.ref b4), (.ref b4), (.ref b1), (.ref b1)])) (fun _ k_ => XS.dup X4.here hx rfl (hb hby d3_27) rfl rfl k_) ?_
  refine own_st (T' := T4) (g' := (mkF m 29 #[rv va, iv (1 : Int32)] [(.int (0 : Int32)), (.ref b4), (.ref b4), (.ref b1), (.ref b1)])) (fun _ k_ => XS.iconst X4.here hx rfl (hb hby d3_28) k_) ?_
  refine own_st (T' := T4) (g' := (mkF m 30 #[rv va, iv (1 : Int32)] [(.ref va), (.int (0 : Int32)), (.ref b4), (.ref b4), (.ref b1), (.ref b1)])) (fun _ k_ => XS.aloadN X4.here hx rfl (hb hby d3_29) rfl rfl  k_) ?_
  refine own_st (T' := T4) (g' := (mkF m 31 #[rv va, iv (1 : Int32)] [(.int (0 : Int32)), (.ref va), (.int (0 : Int32)), (.ref b4), (.ref b4), (.ref b1), (.ref b1)])) (fun _ k_ => XS.iconst X4.here hx rfl (hb hby d3_30) k_) ?_
  have f5 := VA.ext E1
  have f6 := f5.ext E4
  obtain ⟨cl7, Ar7, q7, S7, N7, H7, G7⟩ := id f6
  have hin7 : ¬ ((0 : Int32) < 0 ∨ cl7.slots.size ≤ ((0 : Int32)).toNatClampNeg) := inb_of S7 ⟨by decide, by decide⟩
  refine own_st (T' := T4) (g' := (mkF m 32 #[rv va, iv (1 : Int32)] [(.int c0), (.int (0 : Int32)), (.ref b4), (.ref b4), (.ref b1), (.ref b1)])) (X4.caload hx (j := (0 : Int32)) (v := (.int c0)) (by rw [e4]; exact Ar7.1) (State.isArrayOf_alike hZ.alike Ar7.2.1) Ar7.2.2 hin7 (H7.at hin7 rfl) (g := (mkF m 31 #[rv va, iv (1 : Int32)] [(.int (0 : Int32)), (.ref va), (.int (0 : Int32)), (.ref b4), (.ref b4), (.ref b1), (.ref b1)])) rfl rfl (hb hby d3_31)) ?_
  clear hin7 G7 H7 N7 S7 q7 Ar7 cl7
  obtain ⟨cl8, Ar8, q8, S8, N8, H8, G8⟩ := id V4
  have hin8 : ¬ ((0 : Int32) < 0 ∨ cl8.slots.size ≤ ((0 : Int32)).toNatClampNeg) := inb_of S8 ⟨by decide, by decide⟩
  obtain ⟨T9, h9, X9, e9, W9, st9⟩ := stC X4 hx hZ e4 Ar8 (j := (0 : Int32)) hin8 (g := (mkF m 32 #[rv va, iv (1 : Int32)] [(.int c0), (.int (0 : Int32)), (.ref b4), (.ref b4), (.ref b1), (.ref b1)])) rfl rfl (hb hby d3_32)
  have V9 : Arv Z h9 b4 k4 .char (1 : Int32) [(.int (nar .char c0))] (.int (0 : Int32)) := Arv.set Ar8 q8 S8 N8 H8 G8 (fits_nar_char _) W9 0 rfl (Nat.le_of_ble_eq_true rfl)
  have Vn9 : Arv Z h9 b4 k4 .char (1 : Int32) [(.int c0)] (.int (0 : Int32)) := by simpa only [own_ncR hr0] using V9
  have Nx9 := Fr.snoc X9 N0 fr4
  refine own_st (T' := T9) (g' := (mkF m 33 #[rv va, iv (1 : Int32)] [(.ref b4), (.ref b1), (.ref b1)])) st9 ?_
  clear hin8 G8 H8 N8 S8 q8 Ar8 cl8 st9
  by_cases hl : own_nd1 c0 = (1 : Int32)
  · have ha := own_ndA1 hl
    have f10 := A1.ext E4
    have f11 := f10.wr W9
    have f12 := F1_value.ext E4
    have ne13 : b1 ≠ b4 := Nat.ne_of_lt (Nat.lt_of_lt_of_le A1.lt (Nat.le_of_eq g4.symm))
    have f14 := f12.other W9 (Or.inl ne13)
    have f15 := F1_coder.ext E4
    have f16 := f15.other W9 (Or.inl ne13)
    have f17 := f2.ext E4
    have f18 := f17.wr W9 fr4
    have f19 := f3.ext E4
    have f20 := f19.wr W9 (Or.inr sz4)
    obtain ⟨_, T21, L21, X21, hQ21, st21⟩ := own_callI X9 hx (y := own_m13) rfl hown (mvT hZ (wd hw 18 rfl)) (mvT hZ (wd hw 19 rfl)) (mvT hZ (wd hw 20 rfl)) (by decide) (backOf (W := 1) (rm_ini1_1 l Z a0 hw [] b1 b4 k4 cz c0 h9 n0 f18 f11 f14 f16 fr1 Vn9 SC hcz ha.1) hZ (wd hw 20 rfl) (wd hw 17 rfl) (by decide) (by decide)) (g := (mkF m 33 #[rv va, iv (1 : Int32)] [(.ref b4), (.ref b1), (.ref b1)])) rfl (by rw [hml]; rfl) (a := b1) (argsL := [(.ref b4)]) (rest := [(.ref b1)]) (lenOf pd___C_V rfl) rfl (by show 2 * 0 + _ ≤ _; exact Nat.le_of_eq rfl) (hb hby d3_33) rfl e9 (by decide) (by decide) (c' := 3) (s' := 6) rfl rfl
    obtain ⟨t21, kb21, rfl, Nq21, K21, fq21_0, fq21_1, fq21_2, fq21_3, xq21_fresh_t⟩ := hQ21
    have N21 := Fr.app Nx9 Nq21
    refine own_st (T' := T21) (g' := (mkF m 36 #[rv va, iv (1 : Int32)] [(.ref b1)])) st21 ?_
    clear st21
    have f22 := f20.trans K21 (allS (Or.inr sz1) all0)
    exact own_retA X21 hx hret rfl rfl hlk (hb hby d3_36) (by decide) (by decide) ⟨b1, rfl, N21, f22, fq21_0, ⟨t21, kb21, fq21_2, Or.inl ⟨fq21_1, fq21_3, (own_aS ⟨hr0.1, ha.1⟩ own_a0)⟩⟩⟩
  · have f23 := A1.ext E4
    have f24 := f23.wr W9
    have f25 := F1_value.ext E4
    have ne26 : b1 ≠ b4 := Nat.ne_of_lt (Nat.lt_of_lt_of_le A1.lt (Nat.le_of_eq g4.symm))
    have f27 := f25.other W9 (Or.inl ne26)
    have f28 := F1_coder.ext E4
    have f29 := f28.other W9 (Or.inl ne26)
    have f30 := f2.ext E4
    have f31 := f30.wr W9 fr4
    have f32 := f3.ext E4
    have f33 := f32.wr W9 (Or.inr sz4)
    obtain ⟨_, T34, L34, X34, hQ34, st34⟩ := own_callI X9 hx (y := own_m13) rfl hown (mvT hZ (wd hw 18 rfl)) (mvT hZ (wd hw 19 rfl)) (mvT hZ (wd hw 20 rfl)) (by decide) (backOf (W := 1) (rm_in1u_1 l Z a0 hw [] b1 b4 k4 cz c0 h9 n0 f31 f24 f27 f29 fr1 Vn9 SC hcz hr0 hl SA SHI SLO) hZ (wd hw 20 rfl) (wd hw 17 rfl) (by decide) (by decide)) (g := (mkF m 33 #[rv va, iv (1 : Int32)] [(.ref b4), (.ref b1), (.ref b1)])) rfl (by rw [hml]; rfl) (a := b1) (argsL := [(.ref b4)]) (rest := [(.ref b1)]) (lenOf pd___C_V rfl) rfl (by show 2 * 0 + _ ≤ _; exact Nat.le_of_eq rfl) (hb hby d3_33) rfl e9 (by decide) (by decide) (c' := 4) (s' := 8) rfl rfl
    obtain ⟨t34, kb34, rfl, Nq34, K34, fq34_0, fq34_1, fq34_2, fq34_3, xq34_fresh_t⟩ := hQ34
    have N34 := Fr.app Nx9 Nq34
    refine own_st (T' := T34) (g' := (mkF m 36 #[rv va, iv (1 : Int32)] [(.ref b1)])) st34 ?_
    clear st34
    have f35 := f33.trans K34 (allS (Or.inr sz1) all0)
    exact own_retA X34 hx hret rfl rfl hlk (hb hby d3_36) (by decide) (by decide) ⟨b1, rfl, N34, f35, fq34_0, ⟨t34, kb34, fq34_2, Or.inr ⟨fq34_1, fq34_3, (own_aS hr0 own_a0)⟩⟩⟩
theorem d3_37 : decode method_6_code 37 = .ok (.iload_n 1, 1) := by decide +kernel
theorem d3_38 : decode method_6_code 38 = .ok (.iconst 2, 1) := by decide +kernel
theorem d3_39 : decode method_6_code 39 = .ok (.if_icmp .ne 26, 3) := by decide +kernel
theorem d3_42 : decode method_6_code 42 = .ok (.new 21, 3) := by decide +kernel
theorem d3_45 : decode method_6_code 45 = .ok (.dup, 1) := by decide +kernel
theorem d3_46 : decode method_6_code 46 = .ok (.iconst 2, 1) := by decide +kernel
theorem d3_47 : decode method_6_code 47 = .ok (.newarray .char, 2) := by decide +kernel
theorem d3_49 : decode method_6_code 49 = .ok (.dup, 1) := by decide +kernel
theorem d3_50 : decode method_6_code 50 = .ok (.iconst 0, 1) := by decide +kernel
theorem d3_51 : decode method_6_code 51 = .ok (.aload_n 0, 1) := by decide +kernel
theorem d3_52 : decode method_6_code 52 = .ok (.iconst 0, 1) := by decide +kernel
theorem d3_53 : decode method_6_code 53 = .ok (.caload, 1) := by decide +kernel
theorem d3_54 : decode method_6_code 54 = .ok (.castore, 1) := by decide +kernel
theorem d3_55 : decode method_6_code 55 = .ok (.dup, 1) := by decide +kernel
theorem d3_56 : decode method_6_code 56 = .ok (.iconst 1, 1) := by decide +kernel
theorem d3_57 : decode method_6_code 57 = .ok (.aload_n 0, 1) := by decide +kernel
theorem d3_58 : decode method_6_code 58 = .ok (.iconst 1, 1) := by decide +kernel
theorem d3_59 : decode method_6_code 59 = .ok (.caload, 1) := by decide +kernel
theorem d3_60 : decode method_6_code 60 = .ok (.castore, 1) := by decide +kernel
theorem d3_61 : decode method_6_code 61 = .ok (.invokespecial 23, 3) := by decide +kernel
theorem d3_64 : decode method_6_code 64 = .ok (.areturn, 1) := by decide +kernel
theorem ef_str2 (m : MethodId) (x0 : Addr) (x1 : Int32) : entryFrame m #[(.ref x0), (.int x1)] 2 = mkF m 0 #[rv x0, iv x1] [] := by first | (simp [entryFrame, mkF, argsToLocals, Value.category]; done) | rfl
def Q_str2 (Z : State) (va : Addr) (kv : ClassId) (c0 : Int32) (c1 : Int32) (c2 : Int32) (c3 : Int32) (cz : Int32) (h0 : Heap) (n0 : Nat) (v : Option Value) (h : Heap) (L : List Loc) : Prop := ∃ (b : Addr), (v = some (.ref b)) ∧ (Fr n0 L) ∧ (Keep h0 h []) ∧ (Exa Z h b "java/lang/String") ∧ (own_S Z h b [c0, c1])
set_option maxRecDepth 65536 in
set_option maxHeartbeats 40000000 in
theorem rm_str2 (l : Launch) (Z : State) (a0 : Array Value) (hw : ∀ d ∈ tables_1, d.before a0 Z = true) (ws : List Jvm.Cond) (va : Addr) (kv : ClassId) (c0 : Int32) (c1 : Int32) (c2 : Int32) (c3 : Int32) (cz : Int32) (h0 : Heap) (n0 : Nat) (O0 : Old Z n0 h0) (VA : Arv Z h0 va kv .char (4 : Int32) [(.int c0), (.int c1), (.int c2), (.int c3)] (.int (0 : Int32))) (hr0 : own_R c0) (hr1 : own_R c1) (hr2 : own_R c2) (hr3 : own_R c3) (SC : Sta Z Z.heap "java/lang/String" "COMPACT_STRINGS" "Z" (.int cz)) (hcz : ¬ cz = (0 : Int32)) (SA : Sta Z Z.heap "java/lang/StringUTF16" "$assertionsDisabled" "Z" (.int (1 : Int32))) (SHI : Sta Z Z.heap "java/lang/StringUTF16" "HI_BYTE_SHIFT" "I" (.int (0 : Int32))) (SLO : Sta Z Z.heap "java/lang/StringUTF16" "LO_BYTE_SHIFT" "I" (.int (8 : Int32))) :
    own_MF l own_m28 (Jvm.Cond.code own_m28 method_6_code 2 (some (.object "java/lang/String")) :: ws) ({ frames := 6, cells := 4, slots := 12, locals := 88 } : Room) #[(.ref va), (.int (2 : Int32))] Z h0 (Q_str2 Z va kv c0 c1 c2 c3 cz h0 n0) := by
  refine own_met (own := "com/example/countersign/countersign/scheme/Utf8HasFormPinLaw") (nme := "str") rfl rfl (plainFor_of_name pn_5) ?_
  intro p e s m below meth c s₁ hx hby hml hown hnm X0 e0 hret hlk hZ
  have N0 := Fr.nil n0
  rw [ef_str2 m va (2 : Int32)]
  refine own_st (T' := s₁) (g' := (mkF m 1 #[rv va, iv (2 : Int32)] [(.int (2 : Int32))])) (fun _ k_ => XS.iloadN X0.here hx rfl (hb hby d3_0) rfl  k_) ?_
  refine own_st (T' := s₁) (g' := (mkF m 15 #[rv va, iv (2 : Int32)] [])) (fun _ k_ => XS.ifYes X0.here hx rfl (pc0 := 1) (pc' := 15) rfl (hb hby d3_1) rfl ((if0 _ _).trans (feq (by decide : ¬ ((2 : Int32) = (0 : Int32)))).2) (by decide) (by decide) k_) ?_
  refine own_st (T' := s₁) (g' := (mkF m 16 #[rv va, iv (2 : Int32)] [(.int (2 : Int32))])) (fun _ k_ => XS.iloadN X0.here hx rfl (hb hby d3_15) rfl  k_) ?_
  refine own_st (T' := s₁) (g' := (mkF m 17 #[rv va, iv (2 : Int32)] [(.int (1 : Int32)), (.int (2 : Int32))])) (fun _ k_ => XS.iconst X0.here hx rfl (hb hby d3_16) k_) ?_
  refine own_st (T' := s₁) (g' := (mkF m 37 #[rv va, iv (2 : Int32)] [])) (fun _ k_ => XS.icmpYes X0.here hx rfl (pc0 := 17) (pc' := 37) rfl (hb hby d3_17) rfl (feq (by decide : ¬ ((2 : Int32) = (1 : Int32)))).2 (by decide) (by decide) k_) ?_
  refine own_st (T' := s₁) (g' := (mkF m 38 #[rv va, iv (2 : Int32)] [(.int (2 : Int32))])) (fun _ k_ => XS.iloadN X0.here hx rfl (hb hby d3_37) rfl  k_) ?_
  refine own_st (T' := s₁) (g' := (mkF m 39 #[rv va, iv (2 : Int32)] [(.int (2 : Int32)), (.int (2 : Int32))])) (fun _ k_ => XS.iconst X0.here hx rfl (hb hby d3_38) k_) ?_
  refine own_st (T' := s₁) (g' := (mkF m 42 #[rv va, iv (2 : Int32)] [])) (fun _ k_ => XS.icmpNo X0.here hx rfl (hb hby d3_39) rfl (teq (rfl : (2 : Int32) = (2 : Int32))).2 k_) ?_
  obtain ⟨T1, h1, X1, e1, E1, A1, D1, -, st1⟩ := newO X0 hx hZ hown (wd hw 15 rfl) (wd hw 16 rfl) (wd hw 17 rfl) e0 (g := (mkF m 42 #[rv va, iv (2 : Int32)] [])) rfl (hb hby d3_42) (by decide) (by decide)
  obtain ⟨b1, g1⟩ : ∃ z, z = h0.size := ⟨_, rfl⟩
  rw [← g1] at A1 D1 st1
  have fr1 : n0 ≤ b1 := Nat.le_trans (own_z O0) (Nat.le_of_eq g1.symm)
  have sz1 : h0.size ≤ b1 := Nat.le_trans (Keep.refl h0 []).1 (Nat.le_of_eq g1.symm)
  have F1_value : Fld Z h1 b1 "java/lang/String" "value" "[B" .null := D1 (Or.inr (wd hw 30 rfl)) (ty := (.array .byte)) (by decide)
  have F1_coder : Fld Z h1 b1 "java/lang/String" "coder" "B" (.int (0 : Int32)) := D1 (Or.inr (wd hw 31 rfl)) (ty := .byte) (by decide)
  refine own_st (T' := T1) (g' := (mkF m 45 #[rv va, iv (2 : Int32)] [(.ref b1)])) st1 ?_
  clear st1
  refine own_st (T' := T1) (g' := (mkF m 46 #[rv va, iv (2 : Int32)] [(.ref b1), (.ref b1)])) (fun _ k_ => XS.dup X1.here hx rfl (hb hby d3_45) rfl rfl k_) ?_
  refine own_st (T' := T1) (g' := (mkF m 47 #[rv va, iv (2 : Int32)] [(.int (2 : Int32)), (.ref b1), (.ref b1)])) (fun _ k_ => XS.iconst X1.here hx rfl (hb hby d3_46) k_) ?_
  have f2 := O0.ext E1
  have f3 := (Keep.refl h0 []).ext E1
  obtain ⟨T4, h4, k4, X4, e4, E4, A4, st4⟩ := newP X1 hx hZ (wd hw 1 rfl) e1 (g := (mkF m 47 #[rv va, iv (2 : Int32)] [(.int (2 : Int32)), (.ref b1), (.ref b1)])) rfl (hb hby d3_47) rfl (by decide) (cap := 2) (by decide) (by decide) (by decide) (by decide)
  obtain ⟨b4, g4⟩ : ∃ z, z = h1.size := ⟨_, rfl⟩
  rw [← g4] at A4 st4
  have fr4 : n0 ≤ b4 := Nat.le_trans (own_z f2) (Nat.le_of_eq g4.symm)
  have sz4 : h0.size ≤ b4 := Nat.le_trans f3.1 (Nat.le_of_eq g4.symm)
  have V4 : Arv Z h4 b4 k4 .char (2 : Int32) [(.int (0 : Int32)), (.int (0 : Int32))] (.int (0 : Int32)) := (Arv.new A4 (by decide)).pad (pad_rep [] (.int (0 : Int32)) 2)
  refine own_st (T' := T4) (g' := (mkF m 49 #[rv va, iv (2 : Int32)] [(.ref b4), (.ref b1), (.ref b1)])) st4 ?_
  clear st4
  refine own_st (T' := T4) (g' := (mkF m 50 #[rv va, iv (2 : Int32)] [(.ref b4), (.ref b4), (.ref b1), (.ref b1)])) (fun _ k_ => XS.dup X4.here hx rfl (hb hby d3_49) rfl rfl k_) ?_
  refine own_st (T' := T4) (g' := (mkF m 51 #[rv va, iv (2 : Int32)] [(.int (0 : Int32)), (.ref b4), (.ref b4), (.ref b1), (.ref b1)])) (fun _ k_ => XS.iconst X4.here hx rfl (hb hby d3_50) k_) ?_
  refine own_st (T' := T4) (g' := (mkF m 52 #[rv va, iv (2 : Int32)] [(.ref va), (.int (0 : Int32)), (.ref b4), (.ref b4), (.ref b1), (.ref b1)])) (fun _ k_ => XS.aloadN X4.here hx rfl (hb hby d3_51) rfl rfl  k_) ?_
  refine own_st (T' := T4) (g' := (mkF m 53 #[rv va, iv (2 : Int32)] [(.int (0 : Int32)), (.ref va), (.int (0 : Int32)), (.ref b4), (.ref b4), (.ref b1), (.ref b1)])) (fun _ k_ => XS.iconst X4.here hx rfl (hb hby d3_52) k_) ?_
  have f5 := VA.ext E1
  have f6 := f5.ext E4
  obtain ⟨cl7, Ar7, q7, S7, N7, H7, G7⟩ := id f6
  have hin7 : ¬ ((0 : Int32) < 0 ∨ cl7.slots.size ≤ ((0 : Int32)).toNatClampNeg) := inb_of S7 ⟨by decide, by decide⟩
  refine own_st (T' := T4) (g' := (mkF m 54 #[rv va, iv (2 : Int32)] [(.int c0), (.int (0 : Int32)), (.ref b4), (.ref b4), (.ref b1), (.ref b1)])) (X4.caload hx (j := (0 : Int32)) (v := (.int c0)) (by rw [e4]; exact Ar7.1) (State.isArrayOf_alike hZ.alike Ar7.2.1) Ar7.2.2 hin7 (H7.at hin7 rfl) (g := (mkF m 53 #[rv va, iv (2 : Int32)] [(.int (0 : Int32)), (.ref va), (.int (0 : Int32)), (.ref b4), (.ref b4), (.ref b1), (.ref b1)])) rfl rfl (hb hby d3_53)) ?_
  clear hin7 G7 H7 N7 S7 q7 Ar7 cl7
  obtain ⟨cl8, Ar8, q8, S8, N8, H8, G8⟩ := id V4
  have hin8 : ¬ ((0 : Int32) < 0 ∨ cl8.slots.size ≤ ((0 : Int32)).toNatClampNeg) := inb_of S8 ⟨by decide, by decide⟩
  obtain ⟨T9, h9, X9, e9, W9, st9⟩ := stC X4 hx hZ e4 Ar8 (j := (0 : Int32)) hin8 (g := (mkF m 54 #[rv va, iv (2 : Int32)] [(.int c0), (.int (0 : Int32)), (.ref b4), (.ref b4), (.ref b1), (.ref b1)])) rfl rfl (hb hby d3_54)
  have V9 : Arv Z h9 b4 k4 .char (2 : Int32) [(.int (nar .char c0)), (.int (0 : Int32))] (.int (0 : Int32)) := Arv.set Ar8 q8 S8 N8 H8 G8 (fits_nar_char _) W9 0 rfl (Nat.le_of_ble_eq_true rfl)
  have Vn9 : Arv Z h9 b4 k4 .char (2 : Int32) [(.int c0), (.int (0 : Int32))] (.int (0 : Int32)) := by simpa only [own_ncR hr0] using V9
  have Nx9 := Fr.snoc X9 N0 fr4
  refine own_st (T' := T9) (g' := (mkF m 55 #[rv va, iv (2 : Int32)] [(.ref b4), (.ref b1), (.ref b1)])) st9 ?_
  clear hin8 G8 H8 N8 S8 q8 Ar8 cl8 st9
  refine own_st (T' := T9) (g' := (mkF m 56 #[rv va, iv (2 : Int32)] [(.ref b4), (.ref b4), (.ref b1), (.ref b1)])) (fun _ k_ => XS.dup X9.here hx rfl (hb hby d3_55) rfl rfl k_) ?_
  refine own_st (T' := T9) (g' := (mkF m 57 #[rv va, iv (2 : Int32)] [(.int (1 : Int32)), (.ref b4), (.ref b4), (.ref b1), (.ref b1)])) (fun _ k_ => XS.iconst X9.here hx rfl (hb hby d3_56) k_) ?_
  refine own_st (T' := T9) (g' := (mkF m 58 #[rv va, iv (2 : Int32)] [(.ref va), (.int (1 : Int32)), (.ref b4), (.ref b4), (.ref b1), (.ref b1)])) (fun _ k_ => XS.aloadN X9.here hx rfl (hb hby d3_57) rfl rfl  k_) ?_
  refine own_st (T' := T9) (g' := (mkF m 59 #[rv va, iv (2 : Int32)] [(.int (1 : Int32)), (.ref va), (.int (1 : Int32)), (.ref b4), (.ref b4), (.ref b1), (.ref b1)])) (fun _ k_ => XS.iconst X9.here hx rfl (hb hby d3_58) k_) ?_
  have ne10 : va ≠ b4 := Nat.ne_of_lt (Nat.lt_of_lt_of_le (Nat.lt_of_lt_of_le VA.lt E1.1) (Nat.le_of_eq g4.symm))
  have f11 := f6.other W9 ne10
  obtain ⟨cl12, Ar12, q12, S12, N12, H12, G12⟩ := id f11
  have hin12 : ¬ ((1 : Int32) < 0 ∨ cl12.slots.size ≤ ((1 : Int32)).toNatClampNeg) := inb_of S12 ⟨by decide, by decide⟩
  refine own_st (T' := T9) (g' := (mkF m 60 #[rv va, iv (2 : Int32)] [(.int c1), (.int (1 : Int32)), (.ref b4), (.ref b4), (.ref b1), (.ref b1)])) (X9.caload hx (j := (1 : Int32)) (v := (.int c1)) (by rw [e9]; exact Ar12.1) (State.isArrayOf_alike hZ.alike Ar12.2.1) Ar12.2.2 hin12 (H12.at hin12 rfl) (g := (mkF m 59 #[rv va, iv (2 : Int32)] [(.int (1 : Int32)), (.ref va), (.int (1 : Int32)), (.ref b4), (.ref b4), (.ref b1), (.ref b1)])) rfl rfl (hb hby d3_59)) ?_
  clear hin12 G12 H12 N12 S12 q12 Ar12 cl12
  obtain ⟨cl13, Ar13, q13, S13, N13, H13, G13⟩ := id Vn9
  have hin13 : ¬ ((1 : Int32) < 0 ∨ cl13.slots.size ≤ ((1 : Int32)).toNatClampNeg) := inb_of S13 ⟨by decide, by decide⟩
  obtain ⟨T14, h14, X14, e14, W14, st14⟩ := stC X9 hx hZ e9 Ar13 (j := (1 : Int32)) hin13 (g := (mkF m 60 #[rv va, iv (2 : Int32)] [(.int c1), (.int (1 : Int32)), (.ref b4), (.ref b4), (.ref b1), (.ref b1)])) rfl rfl (hb hby d3_60)
  have V14 : Arv Z h14 b4 k4 .char (2 : Int32) [(.int c0), (.int (nar .char c1))] (.int (0 : Int32)) := Arv.set Ar13 q13 S13 N13 H13 G13 (fits_nar_char _) W14 1 rfl (Nat.le_of_ble_eq_true rfl)
  have Vn14 : Arv Z h14 b4 k4 .char (2 : Int32) [(.int c0), (.int c1)] (.int (0 : Int32)) := by simpa only [own_ncR hr1] using V14
  have Nx14 := Fr.snoc X14 Nx9 fr4
  refine own_st (T' := T14) (g' := (mkF m 61 #[rv va, iv (2 : Int32)] [(.ref b4), (.ref b1), (.ref b1)])) st14 ?_
  clear hin13 G13 H13 N13 S13 q13 Ar13 cl13 st14
  by_cases hl : own_nd2 c0 c1 = (2 : Int32)
  · have ha := own_ndA2 hl
    have f15 := A1.ext E4
    have f16 := f15.wr W9
    have f17 := f16.wr W14
    have f18 := F1_value.ext E4
    have ne19 : b1 ≠ b4 := Nat.ne_of_lt (Nat.lt_of_lt_of_le A1.lt (Nat.le_of_eq g4.symm))
    have f20 := f18.other W9 (Or.inl ne19)
    have f21 := f20.other W14 (Or.inl ne19)
    have f22 := F1_coder.ext E4
    have f23 := f22.other W9 (Or.inl ne19)
    have f24 := f23.other W14 (Or.inl ne19)
    have f25 := f2.ext E4
    have f26 := f25.wr W9 fr4
    have f27 := f26.wr W14 fr4
    have f28 := f3.ext E4
    have f29 := f28.wr W9 (Or.inr sz4)
    have f30 := f29.wr W14 (Or.inr sz4)
    obtain ⟨_, T31, L31, X31, hQ31, st31⟩ := own_callI X14 hx (y := own_m13) rfl hown (mvT hZ (wd hw 18 rfl)) (mvT hZ (wd hw 19 rfl)) (mvT hZ (wd hw 20 rfl)) (by decide) (backOf (W := 1) (rm_ini1_2 l Z a0 hw [] b1 b4 k4 cz c0 c1 h14 n0 f27 f17 f21 f24 fr1 Vn14 SC hcz ha.1 ha.2.1) hZ (wd hw 20 rfl) (wd hw 17 rfl) (by decide) (by decide)) (g := (mkF m 61 #[rv va, iv (2 : Int32)] [(.ref b4), (.ref b1), (.ref b1)])) rfl (by rw [hml]; rfl) (a := b1) (argsL := [(.ref b4)]) (rest := [(.ref b1)]) (lenOf pd___C_V rfl) rfl (by show 2 * 0 + _ ≤ _; exact Nat.le_of_eq rfl) (hb hby d3_61) rfl e14 (by decide) (by decide) (c' := 3) (s' := 8) rfl rfl
    obtain ⟨t31, kb31, rfl, Nq31, K31, fq31_0, fq31_1, fq31_2, fq31_3, xq31_fresh_t⟩ := hQ31
    have N31 := Fr.app Nx14 Nq31
    refine own_st (T' := T31) (g' := (mkF m 64 #[rv va, iv (2 : Int32)] [(.ref b1)])) st31 ?_
    clear st31
    have f32 := f30.trans K31 (allS (Or.inr sz1) all0)
    exact own_retA X31 hx hret rfl rfl hlk (hb hby d3_64) (by decide) (by decide) ⟨b1, rfl, N31, f32, fq31_0, ⟨t31, kb31, fq31_2, Or.inl ⟨fq31_1, fq31_3, (own_aS ⟨hr0.1, ha.1⟩ (own_aS ⟨hr1.1, ha.2.1⟩ own_a0))⟩⟩⟩
  · have f33 := A1.ext E4
    have f34 := f33.wr W9
    have f35 := f34.wr W14
    have f36 := F1_value.ext E4
    have ne37 : b1 ≠ b4 := Nat.ne_of_lt (Nat.lt_of_lt_of_le A1.lt (Nat.le_of_eq g4.symm))
    have f38 := f36.other W9 (Or.inl ne37)
    have f39 := f38.other W14 (Or.inl ne37)
    have f40 := F1_coder.ext E4
    have f41 := f40.other W9 (Or.inl ne37)
    have f42 := f41.other W14 (Or.inl ne37)
    have f43 := f2.ext E4
    have f44 := f43.wr W9 fr4
    have f45 := f44.wr W14 fr4
    have f46 := f3.ext E4
    have f47 := f46.wr W9 (Or.inr sz4)
    have f48 := f47.wr W14 (Or.inr sz4)
    obtain ⟨_, T49, L49, X49, hQ49, st49⟩ := own_callI X14 hx (y := own_m13) rfl hown (mvT hZ (wd hw 18 rfl)) (mvT hZ (wd hw 19 rfl)) (mvT hZ (wd hw 20 rfl)) (by decide) (backOf (W := 1) (rm_in1u_2 l Z a0 hw [] b1 b4 k4 cz c0 c1 h14 n0 f45 f35 f39 f42 fr1 Vn14 SC hcz hr0 hr1 hl SA SHI SLO) hZ (wd hw 20 rfl) (wd hw 17 rfl) (by decide) (by decide)) (g := (mkF m 61 #[rv va, iv (2 : Int32)] [(.ref b4), (.ref b1), (.ref b1)])) rfl (by rw [hml]; rfl) (a := b1) (argsL := [(.ref b4)]) (rest := [(.ref b1)]) (lenOf pd___C_V rfl) rfl (by show 2 * 0 + _ ≤ _; exact Nat.le_of_eq rfl) (hb hby d3_61) rfl e14 (by decide) (by decide) (c' := 4) (s' := 12) rfl rfl
    obtain ⟨t49, kb49, rfl, Nq49, K49, fq49_0, fq49_1, fq49_2, fq49_3, xq49_fresh_t⟩ := hQ49
    have N49 := Fr.app Nx14 Nq49
    refine own_st (T' := T49) (g' := (mkF m 64 #[rv va, iv (2 : Int32)] [(.ref b1)])) st49 ?_
    clear st49
    have f50 := f48.trans K49 (allS (Or.inr sz1) all0)
    exact own_retA X49 hx hret rfl rfl hlk (hb hby d3_64) (by decide) (by decide) ⟨b1, rfl, N49, f50, fq49_0, ⟨t49, kb49, fq49_2, Or.inr ⟨fq49_1, fq49_3, (own_aS hr0 (own_aS hr1 own_a0))⟩⟩⟩
theorem d3_65 : decode method_6_code 65 = .ok (.iload_n 1, 1) := by decide +kernel
theorem d3_66 : decode method_6_code 66 = .ok (.iconst 3, 1) := by decide +kernel
theorem d3_67 : decode method_6_code 67 = .ok (.if_icmp .ne 32, 3) := by decide +kernel
theorem d3_70 : decode method_6_code 70 = .ok (.new 21, 3) := by decide +kernel
theorem d3_73 : decode method_6_code 73 = .ok (.dup, 1) := by decide +kernel
theorem d3_74 : decode method_6_code 74 = .ok (.iconst 3, 1) := by decide +kernel
theorem d3_75 : decode method_6_code 75 = .ok (.newarray .char, 2) := by decide +kernel
theorem d3_77 : decode method_6_code 77 = .ok (.dup, 1) := by decide +kernel
theorem d3_78 : decode method_6_code 78 = .ok (.iconst 0, 1) := by decide +kernel
theorem d3_79 : decode method_6_code 79 = .ok (.aload_n 0, 1) := by decide +kernel
theorem d3_80 : decode method_6_code 80 = .ok (.iconst 0, 1) := by decide +kernel
theorem d3_81 : decode method_6_code 81 = .ok (.caload, 1) := by decide +kernel
theorem d3_82 : decode method_6_code 82 = .ok (.castore, 1) := by decide +kernel
theorem d3_83 : decode method_6_code 83 = .ok (.dup, 1) := by decide +kernel
theorem d3_84 : decode method_6_code 84 = .ok (.iconst 1, 1) := by decide +kernel
theorem d3_85 : decode method_6_code 85 = .ok (.aload_n 0, 1) := by decide +kernel
theorem d3_86 : decode method_6_code 86 = .ok (.iconst 1, 1) := by decide +kernel
theorem d3_87 : decode method_6_code 87 = .ok (.caload, 1) := by decide +kernel
theorem d3_88 : decode method_6_code 88 = .ok (.castore, 1) := by decide +kernel
theorem d3_89 : decode method_6_code 89 = .ok (.dup, 1) := by decide +kernel
theorem d3_90 : decode method_6_code 90 = .ok (.iconst 2, 1) := by decide +kernel
theorem d3_91 : decode method_6_code 91 = .ok (.aload_n 0, 1) := by decide +kernel
theorem d3_92 : decode method_6_code 92 = .ok (.iconst 2, 1) := by decide +kernel
theorem d3_93 : decode method_6_code 93 = .ok (.caload, 1) := by decide +kernel
theorem d3_94 : decode method_6_code 94 = .ok (.castore, 1) := by decide +kernel
theorem d3_95 : decode method_6_code 95 = .ok (.invokespecial 23, 3) := by decide +kernel
theorem d3_98 : decode method_6_code 98 = .ok (.areturn, 1) := by decide +kernel
theorem ef_str3 (m : MethodId) (x0 : Addr) (x1 : Int32) : entryFrame m #[(.ref x0), (.int x1)] 2 = mkF m 0 #[rv x0, iv x1] [] := by first | (simp [entryFrame, mkF, argsToLocals, Value.category]; done) | rfl
def Q_str3 (Z : State) (va : Addr) (kv : ClassId) (c0 : Int32) (c1 : Int32) (c2 : Int32) (c3 : Int32) (cz : Int32) (h0 : Heap) (n0 : Nat) (v : Option Value) (h : Heap) (L : List Loc) : Prop := ∃ (b : Addr), (v = some (.ref b)) ∧ (Fr n0 L) ∧ (Keep h0 h []) ∧ (Exa Z h b "java/lang/String") ∧ (own_S Z h b [c0, c1, c2])
set_option maxRecDepth 65536 in
set_option maxHeartbeats 40000000 in
theorem rm_str3 (l : Launch) (Z : State) (a0 : Array Value) (hw : ∀ d ∈ tables_1, d.before a0 Z = true) (ws : List Jvm.Cond) (va : Addr) (kv : ClassId) (c0 : Int32) (c1 : Int32) (c2 : Int32) (c3 : Int32) (cz : Int32) (h0 : Heap) (n0 : Nat) (O0 : Old Z n0 h0) (VA : Arv Z h0 va kv .char (4 : Int32) [(.int c0), (.int c1), (.int c2), (.int c3)] (.int (0 : Int32))) (hr0 : own_R c0) (hr1 : own_R c1) (hr2 : own_R c2) (hr3 : own_R c3) (SC : Sta Z Z.heap "java/lang/String" "COMPACT_STRINGS" "Z" (.int cz)) (hcz : ¬ cz = (0 : Int32)) (SA : Sta Z Z.heap "java/lang/StringUTF16" "$assertionsDisabled" "Z" (.int (1 : Int32))) (SHI : Sta Z Z.heap "java/lang/StringUTF16" "HI_BYTE_SHIFT" "I" (.int (0 : Int32))) (SLO : Sta Z Z.heap "java/lang/StringUTF16" "LO_BYTE_SHIFT" "I" (.int (8 : Int32))) :
    own_MF l own_m28 (Jvm.Cond.code own_m28 method_6_code 2 (some (.object "java/lang/String")) :: ws) ({ frames := 6, cells := 4, slots := 16, locals := 88 } : Room) #[(.ref va), (.int (3 : Int32))] Z h0 (Q_str3 Z va kv c0 c1 c2 c3 cz h0 n0) := by
  refine own_met (own := "com/example/countersign/countersign/scheme/Utf8HasFormPinLaw") (nme := "str") rfl rfl (plainFor_of_name pn_5) ?_
  intro p e s m below meth c s₁ hx hby hml hown hnm X0 e0 hret hlk hZ
  have N0 := Fr.nil n0
  rw [ef_str3 m va (3 : Int32)]
  refine own_st (T' := s₁) (g' := (mkF m 1 #[rv va, iv (3 : Int32)] [(.int (3 : Int32))])) (fun _ k_ => XS.iloadN X0.here hx rfl (hb hby d3_0) rfl  k_) ?_
  refine own_st (T' := s₁) (g' := (mkF m 15 #[rv va, iv (3 : Int32)] [])) (fun _ k_ => XS.ifYes X0.here hx rfl (pc0 := 1) (pc' := 15) rfl (hb hby d3_1) rfl ((if0 _ _).trans (feq (by decide : ¬ ((3 : Int32) = (0 : Int32)))).2) (by decide) (by decide) k_) ?_
  refine own_st (T' := s₁) (g' := (mkF m 16 #[rv va, iv (3 : Int32)] [(.int (3 : Int32))])) (fun _ k_ => XS.iloadN X0.here hx rfl (hb hby d3_15) rfl  k_) ?_
  refine own_st (T' := s₁) (g' := (mkF m 17 #[rv va, iv (3 : Int32)] [(.int (1 : Int32)), (.int (3 : Int32))])) (fun _ k_ => XS.iconst X0.here hx rfl (hb hby d3_16) k_) ?_
  refine own_st (T' := s₁) (g' := (mkF m 37 #[rv va, iv (3 : Int32)] [])) (fun _ k_ => XS.icmpYes X0.here hx rfl (pc0 := 17) (pc' := 37) rfl (hb hby d3_17) rfl (feq (by decide : ¬ ((3 : Int32) = (1 : Int32)))).2 (by decide) (by decide) k_) ?_
  refine own_st (T' := s₁) (g' := (mkF m 38 #[rv va, iv (3 : Int32)] [(.int (3 : Int32))])) (fun _ k_ => XS.iloadN X0.here hx rfl (hb hby d3_37) rfl  k_) ?_
  refine own_st (T' := s₁) (g' := (mkF m 39 #[rv va, iv (3 : Int32)] [(.int (2 : Int32)), (.int (3 : Int32))])) (fun _ k_ => XS.iconst X0.here hx rfl (hb hby d3_38) k_) ?_
  refine own_st (T' := s₁) (g' := (mkF m 65 #[rv va, iv (3 : Int32)] [])) (fun _ k_ => XS.icmpYes X0.here hx rfl (pc0 := 39) (pc' := 65) rfl (hb hby d3_39) rfl (feq (by decide : ¬ ((3 : Int32) = (2 : Int32)))).2 (by decide) (by decide) k_) ?_
  refine own_st (T' := s₁) (g' := (mkF m 66 #[rv va, iv (3 : Int32)] [(.int (3 : Int32))])) (fun _ k_ => XS.iloadN X0.here hx rfl (hb hby d3_65) rfl  k_) ?_
  refine own_st (T' := s₁) (g' := (mkF m 67 #[rv va, iv (3 : Int32)] [(.int (3 : Int32)), (.int (3 : Int32))])) (fun _ k_ => XS.iconst X0.here hx rfl (hb hby d3_66) k_) ?_
  refine own_st (T' := s₁) (g' := (mkF m 70 #[rv va, iv (3 : Int32)] [])) (fun _ k_ => XS.icmpNo X0.here hx rfl (hb hby d3_67) rfl (teq (rfl : (3 : Int32) = (3 : Int32))).2 k_) ?_
  obtain ⟨T1, h1, X1, e1, E1, A1, D1, -, st1⟩ := newO X0 hx hZ hown (wd hw 15 rfl) (wd hw 16 rfl) (wd hw 17 rfl) e0 (g := (mkF m 70 #[rv va, iv (3 : Int32)] [])) rfl (hb hby d3_70) (by decide) (by decide)
  obtain ⟨b1, g1⟩ : ∃ z, z = h0.size := ⟨_, rfl⟩
  rw [← g1] at A1 D1 st1
  have fr1 : n0 ≤ b1 := Nat.le_trans (own_z O0) (Nat.le_of_eq g1.symm)
  have sz1 : h0.size ≤ b1 := Nat.le_trans (Keep.refl h0 []).1 (Nat.le_of_eq g1.symm)
  have F1_value : Fld Z h1 b1 "java/lang/String" "value" "[B" .null := D1 (Or.inr (wd hw 30 rfl)) (ty := (.array .byte)) (by decide)
  have F1_coder : Fld Z h1 b1 "java/lang/String" "coder" "B" (.int (0 : Int32)) := D1 (Or.inr (wd hw 31 rfl)) (ty := .byte) (by decide)
  refine own_st (T' := T1) (g' := (mkF m 73 #[rv va, iv (3 : Int32)] [(.ref b1)])) st1 ?_
  clear st1
  refine own_st (T' := T1) (g' := (mkF m 74 #[rv va, iv (3 : Int32)] [(.ref b1), (.ref b1)])) (fun _ k_ => XS.dup X1.here hx rfl (hb hby d3_73) rfl rfl k_) ?_
  refine own_st (T' := T1) (g' := (mkF m 75 #[rv va, iv (3 : Int32)] [(.int (3 : Int32)), (.ref b1), (.ref b1)])) (fun _ k_ => XS.iconst X1.here hx rfl (hb hby d3_74) k_) ?_
  have f2 := O0.ext E1
  have f3 := (Keep.refl h0 []).ext E1
  obtain ⟨T4, h4, k4, X4, e4, E4, A4, st4⟩ := newP X1 hx hZ (wd hw 1 rfl) e1 (g := (mkF m 75 #[rv va, iv (3 : Int32)] [(.int (3 : Int32)), (.ref b1), (.ref b1)])) rfl (hb hby d3_75) rfl (by decide) (cap := 3) (by decide) (by decide) (by decide) (by decide)
  obtain ⟨b4, g4⟩ : ∃ z, z = h1.size := ⟨_, rfl⟩
  rw [← g4] at A4 st4
  have fr4 : n0 ≤ b4 := Nat.le_trans (own_z f2) (Nat.le_of_eq g4.symm)
  have sz4 : h0.size ≤ b4 := Nat.le_trans f3.1 (Nat.le_of_eq g4.symm)
  have V4 : Arv Z h4 b4 k4 .char (3 : Int32) [(.int (0 : Int32)), (.int (0 : Int32)), (.int (0 : Int32))] (.int (0 : Int32)) := (Arv.new A4 (by decide)).pad (pad_rep [] (.int (0 : Int32)) 3)
  refine own_st (T' := T4) (g' := (mkF m 77 #[rv va, iv (3 : Int32)] [(.ref b4), (.ref b1), (.ref b1)])) st4 ?_
  clear st4
  refine own_st (T' := T4) (g' := (mkF m 78 #[rv va, iv (3 : Int32)] [(.ref b4), (.ref b4), (.ref b1), (.ref b1)])) (fun _ k_ => XS.dup X4.here hx rfl (hb hby d3_77) rfl rfl k_) ?_
  refine own_st (T' := T4) (g' := (mkF m 79 #[rv va, iv (3 : Int32)] [(.int (0 : Int32)), (.ref b4), (.ref b4), (.ref b1), (.ref b1)])) (fun _ k_ => XS.iconst X4.here hx rfl (hb hby d3_78) k_) ?_
  refine own_st (T' := T4) (g' := (mkF m 80 #[rv va, iv (3 : Int32)] [(.ref va), (.int (0 : Int32)), (.ref b4), (.ref b4), (.ref b1), (.ref b1)])) (fun _ k_ => XS.aloadN X4.here hx rfl (hb hby d3_79) rfl rfl  k_) ?_
  refine own_st (T' := T4) (g' := (mkF m 81 #[rv va, iv (3 : Int32)] [(.int (0 : Int32)), (.ref va), (.int (0 : Int32)), (.ref b4), (.ref b4), (.ref b1), (.ref b1)])) (fun _ k_ => XS.iconst X4.here hx rfl (hb hby d3_80) k_) ?_
  have f5 := VA.ext E1
  have f6 := f5.ext E4
  obtain ⟨cl7, Ar7, q7, S7, N7, H7, G7⟩ := id f6
  have hin7 : ¬ ((0 : Int32) < 0 ∨ cl7.slots.size ≤ ((0 : Int32)).toNatClampNeg) := inb_of S7 ⟨by decide, by decide⟩
  refine own_st (T' := T4) (g' := (mkF m 82 #[rv va, iv (3 : Int32)] [(.int c0), (.int (0 : Int32)), (.ref b4), (.ref b4), (.ref b1), (.ref b1)])) (X4.caload hx (j := (0 : Int32)) (v := (.int c0)) (by rw [e4]; exact Ar7.1) (State.isArrayOf_alike hZ.alike Ar7.2.1) Ar7.2.2 hin7 (H7.at hin7 rfl) (g := (mkF m 81 #[rv va, iv (3 : Int32)] [(.int (0 : Int32)), (.ref va), (.int (0 : Int32)), (.ref b4), (.ref b4), (.ref b1), (.ref b1)])) rfl rfl (hb hby d3_81)) ?_
  clear hin7 G7 H7 N7 S7 q7 Ar7 cl7
  obtain ⟨cl8, Ar8, q8, S8, N8, H8, G8⟩ := id V4
  have hin8 : ¬ ((0 : Int32) < 0 ∨ cl8.slots.size ≤ ((0 : Int32)).toNatClampNeg) := inb_of S8 ⟨by decide, by decide⟩
  obtain ⟨T9, h9, X9, e9, W9, st9⟩ := stC X4 hx hZ e4 Ar8 (j := (0 : Int32)) hin8 (g := (mkF m 82 #[rv va, iv (3 : Int32)] [(.int c0), (.int (0 : Int32)), (.ref b4), (.ref b4), (.ref b1), (.ref b1)])) rfl rfl (hb hby d3_82)
  have V9 : Arv Z h9 b4 k4 .char (3 : Int32) [(.int (nar .char c0)), (.int (0 : Int32)), (.int (0 : Int32))] (.int (0 : Int32)) := Arv.set Ar8 q8 S8 N8 H8 G8 (fits_nar_char _) W9 0 rfl (Nat.le_of_ble_eq_true rfl)
  have Vn9 : Arv Z h9 b4 k4 .char (3 : Int32) [(.int c0), (.int (0 : Int32)), (.int (0 : Int32))] (.int (0 : Int32)) := by simpa only [own_ncR hr0] using V9
  have Nx9 := Fr.snoc X9 N0 fr4
  refine own_st (T' := T9) (g' := (mkF m 83 #[rv va, iv (3 : Int32)] [(.ref b4), (.ref b1), (.ref b1)])) st9 ?_
  clear hin8 G8 H8 N8 S8 q8 Ar8 cl8 st9
  refine own_st (T' := T9) (g' := (mkF m 84 #[rv va, iv (3 : Int32)] [(.ref b4), (.ref b4), (.ref b1), (.ref b1)])) (fun _ k_ => XS.dup X9.here hx rfl (hb hby d3_83) rfl rfl k_) ?_
  refine own_st (T' := T9) (g' := (mkF m 85 #[rv va, iv (3 : Int32)] [(.int (1 : Int32)), (.ref b4), (.ref b4), (.ref b1), (.ref b1)])) (fun _ k_ => XS.iconst X9.here hx rfl (hb hby d3_84) k_) ?_
  refine own_st (T' := T9) (g' := (mkF m 86 #[rv va, iv (3 : Int32)] [(.ref va), (.int (1 : Int32)), (.ref b4), (.ref b4), (.ref b1), (.ref b1)])) (fun _ k_ => XS.aloadN X9.here hx rfl (hb hby d3_85) rfl rfl  k_) ?_
  refine own_st (T' := T9) (g' := (mkF m 87 #[rv va, iv (3 : Int32)] [(.int (1 : Int32)), (.ref va), (.int (1 : Int32)), (.ref b4), (.ref b4), (.ref b1), (.ref b1)])) (fun _ k_ => XS.iconst X9.here hx rfl (hb hby d3_86) k_) ?_
  have ne10 : va ≠ b4 := Nat.ne_of_lt (Nat.lt_of_lt_of_le (Nat.lt_of_lt_of_le VA.lt E1.1) (Nat.le_of_eq g4.symm))
  have f11 := f6.other W9 ne10
  obtain ⟨cl12, Ar12, q12, S12, N12, H12, G12⟩ := id f11
  have hin12 : ¬ ((1 : Int32) < 0 ∨ cl12.slots.size ≤ ((1 : Int32)).toNatClampNeg) := inb_of S12 ⟨by decide, by decide⟩
  refine own_st (T' := T9) (g' := (mkF m 88 #[rv va, iv (3 : Int32)] [(.int c1), (.int (1 : Int32)), (.ref b4), (.ref b4), (.ref b1), (.ref b1)])) (X9.caload hx (j := (1 : Int32)) (v := (.int c1)) (by rw [e9]; exact Ar12.1) (State.isArrayOf_alike hZ.alike Ar12.2.1) Ar12.2.2 hin12 (H12.at hin12 rfl) (g := (mkF m 87 #[rv va, iv (3 : Int32)] [(.int (1 : Int32)), (.ref va), (.int (1 : Int32)), (.ref b4), (.ref b4), (.ref b1), (.ref b1)])) rfl rfl (hb hby d3_87)) ?_
  clear hin12 G12 H12 N12 S12 q12 Ar12 cl12
  obtain ⟨cl13, Ar13, q13, S13, N13, H13, G13⟩ := id Vn9
  have hin13 : ¬ ((1 : Int32) < 0 ∨ cl13.slots.size ≤ ((1 : Int32)).toNatClampNeg) := inb_of S13 ⟨by decide, by decide⟩
  obtain ⟨T14, h14, X14, e14, W14, st14⟩ := stC X9 hx hZ e9 Ar13 (j := (1 : Int32)) hin13 (g := (mkF m 88 #[rv va, iv (3 : Int32)] [(.int c1), (.int (1 : Int32)), (.ref b4), (.ref b4), (.ref b1), (.ref b1)])) rfl rfl (hb hby d3_88)
  have V14 : Arv Z h14 b4 k4 .char (3 : Int32) [(.int c0), (.int (nar .char c1)), (.int (0 : Int32))] (.int (0 : Int32)) := Arv.set Ar13 q13 S13 N13 H13 G13 (fits_nar_char _) W14 1 rfl (Nat.le_of_ble_eq_true rfl)
  have Vn14 : Arv Z h14 b4 k4 .char (3 : Int32) [(.int c0), (.int c1), (.int (0 : Int32))] (.int (0 : Int32)) := by simpa only [own_ncR hr1] using V14
  have Nx14 := Fr.snoc X14 Nx9 fr4
  refine own_st (T' := T14) (g' := (mkF m 89 #[rv va, iv (3 : Int32)] [(.ref b4), (.ref b1), (.ref b1)])) st14 ?_
  clear hin13 G13 H13 N13 S13 q13 Ar13 cl13 st14
  refine own_st (T' := T14) (g' := (mkF m 90 #[rv va, iv (3 : Int32)] [(.ref b4), (.ref b4), (.ref b1), (.ref b1)])) (fun _ k_ => XS.dup X14.here hx rfl (hb hby d3_89) rfl rfl k_) ?_
  refine own_st (T' := T14) (g' := (mkF m 91 #[rv va, iv (3 : Int32)] [(.int (2 : Int32)), (.ref b4), (.ref b4), (.ref b1), (.ref b1)])) (fun _ k_ => XS.iconst X14.here hx rfl (hb hby d3_90) k_) ?_
  refine own_st (T' := T14) (g' := (mkF m 92 #[rv va, iv (3 : Int32)] [(.ref va), (.int (2 : Int32)), (.ref b4), (.ref b4), (.ref b1), (.ref b1)])) (fun _ k_ => XS.aloadN X14.here hx rfl (hb hby d3_91) rfl rfl  k_) ?_
  refine own_st (T' := T14) (g' := (mkF m 93 #[rv va, iv (3 : Int32)] [(.int (2 : Int32)), (.ref va), (.int (2 : Int32)), (.ref b4), (.ref b4), (.ref b1), (.ref b1)])) (fun _ k_ => XS.iconst X14.here hx rfl (hb hby d3_92) k_) ?_
  have f15 := f11.other W14 ne10
  obtain ⟨cl16, Ar16, q16, S16, N16, H16, G16⟩ := id f15
  have hin16 : ¬ ((2 : Int32) < 0 ∨ cl16.slots.size ≤ ((2 : Int32)).toNatClampNeg) := inb_of S16 ⟨by decide, by decide⟩
  refine own_st (T' := T14) (g' := (mkF m 94 #[rv va, iv (3 : Int32)] [(.int c2), (.int (2 : Int32)), (.ref b4), (.ref b4), (.ref b1), (.ref b1)])) (X14.caload hx (j := (2 : Int32)) (v := (.int c2)) (by rw [e14]; exact Ar16.1) (State.isArrayOf_alike hZ.alike Ar16.2.1) Ar16.2.2 hin16 (H16.at hin16 rfl) (g := (mkF m 93 #[rv va, iv (3 : Int32)] [(.int (2 : Int32)), (.ref va), (.int (2 : Int32)), (.ref b4), (.ref b4), (.ref b1), (.ref b1)])) rfl rfl (hb hby d3_93)) ?_
  clear hin16 G16 H16 N16 S16 q16 Ar16 cl16
  obtain ⟨cl17, Ar17, q17, S17, N17, H17, G17⟩ := id Vn14
  have hin17 : ¬ ((2 : Int32) < 0 ∨ cl17.slots.size ≤ ((2 : Int32)).toNatClampNeg) := inb_of S17 ⟨by decide, by decide⟩
  obtain ⟨T18, h18, X18, e18, W18, st18⟩ := stC X14 hx hZ e14 Ar17 (j := (2 : Int32)) hin17 (g := (mkF m 94 #[rv va, iv (3 : Int32)] [(.int c2), (.int (2 : Int32)), (.ref b4), (.ref b4), (.ref b1), (.ref b1)])) rfl rfl (hb hby d3_94)
  have V18 : Arv Z h18 b4 k4 .char (3 : Int32) [(.int c0), (.int c1), (.int (nar .char c2))] (.int (0 : Int32)) := Arv.set Ar17 q17 S17 N17 H17 G17 (fits_nar_char _) W18 2 rfl (Nat.le_of_ble_eq_true rfl)
  have Vn18 : Arv Z h18 b4 k4 .char (3 : Int32) [(.int c0), (.int c1), (.int c2)] (.int (0 : Int32)) := by simpa only [own_ncR hr2] using V18
  have Nx18 := Fr.snoc X18 Nx14 fr4
  refine own_st (T' := T18) (g' := (mkF m 95 #[rv va, iv (3 : Int32)] [(.ref b4), (.ref b1), (.ref b1)])) st18 ?_
  clear hin17 G17 H17 N17 S17 q17 Ar17 cl17 st18
  by_cases hl : own_nd3 c0 c1 c2 = (3 : Int32)
  · have ha := own_ndA3 hl
    have f19 := A1.ext E4
    have f20 := f19.wr W9
    have f21 := f20.wr W14
    have f22 := f21.wr W18
    have f23 := F1_value.ext E4
    have ne24 : b1 ≠ b4 := Nat.ne_of_lt (Nat.lt_of_lt_of_le A1.lt (Nat.le_of_eq g4.symm))
    have f25 := f23.other W9 (Or.inl ne24)
    have f26 := f25.other W14 (Or.inl ne24)
    have f27 := f26.other W18 (Or.inl ne24)
    have f28 := F1_coder.ext E4
    have f29 := f28.other W9 (Or.inl ne24)
    have f30 := f29.other W14 (Or.inl ne24)
    have f31 := f30.other W18 (Or.inl ne24)
    have f32 := f2.ext E4
    have f33 := f32.wr W9 fr4
    have f34 := f33.wr W14 fr4
    have f35 := f34.wr W18 fr4
    have f36 := f3.ext E4
    have f37 := f36.wr W9 (Or.inr sz4)
    have f38 := f37.wr W14 (Or.inr sz4)
    have f39 := f38.wr W18 (Or.inr sz4)
    obtain ⟨_, T40, L40, X40, hQ40, st40⟩ := own_callI X18 hx (y := own_m13) rfl hown (mvT hZ (wd hw 18 rfl)) (mvT hZ (wd hw 19 rfl)) (mvT hZ (wd hw 20 rfl)) (by decide) (backOf (W := 1) (rm_ini1_3 l Z a0 hw [] b1 b4 k4 cz c0 c1 c2 h18 n0 f35 f22 f27 f31 fr1 Vn18 SC hcz ha.1 ha.2.1 ha.2.2.1) hZ (wd hw 20 rfl) (wd hw 17 rfl) (by decide) (by decide)) (g := (mkF m 95 #[rv va, iv (3 : Int32)] [(.ref b4), (.ref b1), (.ref b1)])) rfl (by rw [hml]; rfl) (a := b1) (argsL := [(.ref b4)]) (rest := [(.ref b1)]) (lenOf pd___C_V rfl) rfl (by show 2 * 0 + _ ≤ _; exact Nat.le_of_eq rfl) (hb hby d3_95) rfl e18 (by decide) (by decide) (c' := 3) (s' := 10) rfl rfl
    obtain ⟨t40, kb40, rfl, Nq40, K40, fq40_0, fq40_1, fq40_2, fq40_3, xq40_fresh_t⟩ := hQ40
    have N40 := Fr.app Nx18 Nq40
    refine own_st (T' := T40) (g' := (mkF m 98 #[rv va, iv (3 : Int32)] [(.ref b1)])) st40 ?_
    clear st40
    have f41 := f39.trans K40 (allS (Or.inr sz1) all0)
    exact own_retA X40 hx hret rfl rfl hlk (hb hby d3_98) (by decide) (by decide) ⟨b1, rfl, N40, f41, fq40_0, ⟨t40, kb40, fq40_2, Or.inl ⟨fq40_1, fq40_3, (own_aS ⟨hr0.1, ha.1⟩ (own_aS ⟨hr1.1, ha.2.1⟩ (own_aS ⟨hr2.1, ha.2.2.1⟩ own_a0)))⟩⟩⟩
  · have f42 := A1.ext E4
    have f43 := f42.wr W9
    have f44 := f43.wr W14
    have f45 := f44.wr W18
    have f46 := F1_value.ext E4
    have ne47 : b1 ≠ b4 := Nat.ne_of_lt (Nat.lt_of_lt_of_le A1.lt (Nat.le_of_eq g4.symm))
    have f48 := f46.other W9 (Or.inl ne47)
    have f49 := f48.other W14 (Or.inl ne47)
    have f50 := f49.other W18 (Or.inl ne47)
    have f51 := F1_coder.ext E4
    have f52 := f51.other W9 (Or.inl ne47)
    have f53 := f52.other W14 (Or.inl ne47)
    have f54 := f53.other W18 (Or.inl ne47)
    have f55 := f2.ext E4
    have f56 := f55.wr W9 fr4
    have f57 := f56.wr W14 fr4
    have f58 := f57.wr W18 fr4
    have f59 := f3.ext E4
    have f60 := f59.wr W9 (Or.inr sz4)
    have f61 := f60.wr W14 (Or.inr sz4)
    have f62 := f61.wr W18 (Or.inr sz4)
    obtain ⟨_, T63, L63, X63, hQ63, st63⟩ := own_callI X18 hx (y := own_m13) rfl hown (mvT hZ (wd hw 18 rfl)) (mvT hZ (wd hw 19 rfl)) (mvT hZ (wd hw 20 rfl)) (by decide) (backOf (W := 1) (rm_in1u_3 l Z a0 hw [] b1 b4 k4 cz c0 c1 c2 h18 n0 f58 f45 f50 f54 fr1 Vn18 SC hcz hr0 hr1 hr2 hl SA SHI SLO) hZ (wd hw 20 rfl) (wd hw 17 rfl) (by decide) (by decide)) (g := (mkF m 95 #[rv va, iv (3 : Int32)] [(.ref b4), (.ref b1), (.ref b1)])) rfl (by rw [hml]; rfl) (a := b1) (argsL := [(.ref b4)]) (rest := [(.ref b1)]) (lenOf pd___C_V rfl) rfl (by show 2 * 0 + _ ≤ _; exact Nat.le_of_eq rfl) (hb hby d3_95) rfl e18 (by decide) (by decide) (c' := 4) (s' := 16) rfl rfl
    obtain ⟨t63, kb63, rfl, Nq63, K63, fq63_0, fq63_1, fq63_2, fq63_3, xq63_fresh_t⟩ := hQ63
    have N63 := Fr.app Nx18 Nq63
    refine own_st (T' := T63) (g' := (mkF m 98 #[rv va, iv (3 : Int32)] [(.ref b1)])) st63 ?_
    clear st63
    have f64 := f62.trans K63 (allS (Or.inr sz1) all0)
    exact own_retA X63 hx hret rfl rfl hlk (hb hby d3_98) (by decide) (by decide) ⟨b1, rfl, N63, f64, fq63_0, ⟨t63, kb63, fq63_2, Or.inr ⟨fq63_1, fq63_3, (own_aS hr0 (own_aS hr1 (own_aS hr2 own_a0)))⟩⟩⟩
theorem d3_99 : decode method_6_code 99 = .ok (.new 21, 3) := by decide +kernel
theorem d3_102 : decode method_6_code 102 = .ok (.dup, 1) := by decide +kernel
theorem d3_103 : decode method_6_code 103 = .ok (.iconst 4, 1) := by decide +kernel
theorem d3_104 : decode method_6_code 104 = .ok (.newarray .char, 2) := by decide +kernel
theorem d3_106 : decode method_6_code 106 = .ok (.dup, 1) := by decide +kernel
theorem d3_107 : decode method_6_code 107 = .ok (.iconst 0, 1) := by decide +kernel
theorem d3_108 : decode method_6_code 108 = .ok (.aload_n 0, 1) := by decide +kernel
theorem d3_109 : decode method_6_code 109 = .ok (.iconst 0, 1) := by decide +kernel
theorem d3_110 : decode method_6_code 110 = .ok (.caload, 1) := by decide +kernel
theorem d3_111 : decode method_6_code 111 = .ok (.castore, 1) := by decide +kernel
theorem d3_112 : decode method_6_code 112 = .ok (.dup, 1) := by decide +kernel
theorem d3_113 : decode method_6_code 113 = .ok (.iconst 1, 1) := by decide +kernel
theorem d3_114 : decode method_6_code 114 = .ok (.aload_n 0, 1) := by decide +kernel
theorem d3_115 : decode method_6_code 115 = .ok (.iconst 1, 1) := by decide +kernel
theorem d3_116 : decode method_6_code 116 = .ok (.caload, 1) := by decide +kernel
theorem d3_117 : decode method_6_code 117 = .ok (.castore, 1) := by decide +kernel
theorem d3_118 : decode method_6_code 118 = .ok (.dup, 1) := by decide +kernel
theorem d3_119 : decode method_6_code 119 = .ok (.iconst 2, 1) := by decide +kernel
theorem d3_120 : decode method_6_code 120 = .ok (.aload_n 0, 1) := by decide +kernel
theorem d3_121 : decode method_6_code 121 = .ok (.iconst 2, 1) := by decide +kernel
theorem d3_122 : decode method_6_code 122 = .ok (.caload, 1) := by decide +kernel
theorem d3_123 : decode method_6_code 123 = .ok (.castore, 1) := by decide +kernel
theorem d3_124 : decode method_6_code 124 = .ok (.dup, 1) := by decide +kernel
theorem d3_125 : decode method_6_code 125 = .ok (.iconst 3, 1) := by decide +kernel
theorem d3_126 : decode method_6_code 126 = .ok (.aload_n 0, 1) := by decide +kernel
theorem d3_127 : decode method_6_code 127 = .ok (.iconst 3, 1) := by decide +kernel
theorem d3_128 : decode method_6_code 128 = .ok (.caload, 1) := by decide +kernel
theorem d3_129 : decode method_6_code 129 = .ok (.castore, 1) := by decide +kernel
theorem d3_130 : decode method_6_code 130 = .ok (.invokespecial 23, 3) := by decide +kernel
theorem d3_133 : decode method_6_code 133 = .ok (.areturn, 1) := by decide +kernel
theorem ef_str4 (m : MethodId) (x0 : Addr) (x1 : Int32) : entryFrame m #[(.ref x0), (.int x1)] 2 = mkF m 0 #[rv x0, iv x1] [] := by first | (simp [entryFrame, mkF, argsToLocals, Value.category]; done) | rfl
def Q_str4 (Z : State) (va : Addr) (kv : ClassId) (c0 : Int32) (c1 : Int32) (c2 : Int32) (c3 : Int32) (cz : Int32) (h0 : Heap) (n0 : Nat) (v : Option Value) (h : Heap) (L : List Loc) : Prop := ∃ (b : Addr), (v = some (.ref b)) ∧ (Fr n0 L) ∧ (Keep h0 h []) ∧ (Exa Z h b "java/lang/String") ∧ (own_S Z h b [c0, c1, c2, c3])
set_option maxRecDepth 65536 in
set_option maxHeartbeats 40000000 in
theorem rm_str4 (l : Launch) (Z : State) (a0 : Array Value) (hw : ∀ d ∈ tables_1, d.before a0 Z = true) (ws : List Jvm.Cond) (va : Addr) (kv : ClassId) (c0 : Int32) (c1 : Int32) (c2 : Int32) (c3 : Int32) (cz : Int32) (h0 : Heap) (n0 : Nat) (O0 : Old Z n0 h0) (VA : Arv Z h0 va kv .char (4 : Int32) [(.int c0), (.int c1), (.int c2), (.int c3)] (.int (0 : Int32))) (hr0 : own_R c0) (hr1 : own_R c1) (hr2 : own_R c2) (hr3 : own_R c3) (SC : Sta Z Z.heap "java/lang/String" "COMPACT_STRINGS" "Z" (.int cz)) (hcz : ¬ cz = (0 : Int32)) (SA : Sta Z Z.heap "java/lang/StringUTF16" "$assertionsDisabled" "Z" (.int (1 : Int32))) (SHI : Sta Z Z.heap "java/lang/StringUTF16" "HI_BYTE_SHIFT" "I" (.int (0 : Int32))) (SLO : Sta Z Z.heap "java/lang/StringUTF16" "LO_BYTE_SHIFT" "I" (.int (8 : Int32))) :
    own_MF l own_m28 (Jvm.Cond.code own_m28 method_6_code 2 (some (.object "java/lang/String")) :: ws) ({ frames := 6, cells := 4, slots := 20, locals := 88 } : Room) #[(.ref va), (.int (4 : Int32))] Z h0 (Q_str4 Z va kv c0 c1 c2 c3 cz h0 n0) := by
  refine own_met (own := "com/example/countersign/countersign/scheme/Utf8HasFormPinLaw") (nme := "str") rfl rfl (plainFor_of_name pn_5) ?_
  intro p e s m below meth c s₁ hx hby hml hown hnm X0 e0 hret hlk hZ
  have N0 := Fr.nil n0
  rw [ef_str4 m va (4 : Int32)]
  refine own_st (T' := s₁) (g' := (mkF m 1 #[rv va, iv (4 : Int32)] [(.int (4 : Int32))])) (fun _ k_ => XS.iloadN X0.here hx rfl (hb hby d3_0) rfl  k_) ?_
  refine own_st (T' := s₁) (g' := (mkF m 15 #[rv va, iv (4 : Int32)] [])) (fun _ k_ => XS.ifYes X0.here hx rfl (pc0 := 1) (pc' := 15) rfl (hb hby d3_1) rfl ((if0 _ _).trans (feq (by decide : ¬ ((4 : Int32) = (0 : Int32)))).2) (by decide) (by decide) k_) ?_
  refine own_st (T' := s₁) (g' := (mkF m 16 #[rv va, iv (4 : Int32)] [(.int (4 : Int32))])) (fun _ k_ => XS.iloadN X0.here hx rfl (hb hby d3_15) rfl  k_) ?_
  refine own_st (T' := s₁) (g' := (mkF m 17 #[rv va, iv (4 : Int32)] [(.int (1 : Int32)), (.int (4 : Int32))])) (fun _ k_ => XS.iconst X0.here hx rfl (hb hby d3_16) k_) ?_
  refine own_st (T' := s₁) (g' := (mkF m 37 #[rv va, iv (4 : Int32)] [])) (fun _ k_ => XS.icmpYes X0.here hx rfl (pc0 := 17) (pc' := 37) rfl (hb hby d3_17) rfl (feq (by decide : ¬ ((4 : Int32) = (1 : Int32)))).2 (by decide) (by decide) k_) ?_
  refine own_st (T' := s₁) (g' := (mkF m 38 #[rv va, iv (4 : Int32)] [(.int (4 : Int32))])) (fun _ k_ => XS.iloadN X0.here hx rfl (hb hby d3_37) rfl  k_) ?_
  refine own_st (T' := s₁) (g' := (mkF m 39 #[rv va, iv (4 : Int32)] [(.int (2 : Int32)), (.int (4 : Int32))])) (fun _ k_ => XS.iconst X0.here hx rfl (hb hby d3_38) k_) ?_
  refine own_st (T' := s₁) (g' := (mkF m 65 #[rv va, iv (4 : Int32)] [])) (fun _ k_ => XS.icmpYes X0.here hx rfl (pc0 := 39) (pc' := 65) rfl (hb hby d3_39) rfl (feq (by decide : ¬ ((4 : Int32) = (2 : Int32)))).2 (by decide) (by decide) k_) ?_
  refine own_st (T' := s₁) (g' := (mkF m 66 #[rv va, iv (4 : Int32)] [(.int (4 : Int32))])) (fun _ k_ => XS.iloadN X0.here hx rfl (hb hby d3_65) rfl  k_) ?_
  refine own_st (T' := s₁) (g' := (mkF m 67 #[rv va, iv (4 : Int32)] [(.int (3 : Int32)), (.int (4 : Int32))])) (fun _ k_ => XS.iconst X0.here hx rfl (hb hby d3_66) k_) ?_
  refine own_st (T' := s₁) (g' := (mkF m 99 #[rv va, iv (4 : Int32)] [])) (fun _ k_ => XS.icmpYes X0.here hx rfl (pc0 := 67) (pc' := 99) rfl (hb hby d3_67) rfl (feq (by decide : ¬ ((4 : Int32) = (3 : Int32)))).2 (by decide) (by decide) k_) ?_
  obtain ⟨T1, h1, X1, e1, E1, A1, D1, -, st1⟩ := newO X0 hx hZ hown (wd hw 15 rfl) (wd hw 16 rfl) (wd hw 17 rfl) e0 (g := (mkF m 99 #[rv va, iv (4 : Int32)] [])) rfl (hb hby d3_99) (by decide) (by decide)
  obtain ⟨b1, g1⟩ : ∃ z, z = h0.size := ⟨_, rfl⟩
  rw [← g1] at A1 D1 st1
  have fr1 : n0 ≤ b1 := Nat.le_trans (own_z O0) (Nat.le_of_eq g1.symm)
  have sz1 : h0.size ≤ b1 := Nat.le_trans (Keep.refl h0 []).1 (Nat.le_of_eq g1.symm)
  have F1_value : Fld Z h1 b1 "java/lang/String" "value" "[B" .null := D1 (Or.inr (wd hw 30 rfl)) (ty := (.array .byte)) (by decide)
  have F1_coder : Fld Z h1 b1 "java/lang/String" "coder" "B" (.int (0 : Int32)) := D1 (Or.inr (wd hw 31 rfl)) (ty := .byte) (by decide)
  refine own_st (T' := T1) (g' := (mkF m 102 #[rv va, iv (4 : Int32)] [(.ref b1)])) st1 ?_
  clear st1
  refine own_st (T' := T1) (g' := (mkF m 103 #[rv va, iv (4 : Int32)] [(.ref b1), (.ref b1)])) (fun _ k_ => XS.dup X1.here hx rfl (hb hby d3_102) rfl rfl k_) ?_
  refine own_st (T' := T1) (g' := (mkF m 104 #[rv va, iv (4 : Int32)] [(.int (4 : Int32)), (.ref b1), (.ref b1)])) (fun _ k_ => XS.iconst X1.here hx rfl (hb hby d3_103) k_) ?_
  have f2 := O0.ext E1
  have f3 := (Keep.refl h0 []).ext E1
  obtain ⟨T4, h4, k4, X4, e4, E4, A4, st4⟩ := newP X1 hx hZ (wd hw 1 rfl) e1 (g := (mkF m 104 #[rv va, iv (4 : Int32)] [(.int (4 : Int32)), (.ref b1), (.ref b1)])) rfl (hb hby d3_104) rfl (by decide) (cap := 4) (by decide) (by decide) (by decide) (by decide)
  obtain ⟨b4, g4⟩ : ∃ z, z = h1.size := ⟨_, rfl⟩
  rw [← g4] at A4 st4
  have fr4 : n0 ≤ b4 := Nat.le_trans (own_z f2) (Nat.le_of_eq g4.symm)
  have sz4 : h0.size ≤ b4 := Nat.le_trans f3.1 (Nat.le_of_eq g4.symm)
  have V4 : Arv Z h4 b4 k4 .char (4 : Int32) [(.int (0 : Int32)), (.int (0 : Int32)), (.int (0 : Int32)), (.int (0 : Int32))] (.int (0 : Int32)) := (Arv.new A4 (by decide)).pad (pad_rep [] (.int (0 : Int32)) 4)
  refine own_st (T' := T4) (g' := (mkF m 106 #[rv va, iv (4 : Int32)] [(.ref b4), (.ref b1), (.ref b1)])) st4 ?_
  clear st4
  refine own_st (T' := T4) (g' := (mkF m 107 #[rv va, iv (4 : Int32)] [(.ref b4), (.ref b4), (.ref b1), (.ref b1)])) (fun _ k_ => XS.dup X4.here hx rfl (hb hby d3_106) rfl rfl k_) ?_
  refine own_st (T' := T4) (g' := (mkF m 108 #[rv va, iv (4 : Int32)] [(.int (0 : Int32)), (.ref b4), (.ref b4), (.ref b1), (.ref b1)])) (fun _ k_ => XS.iconst X4.here hx rfl (hb hby d3_107) k_) ?_
  refine own_st (T' := T4) (g' := (mkF m 109 #[rv va, iv (4 : Int32)] [(.ref va), (.int (0 : Int32)), (.ref b4), (.ref b4), (.ref b1), (.ref b1)])) (fun _ k_ => XS.aloadN X4.here hx rfl (hb hby d3_108) rfl rfl  k_) ?_
  refine own_st (T' := T4) (g' := (mkF m 110 #[rv va, iv (4 : Int32)] [(.int (0 : Int32)), (.ref va), (.int (0 : Int32)), (.ref b4), (.ref b4), (.ref b1), (.ref b1)])) (fun _ k_ => XS.iconst X4.here hx rfl (hb hby d3_109) k_) ?_
  have f5 := VA.ext E1
  have f6 := f5.ext E4
  obtain ⟨cl7, Ar7, q7, S7, N7, H7, G7⟩ := id f6
  have hin7 : ¬ ((0 : Int32) < 0 ∨ cl7.slots.size ≤ ((0 : Int32)).toNatClampNeg) := inb_of S7 ⟨by decide, by decide⟩
  refine own_st (T' := T4) (g' := (mkF m 111 #[rv va, iv (4 : Int32)] [(.int c0), (.int (0 : Int32)), (.ref b4), (.ref b4), (.ref b1), (.ref b1)])) (X4.caload hx (j := (0 : Int32)) (v := (.int c0)) (by rw [e4]; exact Ar7.1) (State.isArrayOf_alike hZ.alike Ar7.2.1) Ar7.2.2 hin7 (H7.at hin7 rfl) (g := (mkF m 110 #[rv va, iv (4 : Int32)] [(.int (0 : Int32)), (.ref va), (.int (0 : Int32)), (.ref b4), (.ref b4), (.ref b1), (.ref b1)])) rfl rfl (hb hby d3_110)) ?_
  clear hin7 G7 H7 N7 S7 q7 Ar7 cl7
  obtain ⟨cl8, Ar8, q8, S8, N8, H8, G8⟩ := id V4
  have hin8 : ¬ ((0 : Int32) < 0 ∨ cl8.slots.size ≤ ((0 : Int32)).toNatClampNeg) := inb_of S8 ⟨by decide, by decide⟩
  obtain ⟨T9, h9, X9, e9, W9, st9⟩ := stC X4 hx hZ e4 Ar8 (j := (0 : Int32)) hin8 (g := (mkF m 111 #[rv va, iv (4 : Int32)] [(.int c0), (.int (0 : Int32)), (.ref b4), (.ref b4), (.ref b1), (.ref b1)])) rfl rfl (hb hby d3_111)
  have V9 : Arv Z h9 b4 k4 .char (4 : Int32) [(.int (nar .char c0)), (.int (0 : Int32)), (.int (0 : Int32)), (.int (0 : Int32))] (.int (0 : Int32)) := Arv.set Ar8 q8 S8 N8 H8 G8 (fits_nar_char _) W9 0 rfl (Nat.le_of_ble_eq_true rfl)
  have Vn9 : Arv Z h9 b4 k4 .char (4 : Int32) [(.int c0), (.int (0 : Int32)), (.int (0 : Int32)), (.int (0 : Int32))] (.int (0 : Int32)) := by simpa only [own_ncR hr0] using V9
  have Nx9 := Fr.snoc X9 N0 fr4
  refine own_st (T' := T9) (g' := (mkF m 112 #[rv va, iv (4 : Int32)] [(.ref b4), (.ref b1), (.ref b1)])) st9 ?_
  clear hin8 G8 H8 N8 S8 q8 Ar8 cl8 st9
  refine own_st (T' := T9) (g' := (mkF m 113 #[rv va, iv (4 : Int32)] [(.ref b4), (.ref b4), (.ref b1), (.ref b1)])) (fun _ k_ => XS.dup X9.here hx rfl (hb hby d3_112) rfl rfl k_) ?_
  refine own_st (T' := T9) (g' := (mkF m 114 #[rv va, iv (4 : Int32)] [(.int (1 : Int32)), (.ref b4), (.ref b4), (.ref b1), (.ref b1)])) (fun _ k_ => XS.iconst X9.here hx rfl (hb hby d3_113) k_) ?_
  refine own_st (T' := T9) (g' := (mkF m 115 #[rv va, iv (4 : Int32)] [(.ref va), (.int (1 : Int32)), (.ref b4), (.ref b4), (.ref b1), (.ref b1)])) (fun _ k_ => XS.aloadN X9.here hx rfl (hb hby d3_114) rfl rfl  k_) ?_
  refine own_st (T' := T9) (g' := (mkF m 116 #[rv va, iv (4 : Int32)] [(.int (1 : Int32)), (.ref va), (.int (1 : Int32)), (.ref b4), (.ref b4), (.ref b1), (.ref b1)])) (fun _ k_ => XS.iconst X9.here hx rfl (hb hby d3_115) k_) ?_
  have ne10 : va ≠ b4 := Nat.ne_of_lt (Nat.lt_of_lt_of_le (Nat.lt_of_lt_of_le VA.lt E1.1) (Nat.le_of_eq g4.symm))
  have f11 := f6.other W9 ne10
  obtain ⟨cl12, Ar12, q12, S12, N12, H12, G12⟩ := id f11
  have hin12 : ¬ ((1 : Int32) < 0 ∨ cl12.slots.size ≤ ((1 : Int32)).toNatClampNeg) := inb_of S12 ⟨by decide, by decide⟩
  refine own_st (T' := T9) (g' := (mkF m 117 #[rv va, iv (4 : Int32)] [(.int c1), (.int (1 : Int32)), (.ref b4), (.ref b4), (.ref b1), (.ref b1)])) (X9.caload hx (j := (1 : Int32)) (v := (.int c1)) (by rw [e9]; exact Ar12.1) (State.isArrayOf_alike hZ.alike Ar12.2.1) Ar12.2.2 hin12 (H12.at hin12 rfl) (g := (mkF m 116 #[rv va, iv (4 : Int32)] [(.int (1 : Int32)), (.ref va), (.int (1 : Int32)), (.ref b4), (.ref b4), (.ref b1), (.ref b1)])) rfl rfl (hb hby d3_116)) ?_
  clear hin12 G12 H12 N12 S12 q12 Ar12 cl12
  obtain ⟨cl13, Ar13, q13, S13, N13, H13, G13⟩ := id Vn9
  have hin13 : ¬ ((1 : Int32) < 0 ∨ cl13.slots.size ≤ ((1 : Int32)).toNatClampNeg) := inb_of S13 ⟨by decide, by decide⟩
  obtain ⟨T14, h14, X14, e14, W14, st14⟩ := stC X9 hx hZ e9 Ar13 (j := (1 : Int32)) hin13 (g := (mkF m 117 #[rv va, iv (4 : Int32)] [(.int c1), (.int (1 : Int32)), (.ref b4), (.ref b4), (.ref b1), (.ref b1)])) rfl rfl (hb hby d3_117)
  have V14 : Arv Z h14 b4 k4 .char (4 : Int32) [(.int c0), (.int (nar .char c1)), (.int (0 : Int32)), (.int (0 : Int32))] (.int (0 : Int32)) := Arv.set Ar13 q13 S13 N13 H13 G13 (fits_nar_char _) W14 1 rfl (Nat.le_of_ble_eq_true rfl)
  have Vn14 : Arv Z h14 b4 k4 .char (4 : Int32) [(.int c0), (.int c1), (.int (0 : Int32)), (.int (0 : Int32))] (.int (0 : Int32)) := by simpa only [own_ncR hr1] using V14
  have Nx14 := Fr.snoc X14 Nx9 fr4
  refine own_st (T' := T14) (g' := (mkF m 118 #[rv va, iv (4 : Int32)] [(.ref b4), (.ref b1), (.ref b1)])) st14 ?_
  clear hin13 G13 H13 N13 S13 q13 Ar13 cl13 st14
  refine own_st (T' := T14) (g' := (mkF m 119 #[rv va, iv (4 : Int32)] [(.ref b4), (.ref b4), (.ref b1), (.ref b1)])) (fun _ k_ => XS.dup X14.here hx rfl (hb hby d3_118) rfl rfl k_) ?_
  refine own_st (T' := T14) (g' := (mkF m 120 #[rv va, iv (4 : Int32)] [(.int (2 : Int32)), (.ref b4), (.ref b4), (.ref b1), (.ref b1)])) (fun _ k_ => XS.iconst X14.here hx rfl (hb hby d3_119) k_) ?_
  refine own_st (T' := T14) (g' := (mkF m 121 #[rv va, iv (4 : Int32)] [(.ref va), (.int (2 : Int32)), (.ref b4), (.ref b4), (.ref b1), (.ref b1)])) (fun _ k_ => XS.aloadN X14.here hx rfl (hb hby d3_120) rfl rfl  k_) ?_
  refine own_st (T' := T14) (g' := (mkF m 122 #[rv va, iv (4 : Int32)] [(.int (2 : Int32)), (.ref va), (.int (2 : Int32)), (.ref b4), (.ref b4), (.ref b1), (.ref b1)])) (fun _ k_ => XS.iconst X14.here hx rfl (hb hby d3_121) k_) ?_
  have f15 := f11.other W14 ne10
  obtain ⟨cl16, Ar16, q16, S16, N16, H16, G16⟩ := id f15
  have hin16 : ¬ ((2 : Int32) < 0 ∨ cl16.slots.size ≤ ((2 : Int32)).toNatClampNeg) := inb_of S16 ⟨by decide, by decide⟩
  refine own_st (T' := T14) (g' := (mkF m 123 #[rv va, iv (4 : Int32)] [(.int c2), (.int (2 : Int32)), (.ref b4), (.ref b4), (.ref b1), (.ref b1)])) (X14.caload hx (j := (2 : Int32)) (v := (.int c2)) (by rw [e14]; exact Ar16.1) (State.isArrayOf_alike hZ.alike Ar16.2.1) Ar16.2.2 hin16 (H16.at hin16 rfl) (g := (mkF m 122 #[rv va, iv (4 : Int32)] [(.int (2 : Int32)), (.ref va), (.int (2 : Int32)), (.ref b4), (.ref b4), (.ref b1), (.ref b1)])) rfl rfl (hb hby d3_122)) ?_
  clear hin16 G16 H16 N16 S16 q16 Ar16 cl16
  obtain ⟨cl17, Ar17, q17, S17, N17, H17, G17⟩ := id Vn14
  have hin17 : ¬ ((2 : Int32) < 0 ∨ cl17.slots.size ≤ ((2 : Int32)).toNatClampNeg) := inb_of S17 ⟨by decide, by decide⟩
  obtain ⟨T18, h18, X18, e18, W18, st18⟩ := stC X14 hx hZ e14 Ar17 (j := (2 : Int32)) hin17 (g := (mkF m 123 #[rv va, iv (4 : Int32)] [(.int c2), (.int (2 : Int32)), (.ref b4), (.ref b4), (.ref b1), (.ref b1)])) rfl rfl (hb hby d3_123)
  have V18 : Arv Z h18 b4 k4 .char (4 : Int32) [(.int c0), (.int c1), (.int (nar .char c2)), (.int (0 : Int32))] (.int (0 : Int32)) := Arv.set Ar17 q17 S17 N17 H17 G17 (fits_nar_char _) W18 2 rfl (Nat.le_of_ble_eq_true rfl)
  have Vn18 : Arv Z h18 b4 k4 .char (4 : Int32) [(.int c0), (.int c1), (.int c2), (.int (0 : Int32))] (.int (0 : Int32)) := by simpa only [own_ncR hr2] using V18
  have Nx18 := Fr.snoc X18 Nx14 fr4
  refine own_st (T' := T18) (g' := (mkF m 124 #[rv va, iv (4 : Int32)] [(.ref b4), (.ref b1), (.ref b1)])) st18 ?_
  clear hin17 G17 H17 N17 S17 q17 Ar17 cl17 st18
  refine own_st (T' := T18) (g' := (mkF m 125 #[rv va, iv (4 : Int32)] [(.ref b4), (.ref b4), (.ref b1), (.ref b1)])) (fun _ k_ => XS.dup X18.here hx rfl (hb hby d3_124) rfl rfl k_) ?_
  refine own_st (T' := T18) (g' := (mkF m 126 #[rv va, iv (4 : Int32)] [(.int (3 : Int32)), (.ref b4), (.ref b4), (.ref b1), (.ref b1)])) (fun _ k_ => XS.iconst X18.here hx rfl (hb hby d3_125) k_) ?_
  refine own_st (T' := T18) (g' := (mkF m 127 #[rv va, iv (4 : Int32)] [(.ref va), (.int (3 : Int32)), (.ref b4), (.ref b4), (.ref b1), (.ref b1)])) (fun _ k_ => XS.aloadN X18.here hx rfl (hb hby d3_126) rfl rfl  k_) ?_
  refine own_st (T' := T18) (g' := (mkF m 128 #[rv va, iv (4 : Int32)] [(.int (3 : Int32)), (.ref va), (.int (3 : Int32)), (.ref b4), (.ref b4), (.ref b1), (.ref b1)])) (fun _ k_ => XS.iconst X18.here hx rfl (hb hby d3_127) k_) ?_
  have f19 := f15.other W18 ne10
  obtain ⟨cl20, Ar20, q20, S20, N20, H20, G20⟩ := id f19
  have hin20 : ¬ ((3 : Int32) < 0 ∨ cl20.slots.size ≤ ((3 : Int32)).toNatClampNeg) := inb_of S20 ⟨by decide, by decide⟩
  refine own_st (T' := T18) (g' := (mkF m 129 #[rv va, iv (4 : Int32)] [(.int c3), (.int (3 : Int32)), (.ref b4), (.ref b4), (.ref b1), (.ref b1)])) (X18.caload hx (j := (3 : Int32)) (v := (.int c3)) (by rw [e18]; exact Ar20.1) (State.isArrayOf_alike hZ.alike Ar20.2.1) Ar20.2.2 hin20 (H20.at hin20 rfl) (g := (mkF m 128 #[rv va, iv (4 : Int32)] [(.int (3 : Int32)), (.ref va), (.int (3 : Int32)), (.ref b4), (.ref b4), (.ref b1), (.ref b1)])) rfl rfl (hb hby d3_128)) ?_
  clear hin20 G20 H20 N20 S20 q20 Ar20 cl20
  obtain ⟨cl21, Ar21, q21, S21, N21, H21, G21⟩ := id Vn18
  have hin21 : ¬ ((3 : Int32) < 0 ∨ cl21.slots.size ≤ ((3 : Int32)).toNatClampNeg) := inb_of S21 ⟨by decide, by decide⟩
  obtain ⟨T22, h22, X22, e22, W22, st22⟩ := stC X18 hx hZ e18 Ar21 (j := (3 : Int32)) hin21 (g := (mkF m 129 #[rv va, iv (4 : Int32)] [(.int c3), (.int (3 : Int32)), (.ref b4), (.ref b4), (.ref b1), (.ref b1)])) rfl rfl (hb hby d3_129)
  have V22 : Arv Z h22 b4 k4 .char (4 : Int32) [(.int c0), (.int c1), (.int c2), (.int (nar .char c3))] (.int (0 : Int32)) := Arv.set Ar21 q21 S21 N21 H21 G21 (fits_nar_char _) W22 3 rfl (Nat.le_of_ble_eq_true rfl)
  have Vn22 : Arv Z h22 b4 k4 .char (4 : Int32) [(.int c0), (.int c1), (.int c2), (.int c3)] (.int (0 : Int32)) := by simpa only [own_ncR hr3] using V22
  have Nx22 := Fr.snoc X22 Nx18 fr4
  refine own_st (T' := T22) (g' := (mkF m 130 #[rv va, iv (4 : Int32)] [(.ref b4), (.ref b1), (.ref b1)])) st22 ?_
  clear hin21 G21 H21 N21 S21 q21 Ar21 cl21 st22
  by_cases hl : own_nd4 c0 c1 c2 c3 = (4 : Int32)
  · have ha := own_ndA4 hl
    have f23 := A1.ext E4
    have f24 := f23.wr W9
    have f25 := f24.wr W14
    have f26 := f25.wr W18
    have f27 := f26.wr W22
    have f28 := F1_value.ext E4
    have ne29 : b1 ≠ b4 := Nat.ne_of_lt (Nat.lt_of_lt_of_le A1.lt (Nat.le_of_eq g4.symm))
    have f30 := f28.other W9 (Or.inl ne29)
    have f31 := f30.other W14 (Or.inl ne29)
    have f32 := f31.other W18 (Or.inl ne29)
    have f33 := f32.other W22 (Or.inl ne29)
    have f34 := F1_coder.ext E4
    have f35 := f34.other W9 (Or.inl ne29)
    have f36 := f35.other W14 (Or.inl ne29)
    have f37 := f36.other W18 (Or.inl ne29)
    have f38 := f37.other W22 (Or.inl ne29)
    have f39 := f2.ext E4
    have f40 := f39.wr W9 fr4
    have f41 := f40.wr W14 fr4
    have f42 := f41.wr W18 fr4
    have f43 := f42.wr W22 fr4
    have f44 := f3.ext E4
    have f45 := f44.wr W9 (Or.inr sz4)
    have f46 := f45.wr W14 (Or.inr sz4)
    have f47 := f46.wr W18 (Or.inr sz4)
    have f48 := f47.wr W22 (Or.inr sz4)
    obtain ⟨_, T49, L49, X49, hQ49, st49⟩ := own_callI X22 hx (y := own_m13) rfl hown (mvT hZ (wd hw 18 rfl)) (mvT hZ (wd hw 19 rfl)) (mvT hZ (wd hw 20 rfl)) (by decide) (backOf (W := 1) (rm_ini1_4 l Z a0 hw [] b1 b4 k4 cz c0 c1 c2 c3 h22 n0 f43 f27 f33 f38 fr1 Vn22 SC hcz ha.1 ha.2.1 ha.2.2.1 ha.2.2.2.1) hZ (wd hw 20 rfl) (wd hw 17 rfl) (by decide) (by decide)) (g := (mkF m 130 #[rv va, iv (4 : Int32)] [(.ref b4), (.ref b1), (.ref b1)])) rfl (by rw [hml]; rfl) (a := b1) (argsL := [(.ref b4)]) (rest := [(.ref b1)]) (lenOf pd___C_V rfl) rfl (by show 2 * 0 + _ ≤ _; exact Nat.le_of_eq rfl) (hb hby d3_130) rfl e22 (by decide) (by decide) (c' := 3) (s' := 12) rfl rfl
    obtain ⟨t49, kb49, rfl, Nq49, K49, fq49_0, fq49_1, fq49_2, fq49_3, xq49_fresh_t⟩ := hQ49
    have N49 := Fr.app Nx22 Nq49
    refine own_st (T' := T49) (g' := (mkF m 133 #[rv va, iv (4 : Int32)] [(.ref b1)])) st49 ?_
    clear st49
    have f50 := f48.trans K49 (allS (Or.inr sz1) all0)
    exact own_retA X49 hx hret rfl rfl hlk (hb hby d3_133) (by decide) (by decide) ⟨b1, rfl, N49, f50, fq49_0, ⟨t49, kb49, fq49_2, Or.inl ⟨fq49_1, fq49_3, (own_aS ⟨hr0.1, ha.1⟩ (own_aS ⟨hr1.1, ha.2.1⟩ (own_aS ⟨hr2.1, ha.2.2.1⟩ (own_aS ⟨hr3.1, ha.2.2.2.1⟩ own_a0))))⟩⟩⟩
  · have f51 := A1.ext E4
    have f52 := f51.wr W9
    have f53 := f52.wr W14
    have f54 := f53.wr W18
    have f55 := f54.wr W22
    have f56 := F1_value.ext E4
    have ne57 : b1 ≠ b4 := Nat.ne_of_lt (Nat.lt_of_lt_of_le A1.lt (Nat.le_of_eq g4.symm))
    have f58 := f56.other W9 (Or.inl ne57)
    have f59 := f58.other W14 (Or.inl ne57)
    have f60 := f59.other W18 (Or.inl ne57)
    have f61 := f60.other W22 (Or.inl ne57)
    have f62 := F1_coder.ext E4
    have f63 := f62.other W9 (Or.inl ne57)
    have f64 := f63.other W14 (Or.inl ne57)
    have f65 := f64.other W18 (Or.inl ne57)
    have f66 := f65.other W22 (Or.inl ne57)
    have f67 := f2.ext E4
    have f68 := f67.wr W9 fr4
    have f69 := f68.wr W14 fr4
    have f70 := f69.wr W18 fr4
    have f71 := f70.wr W22 fr4
    have f72 := f3.ext E4
    have f73 := f72.wr W9 (Or.inr sz4)
    have f74 := f73.wr W14 (Or.inr sz4)
    have f75 := f74.wr W18 (Or.inr sz4)
    have f76 := f75.wr W22 (Or.inr sz4)
    obtain ⟨_, T77, L77, X77, hQ77, st77⟩ := own_callI X22 hx (y := own_m13) rfl hown (mvT hZ (wd hw 18 rfl)) (mvT hZ (wd hw 19 rfl)) (mvT hZ (wd hw 20 rfl)) (by decide) (backOf (W := 1) (rm_in1u_4 l Z a0 hw [] b1 b4 k4 cz c0 c1 c2 c3 h22 n0 f71 f55 f61 f66 fr1 Vn22 SC hcz hr0 hr1 hr2 hr3 hl SA SHI SLO) hZ (wd hw 20 rfl) (wd hw 17 rfl) (by decide) (by decide)) (g := (mkF m 130 #[rv va, iv (4 : Int32)] [(.ref b4), (.ref b1), (.ref b1)])) rfl (by rw [hml]; rfl) (a := b1) (argsL := [(.ref b4)]) (rest := [(.ref b1)]) (lenOf pd___C_V rfl) rfl (by show 2 * 0 + _ ≤ _; exact Nat.le_of_eq rfl) (hb hby d3_130) rfl e22 (by decide) (by decide) (c' := 4) (s' := 20) rfl rfl
    obtain ⟨t77, kb77, rfl, Nq77, K77, fq77_0, fq77_1, fq77_2, fq77_3, xq77_fresh_t⟩ := hQ77
    have N77 := Fr.app Nx22 Nq77
    refine own_st (T' := T77) (g' := (mkF m 133 #[rv va, iv (4 : Int32)] [(.ref b1)])) st77 ?_
    clear st77
    have f78 := f76.trans K77 (allS (Or.inr sz1) all0)
    exact own_retA X77 hx hret rfl rfl hlk (hb hby d3_133) (by decide) (by decide) ⟨b1, rfl, N77, f78, fq77_0, ⟨t77, kb77, fq77_2, Or.inr ⟨fq77_1, fq77_3, (own_aS hr0 (own_aS hr1 (own_aS hr2 (own_aS hr3 own_a0))))⟩⟩⟩
def own_okall (nn c0 c1 c2 c3 : Int32) : Int32 := if own_ok0 nn c0 c1 c2 c3 = 0 then (0 : Int32) else if own_ok1 nn c0 c1 c2 c3 = 0 then (0 : Int32) else if own_ok2 nn c0 c1 c2 c3 = 0 then (0 : Int32) else if own_ok3 nn c0 c1 c2 c3 = 0 then (0 : Int32) else (1 : Int32)
set_option maxHeartbeats 40000000 in
theorem own_law0 (c0 c1 c2 c3 : Int32) : own_f [] = own_okall (0 : Int32) c0 c1 c2 c3 := by
  simp [own_f, own_okall, own_ok0, own_ok1, own_ok2, own_ok3]
theorem pd___CI_Ljava_lang_String_ : parseMethodDescriptor "([CI)Ljava/lang/String;" = some ⟨[(.array .char), .int], some (.object "java/lang/String")⟩ := by decide +kernel
theorem pd__Ljava_lang_String__Z : parseMethodDescriptor "(Ljava/lang/String;)Z" = some ⟨[(.object "java/lang/String")], some .boolean⟩ := by decide +kernel
set_option maxRecDepth 65536 in
set_option maxHeartbeats 40000000 in
theorem seg_tl0 {p : Program} {l : Launch} {e : Env} {s : State} {m : MethodId} {args : Array Value} {below : List Frame} {meth : Method} {c : Code} {T0 : State} {locs : List Loc} {Z : State} {a0 : Array Value} {vm0 : Vm} {k0 : Nat} (h0 : Heap) (hB : Heap) (n0 : Nat) (i0 : Int32) (i1 : Int32) (i2 : Int32) (i3 : Int32) (i4 : Int32) (va : Addr) (kv : ClassId) (c0 : Int32) (c1 : Int32) (c2 : Int32) (c3 : Int32) (cz : Int32) (fm : Value) (okv : Int32)
    (X0 : Stand p l e room_1 (s.setVm vm0) m args below meth c T0 locs 1 4) (hx : p.tables.exec = Jvm.exec) (hZs : Z.Warmed39 s.vm) (hZ : Z.Warmed39 (s.setVm vm0).vm) (hS0 : s.Since vm0 k0) (hk0 : k0 ≤ hB.size) (CR0 : CHr Z consts_1 s.vm h0 vm0 hB) (hw : ∀ d ∈ tables_1, d.before a0 Z = true) (hby : c.code = code) (hml : c.maxLocals = 9) (howns : s.vm.findClass "com/example/countersign/countersign/scheme/Utf8HasFormPinLaw" = some m.cls) (hown : (s.setVm vm0).vm.findClass "com/example/countersign/countersign/scheme/Utf8HasFormPinLaw" = some m.cls) (hnm : meth.name = "law") (hret : meth.sig.returnType = some .boolean) (hlk : meth.locks = false) (e0 : T0.heap = hB) (N0 : Fr n0 locs) (O0 : Old Z n0 hB) (VA : Arv Z hB va kv .char (4 : Int32) [(.int c0), (.int c1), (.int c2), (.int c3)] (.int (0 : Int32))) (hr0 : own_R c0) (hr1 : own_R c1) (hr2 : own_R c2) (hr3 : own_R c3) (SC : Sta Z Z.heap "java/lang/String" "COMPACT_STRINGS" "Z" (.int cz)) (hcz : ¬ cz = (0 : Int32)) (SA : Sta Z Z.heap "java/lang/StringUTF16" "$assertionsDisabled" "Z" (.int (1 : Int32))) (SHI : Sta Z Z.heap "java/lang/StringUTF16" "HI_BYTE_SHIFT" "I" (.int (0 : Int32))) (SLO : Sta Z Z.heap "java/lang/StringUTF16" "LO_BYTE_SHIFT" "I" (.int (8 : Int32))) (SF : Sta Z Z.heap "jdk/internal/util/Preconditions" "SIOOBE_FORMATTER" "Ljava/util/function/BiFunction;" fm) (hfm : fm.isRef = true) (HFe : own_f [] = okv) :
    own_W p e below s room_1.cells room_1.slots Z consts_1 h0 (own_L n0) T0 (mkF m 93 #[iv i0, iv i1, iv i2, iv i3, iv i4, iv (0 : Int32), rv va, iv okv, .unset] []) := by
  have hEL := own_EW hw
  refine own_stW (T' := T0) (g' := (mkF m 95 #[iv i0, iv i1, iv i2, iv i3, iv i4, iv (0 : Int32), rv va, iv okv, .unset] [(.ref va)])) (fun _ k_ => XS.aload X0.here hx rfl (hb hby at_93) rfl rfl  k_) ?_
  refine own_stW (T' := T0) (g' := (mkF m 97 #[iv i0, iv i1, iv i2, iv i3, iv i4, iv (0 : Int32), rv va, iv okv, .unset] [(.int (0 : Int32)), (.ref va)])) (fun _ k_ => XS.iload X0.here hx rfl (hb hby at_95) rfl  k_) ?_
  obtain ⟨_, T1, L1, X1, hS1, hQ1, ch1, st1⟩ := own_callSW X0 hx (y := own_m28) hown (mvT hZ (wd hw 12 rfl)) (mvT hZ (wd hw 13 rfl)) (mvT hZ (wd hw 4 rfl)) (mvT hZ (wd hw 14 rfl)) (by decide) (own_backW (W := 0) (rm_str0 l Z a0 hw [] va kv c0 c1 c2 c3 cz hB n0 O0 VA hr0 hr1 hr2 hr3 SC hcz) hZ (wd hw 14 rfl) (wd hw 4 rfl) (by decide) (by decide) hEL CR0.1 sf0 all0) (g := (mkF m 97 #[iv i0, iv i1, iv i2, iv i3, iv i4, iv (0 : Int32), rv va, iv okv, .unset] [(.int (0 : Int32)), (.ref va)])) rfl (by rw [hml]; rfl) (argsL := [(.ref va), (.int (0 : Int32))]) (rest := []) (lenOf pd___CI_Ljava_lang_String_ rfl) rfl (by show 2 * 0 + _ ≤ _; exact Nat.le_of_eq rfl) (hb hby at_97) rfl e0 (by decide) (by decide) (c' := 7) (s' := 16) rfl rfl hS0 hk0
  obtain ⟨b1, rfl, Nq1, K1, fq1_0, fq1_1⟩ := hQ1
  have N1 := Fr.app N0 Nq1
  have CR2 := CR0.trans ch1
  have hZ1 : Z.Warmed39 (s.setVm T1.vm).vm := own_hZ hZs hS1
  have hown1 : (s.setVm T1.vm).vm.findClass "com/example/countersign/countersign/scheme/Utf8HasFormPinLaw" = some m.cls := own_hown howns hS1
  refine own_stW (T' := T1) (g' := (mkF m 100 #[iv i0, iv i1, iv i2, iv i3, iv i4, iv (0 : Int32), rv va, iv okv, .unset] [(.ref b1)])) st1 ?_
  clear st1
  refine own_stW (T' := T1) (g' := (mkF m 102 #[iv i0, iv i1, iv i2, iv i3, iv i4, iv (0 : Int32), rv va, iv okv, rv b1] [])) (fun _ k_ => XS.astore X1.here hx rfl (hb hby at_100) rfl rfl (l' := #[iv i0, iv i1, iv i2, iv i3, iv i4, iv (0 : Int32), rv va, iv okv, rv b1]) rfl k_) ?_
  refine own_stW (T' := T1) (g' := (mkF m 104 #[iv i0, iv i1, iv i2, iv i3, iv i4, iv (0 : Int32), rv va, iv okv, rv b1] [(.ref b1)])) (fun _ k_ => XS.aload X1.here hx rfl (hb hby at_102) rfl rfl  k_) ?_
  have f3 := O0.keep K1 all0
  obtain ⟨_, T4, L4, X4, hQ4, st4⟩ := own_callS X1 hx (y := own_m25) hown1 (mvT hZ1 (wd hw 36 rfl)) (mvT hZ1 (wd hw 37 rfl)) (mvT hZ1 (wd hw 38 rfl)) (mvT hZ1 (wd hw 39 rfl)) (by decide) (backOf (W := 0) (rm_hasf l Z a0 hw [] b1 [] cz fm T1.heap n0 f3 fq1_0 fq1_1 (Nat.le_of_ble_eq_true rfl) SC hcz SA SHI SLO SF hfm) hZ1 (wd hw 39 rfl) (wd hw 38 rfl) (by decide) (by decide)) (g := (mkF m 104 #[iv i0, iv i1, iv i2, iv i3, iv i4, iv (0 : Int32), rv va, iv okv, rv b1] [(.ref b1)])) rfl (by rw [hml]; rfl) (argsL := [(.ref b1)]) (rest := []) (lenOf pd__Ljava_lang_String__Z rfl) rfl (by show 2 * 0 + _ ≤ _; exact Nat.le_of_eq rfl) (hb hby at_104) rfl rfl (by decide) (by decide) (c' := 7) (s' := 16) rfl rfl
  obtain ⟨rfl, Nq4, eq4⟩ := hQ4
  have N4 := Fr.app N1 Nq4
  refine own_stW (T' := T4) (g' := (mkF m 107 #[iv i0, iv i1, iv i2, iv i3, iv i4, iv (0 : Int32), rv va, iv okv, rv b1] [(.int (own_f []))])) st4 ?_
  clear st4
  refine own_stW (T' := T4) (g' := (mkF m 109 #[iv i0, iv i1, iv i2, iv i3, iv i4, iv (0 : Int32), rv va, iv okv, rv b1] [(.int okv), (.int (own_f []))])) (fun _ k_ => XS.iload X4.here hx rfl (hb hby at_107) rfl  k_) ?_
  refine own_stW (T' := T4) (g' := (mkF m 112 #[iv i0, iv i1, iv i2, iv i3, iv i4, iv (0 : Int32), rv va, iv okv, rv b1] [])) (fun _ k_ => XS.icmpNo X4.here hx rfl (hb hby at_109) rfl (teq (HFe : (own_f []) = okv)).2 k_) ?_
  refine own_stW (T' := T4) (g' := (mkF m 113 #[iv i0, iv i1, iv i2, iv i3, iv i4, iv (0 : Int32), rv va, iv okv, rv b1] [(.int (1 : Int32))])) (fun _ k_ => XS.iconst X4.here hx rfl (hb hby at_112) k_) ?_
  refine own_stW (T' := T4) (g' := (mkF m 117 #[iv i0, iv i1, iv i2, iv i3, iv i4, iv (0 : Int32), rv va, iv okv, rv b1] [(.int (1 : Int32))])) (fun _ k_ => XS.goto X4.here hx rfl (pc0 := 113) (pc' := 117) rfl (hb hby at_113) (by decide) (by decide) k_) ?_
  exact own_retNW X4 hZ1 hS1 (by rw [eq4]; exact (Nat.le_refl _)) hEL (by rw [eq4]; exact CR2) hx (t := .boolean) hret (by simp) hlk (hb hby at_117) (by decide) (by decide) ⟨rfl, N4⟩
set_option maxHeartbeats 40000000 in
theorem own_law1 (c0 c1 c2 c3 : Int32) : own_f [c0] = own_okall (1 : Int32) c0 c1 c2 c3 := by
  rcases own_cls c0 with ⟨a0, b0, d0, e0, f0⟩ | ⟨a0, b0, d0, e0, f0⟩ | ⟨a0, b0, d0, e0, f0⟩ <;>
  simp [own_f, own_okall, own_ok0, own_ok1, own_ok2, own_ok3, a0, b0, d0, e0, f0]
set_option maxRecDepth 65536 in
set_option maxHeartbeats 40000000 in
theorem seg_tl1 {p : Program} {l : Launch} {e : Env} {s : State} {m : MethodId} {args : Array Value} {below : List Frame} {meth : Method} {c : Code} {T0 : State} {locs : List Loc} {Z : State} {a0 : Array Value} {vm0 : Vm} {k0 : Nat} (h0 : Heap) (hB : Heap) (n0 : Nat) (i0 : Int32) (i1 : Int32) (i2 : Int32) (i3 : Int32) (i4 : Int32) (va : Addr) (kv : ClassId) (c0 : Int32) (c1 : Int32) (c2 : Int32) (c3 : Int32) (cz : Int32) (fm : Value) (okv : Int32)
    (X0 : Stand p l e room_1 (s.setVm vm0) m args below meth c T0 locs 1 4) (hx : p.tables.exec = Jvm.exec) (hZs : Z.Warmed39 s.vm) (hZ : Z.Warmed39 (s.setVm vm0).vm) (hS0 : s.Since vm0 k0) (hk0 : k0 ≤ hB.size) (CR0 : CHr Z consts_1 s.vm h0 vm0 hB) (hw : ∀ d ∈ tables_1, d.before a0 Z = true) (hby : c.code = code) (hml : c.maxLocals = 9) (howns : s.vm.findClass "com/example/countersign/countersign/scheme/Utf8HasFormPinLaw" = some m.cls) (hown : (s.setVm vm0).vm.findClass "com/example/countersign/countersign/scheme/Utf8HasFormPinLaw" = some m.cls) (hnm : meth.name = "law") (hret : meth.sig.returnType = some .boolean) (hlk : meth.locks = false) (e0 : T0.heap = hB) (N0 : Fr n0 locs) (O0 : Old Z n0 hB) (VA : Arv Z hB va kv .char (4 : Int32) [(.int c0), (.int c1), (.int c2), (.int c3)] (.int (0 : Int32))) (hr0 : own_R c0) (hr1 : own_R c1) (hr2 : own_R c2) (hr3 : own_R c3) (SC : Sta Z Z.heap "java/lang/String" "COMPACT_STRINGS" "Z" (.int cz)) (hcz : ¬ cz = (0 : Int32)) (SA : Sta Z Z.heap "java/lang/StringUTF16" "$assertionsDisabled" "Z" (.int (1 : Int32))) (SHI : Sta Z Z.heap "java/lang/StringUTF16" "HI_BYTE_SHIFT" "I" (.int (0 : Int32))) (SLO : Sta Z Z.heap "java/lang/StringUTF16" "LO_BYTE_SHIFT" "I" (.int (8 : Int32))) (SF : Sta Z Z.heap "jdk/internal/util/Preconditions" "SIOOBE_FORMATTER" "Ljava/util/function/BiFunction;" fm) (hfm : fm.isRef = true) (HFe : own_f [c0] = okv) :
    own_W p e below s room_1.cells room_1.slots Z consts_1 h0 (own_L n0) T0 (mkF m 93 #[iv i0, iv i1, iv i2, iv i3, iv i4, iv (1 : Int32), rv va, iv okv, .unset] []) := by
  have hEL := own_EW hw
  refine own_stW (T' := T0) (g' := (mkF m 95 #[iv i0, iv i1, iv i2, iv i3, iv i4, iv (1 : Int32), rv va, iv okv, .unset] [(.ref va)])) (fun _ k_ => XS.aload X0.here hx rfl (hb hby at_93) rfl rfl  k_) ?_
  refine own_stW (T' := T0) (g' := (mkF m 97 #[iv i0, iv i1, iv i2, iv i3, iv i4, iv (1 : Int32), rv va, iv okv, .unset] [(.int (1 : Int32)), (.ref va)])) (fun _ k_ => XS.iload X0.here hx rfl (hb hby at_95) rfl  k_) ?_
  obtain ⟨_, T1, L1, X1, hQ1, st1⟩ := own_callS X0 hx (y := own_m28) hown (mvT hZ (wd hw 12 rfl)) (mvT hZ (wd hw 13 rfl)) (mvT hZ (wd hw 4 rfl)) (mvT hZ (wd hw 14 rfl)) (by decide) (backOf (W := 0) (rm_str1 l Z a0 hw [] va kv c0 c1 c2 c3 cz hB n0 O0 VA hr0 hr1 hr2 hr3 SC hcz SA SHI SLO) hZ (wd hw 14 rfl) (wd hw 4 rfl) (by decide) (by decide)) (g := (mkF m 97 #[iv i0, iv i1, iv i2, iv i3, iv i4, iv (1 : Int32), rv va, iv okv, .unset] [(.int (1 : Int32)), (.ref va)])) rfl (by rw [hml]; rfl) (argsL := [(.ref va), (.int (1 : Int32))]) (rest := []) (lenOf pd___CI_Ljava_lang_String_ rfl) rfl (by show 2 * 0 + _ ≤ _; exact Nat.le_of_eq rfl) (hb hby at_97) rfl e0 (by decide) (by decide) (c' := 5) (s' := 12) rfl rfl
  obtain ⟨b1, rfl, Nq1, K1, fq1_0, fq1_1⟩ := hQ1
  have N1 := Fr.app N0 Nq1
  have CR2 := CR0.trans (CHr.keep K1 sf0 CR0.1)
  refine own_stW (T' := T1) (g' := (mkF m 100 #[iv i0, iv i1, iv i2, iv i3, iv i4, iv (1 : Int32), rv va, iv okv, .unset] [(.ref b1)])) st1 ?_
  clear st1
  refine own_stW (T' := T1) (g' := (mkF m 102 #[iv i0, iv i1, iv i2, iv i3, iv i4, iv (1 : Int32), rv va, iv okv, rv b1] [])) (fun _ k_ => XS.astore X1.here hx rfl (hb hby at_100) rfl rfl (l' := #[iv i0, iv i1, iv i2, iv i3, iv i4, iv (1 : Int32), rv va, iv okv, rv b1]) rfl k_) ?_
  refine own_stW (T' := T1) (g' := (mkF m 104 #[iv i0, iv i1, iv i2, iv i3, iv i4, iv (1 : Int32), rv va, iv okv, rv b1] [(.ref b1)])) (fun _ k_ => XS.aload X1.here hx rfl (hb hby at_102) rfl rfl  k_) ?_
  have f3 := O0.keep K1 all0
  obtain ⟨_, T4, L4, X4, hQ4, st4⟩ := own_callS X1 hx (y := own_m25) hown (mvT hZ (wd hw 36 rfl)) (mvT hZ (wd hw 37 rfl)) (mvT hZ (wd hw 38 rfl)) (mvT hZ (wd hw 39 rfl)) (by decide) (backOf (W := 0) (rm_hasf l Z a0 hw [] b1 [c0] cz fm T1.heap n0 f3 fq1_0 fq1_1 (Nat.le_of_ble_eq_true rfl) SC hcz SA SHI SLO SF hfm) hZ (wd hw 39 rfl) (wd hw 38 rfl) (by decide) (by decide)) (g := (mkF m 104 #[iv i0, iv i1, iv i2, iv i3, iv i4, iv (1 : Int32), rv va, iv okv, rv b1] [(.ref b1)])) rfl (by rw [hml]; rfl) (argsL := [(.ref b1)]) (rest := []) (lenOf pd__Ljava_lang_String__Z rfl) rfl (by show 2 * 0 + _ ≤ _; exact Nat.le_of_eq rfl) (hb hby at_104) rfl rfl (by decide) (by decide) (c' := 5) (s' := 12) rfl rfl
  obtain ⟨rfl, Nq4, eq4⟩ := hQ4
  have N4 := Fr.app N1 Nq4
  refine own_stW (T' := T4) (g' := (mkF m 107 #[iv i0, iv i1, iv i2, iv i3, iv i4, iv (1 : Int32), rv va, iv okv, rv b1] [(.int (own_f [c0]))])) st4 ?_
  clear st4
  refine own_stW (T' := T4) (g' := (mkF m 109 #[iv i0, iv i1, iv i2, iv i3, iv i4, iv (1 : Int32), rv va, iv okv, rv b1] [(.int okv), (.int (own_f [c0]))])) (fun _ k_ => XS.iload X4.here hx rfl (hb hby at_107) rfl  k_) ?_
  refine own_stW (T' := T4) (g' := (mkF m 112 #[iv i0, iv i1, iv i2, iv i3, iv i4, iv (1 : Int32), rv va, iv okv, rv b1] [])) (fun _ k_ => XS.icmpNo X4.here hx rfl (hb hby at_109) rfl (teq (HFe : (own_f [c0]) = okv)).2 k_) ?_
  refine own_stW (T' := T4) (g' := (mkF m 113 #[iv i0, iv i1, iv i2, iv i3, iv i4, iv (1 : Int32), rv va, iv okv, rv b1] [(.int (1 : Int32))])) (fun _ k_ => XS.iconst X4.here hx rfl (hb hby at_112) k_) ?_
  refine own_stW (T' := T4) (g' := (mkF m 117 #[iv i0, iv i1, iv i2, iv i3, iv i4, iv (1 : Int32), rv va, iv okv, rv b1] [(.int (1 : Int32))])) (fun _ k_ => XS.goto X4.here hx rfl (pc0 := 113) (pc' := 117) rfl (hb hby at_113) (by decide) (by decide) k_) ?_
  exact own_retNW X4 hZ hS0 (by rw [eq4]; exact (Nat.le_trans hk0 K1.1)) hEL (by rw [eq4]; exact CR2) hx (t := .boolean) hret (by simp) hlk (hb hby at_117) (by decide) (by decide) ⟨rfl, N4⟩
set_option maxHeartbeats 40000000 in
theorem own_law2 (c0 c1 c2 c3 : Int32) : own_f [c0, c1] = own_okall (2 : Int32) c0 c1 c2 c3 := by
  rcases own_cls c0 with ⟨a0, b0, d0, e0, f0⟩ | ⟨a0, b0, d0, e0, f0⟩ | ⟨a0, b0, d0, e0, f0⟩ <;>
  rcases own_cls c1 with ⟨a1, b1, d1, e1, f1⟩ | ⟨a1, b1, d1, e1, f1⟩ | ⟨a1, b1, d1, e1, f1⟩ <;>
  simp [own_f, own_okall, own_ok0, own_ok1, own_ok2, own_ok3, a0, b0, d0, e0, f0, a1, b1, d1, e1, f1]
set_option maxRecDepth 65536 in
set_option maxHeartbeats 40000000 in
theorem seg_tl2 {p : Program} {l : Launch} {e : Env} {s : State} {m : MethodId} {args : Array Value} {below : List Frame} {meth : Method} {c : Code} {T0 : State} {locs : List Loc} {Z : State} {a0 : Array Value} {vm0 : Vm} {k0 : Nat} (h0 : Heap) (hB : Heap) (n0 : Nat) (i0 : Int32) (i1 : Int32) (i2 : Int32) (i3 : Int32) (i4 : Int32) (va : Addr) (kv : ClassId) (c0 : Int32) (c1 : Int32) (c2 : Int32) (c3 : Int32) (cz : Int32) (fm : Value) (okv : Int32)
    (X0 : Stand p l e room_1 (s.setVm vm0) m args below meth c T0 locs 1 4) (hx : p.tables.exec = Jvm.exec) (hZs : Z.Warmed39 s.vm) (hZ : Z.Warmed39 (s.setVm vm0).vm) (hS0 : s.Since vm0 k0) (hk0 : k0 ≤ hB.size) (CR0 : CHr Z consts_1 s.vm h0 vm0 hB) (hw : ∀ d ∈ tables_1, d.before a0 Z = true) (hby : c.code = code) (hml : c.maxLocals = 9) (howns : s.vm.findClass "com/example/countersign/countersign/scheme/Utf8HasFormPinLaw" = some m.cls) (hown : (s.setVm vm0).vm.findClass "com/example/countersign/countersign/scheme/Utf8HasFormPinLaw" = some m.cls) (hnm : meth.name = "law") (hret : meth.sig.returnType = some .boolean) (hlk : meth.locks = false) (e0 : T0.heap = hB) (N0 : Fr n0 locs) (O0 : Old Z n0 hB) (VA : Arv Z hB va kv .char (4 : Int32) [(.int c0), (.int c1), (.int c2), (.int c3)] (.int (0 : Int32))) (hr0 : own_R c0) (hr1 : own_R c1) (hr2 : own_R c2) (hr3 : own_R c3) (SC : Sta Z Z.heap "java/lang/String" "COMPACT_STRINGS" "Z" (.int cz)) (hcz : ¬ cz = (0 : Int32)) (SA : Sta Z Z.heap "java/lang/StringUTF16" "$assertionsDisabled" "Z" (.int (1 : Int32))) (SHI : Sta Z Z.heap "java/lang/StringUTF16" "HI_BYTE_SHIFT" "I" (.int (0 : Int32))) (SLO : Sta Z Z.heap "java/lang/StringUTF16" "LO_BYTE_SHIFT" "I" (.int (8 : Int32))) (SF : Sta Z Z.heap "jdk/internal/util/Preconditions" "SIOOBE_FORMATTER" "Ljava/util/function/BiFunction;" fm) (hfm : fm.isRef = true) (HFe : own_f [c0, c1] = okv) :
    own_W p e below s room_1.cells room_1.slots Z consts_1 h0 (own_L n0) T0 (mkF m 93 #[iv i0, iv i1, iv i2, iv i3, iv i4, iv (2 : Int32), rv va, iv okv, .unset] []) := by
  have hEL := own_EW hw
  refine own_stW (T' := T0) (g' := (mkF m 95 #[iv i0, iv i1, iv i2, iv i3, iv i4, iv (2 : Int32), rv va, iv okv, .unset] [(.ref va)])) (fun _ k_ => XS.aload X0.here hx rfl (hb hby at_93) rfl rfl  k_) ?_
  refine own_stW (T' := T0) (g' := (mkF m 97 #[iv i0, iv i1, iv i2, iv i3, iv i4, iv (2 : Int32), rv va, iv okv, .unset] [(.int (2 : Int32)), (.ref va)])) (fun _ k_ => XS.iload X0.here hx rfl (hb hby at_95) rfl  k_) ?_
  obtain ⟨_, T1, L1, X1, hQ1, st1⟩ := own_callS X0 hx (y := own_m28) hown (mvT hZ (wd hw 12 rfl)) (mvT hZ (wd hw 13 rfl)) (mvT hZ (wd hw 4 rfl)) (mvT hZ (wd hw 14 rfl)) (by decide) (backOf (W := 0) (rm_str2 l Z a0 hw [] va kv c0 c1 c2 c3 cz hB n0 O0 VA hr0 hr1 hr2 hr3 SC hcz SA SHI SLO) hZ (wd hw 14 rfl) (wd hw 4 rfl) (by decide) (by decide)) (g := (mkF m 97 #[iv i0, iv i1, iv i2, iv i3, iv i4, iv (2 : Int32), rv va, iv okv, .unset] [(.int (2 : Int32)), (.ref va)])) rfl (by rw [hml]; rfl) (argsL := [(.ref va), (.int (2 : Int32))]) (rest := []) (lenOf pd___CI_Ljava_lang_String_ rfl) rfl (by show 2 * 0 + _ ≤ _; exact Nat.le_of_eq rfl) (hb hby at_97) rfl e0 (by decide) (by decide) (c' := 5) (s' := 16) rfl rfl
  obtain ⟨b1, rfl, Nq1, K1, fq1_0, fq1_1⟩ := hQ1
  have N1 := Fr.app N0 Nq1
  have CR2 := CR0.trans (CHr.keep K1 sf0 CR0.1)
  refine own_stW (T' := T1) (g' := (mkF m 100 #[iv i0, iv i1, iv i2, iv i3, iv i4, iv (2 : Int32), rv va, iv okv, .unset] [(.ref b1)])) st1 ?_
  clear st1
  refine own_stW (T' := T1) (g' := (mkF m 102 #[iv i0, iv i1, iv i2, iv i3, iv i4, iv (2 : Int32), rv va, iv okv, rv b1] [])) (fun _ k_ => XS.astore X1.here hx rfl (hb hby at_100) rfl rfl (l' := #[iv i0, iv i1, iv i2, iv i3, iv i4, iv (2 : Int32), rv va, iv okv, rv b1]) rfl k_) ?_
  refine own_stW (T' := T1) (g' := (mkF m 104 #[iv i0, iv i1, iv i2, iv i3, iv i4, iv (2 : Int32), rv va, iv okv, rv b1] [(.ref b1)])) (fun _ k_ => XS.aload X1.here hx rfl (hb hby at_102) rfl rfl  k_) ?_
  have f3 := O0.keep K1 all0
  obtain ⟨_, T4, L4, X4, hQ4, st4⟩ := own_callS X1 hx (y := own_m25) hown (mvT hZ (wd hw 36 rfl)) (mvT hZ (wd hw 37 rfl)) (mvT hZ (wd hw 38 rfl)) (mvT hZ (wd hw 39 rfl)) (by decide) (backOf (W := 0) (rm_hasf l Z a0 hw [] b1 [c0, c1] cz fm T1.heap n0 f3 fq1_0 fq1_1 (Nat.le_of_ble_eq_true rfl) SC hcz SA SHI SLO SF hfm) hZ (wd hw 39 rfl) (wd hw 38 rfl) (by decide) (by decide)) (g := (mkF m 104 #[iv i0, iv i1, iv i2, iv i3, iv i4, iv (2 : Int32), rv va, iv okv, rv b1] [(.ref b1)])) rfl (by rw [hml]; rfl) (argsL := [(.ref b1)]) (rest := []) (lenOf pd__Ljava_lang_String__Z rfl) rfl (by show 2 * 0 + _ ≤ _; exact Nat.le_of_eq rfl) (hb hby at_104) rfl rfl (by decide) (by decide) (c' := 5) (s' := 16) rfl rfl
  obtain ⟨rfl, Nq4, eq4⟩ := hQ4
  have N4 := Fr.app N1 Nq4
  refine own_stW (T' := T4) (g' := (mkF m 107 #[iv i0, iv i1, iv i2, iv i3, iv i4, iv (2 : Int32), rv va, iv okv, rv b1] [(.int (own_f [c0, c1]))])) st4 ?_
  clear st4
  refine own_stW (T' := T4) (g' := (mkF m 109 #[iv i0, iv i1, iv i2, iv i3, iv i4, iv (2 : Int32), rv va, iv okv, rv b1] [(.int okv), (.int (own_f [c0, c1]))])) (fun _ k_ => XS.iload X4.here hx rfl (hb hby at_107) rfl  k_) ?_
  refine own_stW (T' := T4) (g' := (mkF m 112 #[iv i0, iv i1, iv i2, iv i3, iv i4, iv (2 : Int32), rv va, iv okv, rv b1] [])) (fun _ k_ => XS.icmpNo X4.here hx rfl (hb hby at_109) rfl (teq (HFe : (own_f [c0, c1]) = okv)).2 k_) ?_
  refine own_stW (T' := T4) (g' := (mkF m 113 #[iv i0, iv i1, iv i2, iv i3, iv i4, iv (2 : Int32), rv va, iv okv, rv b1] [(.int (1 : Int32))])) (fun _ k_ => XS.iconst X4.here hx rfl (hb hby at_112) k_) ?_
  refine own_stW (T' := T4) (g' := (mkF m 117 #[iv i0, iv i1, iv i2, iv i3, iv i4, iv (2 : Int32), rv va, iv okv, rv b1] [(.int (1 : Int32))])) (fun _ k_ => XS.goto X4.here hx rfl (pc0 := 113) (pc' := 117) rfl (hb hby at_113) (by decide) (by decide) k_) ?_
  exact own_retNW X4 hZ hS0 (by rw [eq4]; exact (Nat.le_trans hk0 K1.1)) hEL (by rw [eq4]; exact CR2) hx (t := .boolean) hret (by simp) hlk (hb hby at_117) (by decide) (by decide) ⟨rfl, N4⟩
set_option maxHeartbeats 40000000 in
theorem own_law3 (c0 c1 c2 c3 : Int32) : own_f [c0, c1, c2] = own_okall (3 : Int32) c0 c1 c2 c3 := by
  rcases own_cls c0 with ⟨a0, b0, d0, e0, f0⟩ | ⟨a0, b0, d0, e0, f0⟩ | ⟨a0, b0, d0, e0, f0⟩ <;>
  rcases own_cls c1 with ⟨a1, b1, d1, e1, f1⟩ | ⟨a1, b1, d1, e1, f1⟩ | ⟨a1, b1, d1, e1, f1⟩ <;>
  rcases own_cls c2 with ⟨a2, b2, d2, e2, f2⟩ | ⟨a2, b2, d2, e2, f2⟩ | ⟨a2, b2, d2, e2, f2⟩ <;>
  simp [own_f, own_okall, own_ok0, own_ok1, own_ok2, own_ok3, a0, b0, d0, e0, f0, a1, b1, d1, e1, f1, a2, b2, d2, e2, f2]
set_option maxRecDepth 65536 in
set_option maxHeartbeats 40000000 in
theorem seg_tl3 {p : Program} {l : Launch} {e : Env} {s : State} {m : MethodId} {args : Array Value} {below : List Frame} {meth : Method} {c : Code} {T0 : State} {locs : List Loc} {Z : State} {a0 : Array Value} {vm0 : Vm} {k0 : Nat} (h0 : Heap) (hB : Heap) (n0 : Nat) (i0 : Int32) (i1 : Int32) (i2 : Int32) (i3 : Int32) (i4 : Int32) (va : Addr) (kv : ClassId) (c0 : Int32) (c1 : Int32) (c2 : Int32) (c3 : Int32) (cz : Int32) (fm : Value) (okv : Int32)
    (X0 : Stand p l e room_1 (s.setVm vm0) m args below meth c T0 locs 1 4) (hx : p.tables.exec = Jvm.exec) (hZs : Z.Warmed39 s.vm) (hZ : Z.Warmed39 (s.setVm vm0).vm) (hS0 : s.Since vm0 k0) (hk0 : k0 ≤ hB.size) (CR0 : CHr Z consts_1 s.vm h0 vm0 hB) (hw : ∀ d ∈ tables_1, d.before a0 Z = true) (hby : c.code = code) (hml : c.maxLocals = 9) (howns : s.vm.findClass "com/example/countersign/countersign/scheme/Utf8HasFormPinLaw" = some m.cls) (hown : (s.setVm vm0).vm.findClass "com/example/countersign/countersign/scheme/Utf8HasFormPinLaw" = some m.cls) (hnm : meth.name = "law") (hret : meth.sig.returnType = some .boolean) (hlk : meth.locks = false) (e0 : T0.heap = hB) (N0 : Fr n0 locs) (O0 : Old Z n0 hB) (VA : Arv Z hB va kv .char (4 : Int32) [(.int c0), (.int c1), (.int c2), (.int c3)] (.int (0 : Int32))) (hr0 : own_R c0) (hr1 : own_R c1) (hr2 : own_R c2) (hr3 : own_R c3) (SC : Sta Z Z.heap "java/lang/String" "COMPACT_STRINGS" "Z" (.int cz)) (hcz : ¬ cz = (0 : Int32)) (SA : Sta Z Z.heap "java/lang/StringUTF16" "$assertionsDisabled" "Z" (.int (1 : Int32))) (SHI : Sta Z Z.heap "java/lang/StringUTF16" "HI_BYTE_SHIFT" "I" (.int (0 : Int32))) (SLO : Sta Z Z.heap "java/lang/StringUTF16" "LO_BYTE_SHIFT" "I" (.int (8 : Int32))) (SF : Sta Z Z.heap "jdk/internal/util/Preconditions" "SIOOBE_FORMATTER" "Ljava/util/function/BiFunction;" fm) (hfm : fm.isRef = true) (HFe : own_f [c0, c1, c2] = okv) :
    own_W p e below s room_1.cells room_1.slots Z consts_1 h0 (own_L n0) T0 (mkF m 93 #[iv i0, iv i1, iv i2, iv i3, iv i4, iv (3 : Int32), rv va, iv okv, .unset] []) := by
  have hEL := own_EW hw
  refine own_stW (T' := T0) (g' := (mkF m 95 #[iv i0, iv i1, iv i2, iv i3, iv i4, iv (3 : Int32), rv va, iv okv, .unset] [(.ref va)])) (fun _ k_ => XS.aload X0.here hx rfl (hb hby at_93) rfl rfl  k_) ?_
  refine own_stW (T' := T0) (g' := (mkF m 97 #[iv i0, iv i1, iv i2, iv i3, iv i4, iv (3 : Int32), rv va, iv okv, .unset] [(.int (3 : Int32)), (.ref va)])) (fun _ k_ => XS.iload X0.here hx rfl (hb hby at_95) rfl  k_) ?_
  obtain ⟨_, T1, L1, X1, hQ1, st1⟩ := own_callS X0 hx (y := own_m28) hown (mvT hZ (wd hw 12 rfl)) (mvT hZ (wd hw 13 rfl)) (mvT hZ (wd hw 4 rfl)) (mvT hZ (wd hw 14 rfl)) (by decide) (backOf (W := 0) (rm_str3 l Z a0 hw [] va kv c0 c1 c2 c3 cz hB n0 O0 VA hr0 hr1 hr2 hr3 SC hcz SA SHI SLO) hZ (wd hw 14 rfl) (wd hw 4 rfl) (by decide) (by decide)) (g := (mkF m 97 #[iv i0, iv i1, iv i2, iv i3, iv i4, iv (3 : Int32), rv va, iv okv, .unset] [(.int (3 : Int32)), (.ref va)])) rfl (by rw [hml]; rfl) (argsL := [(.ref va), (.int (3 : Int32))]) (rest := []) (lenOf pd___CI_Ljava_lang_String_ rfl) rfl (by show 2 * 0 + _ ≤ _; exact Nat.le_of_eq rfl) (hb hby at_97) rfl e0 (by decide) (by decide) (c' := 5) (s' := 20) rfl rfl
  obtain ⟨b1, rfl, Nq1, K1, fq1_0, fq1_1⟩ := hQ1
  have N1 := Fr.app N0 Nq1
  have CR2 := CR0.trans (CHr.keep K1 sf0 CR0.1)
  refine own_stW (T' := T1) (g' := (mkF m 100 #[iv i0, iv i1, iv i2, iv i3, iv i4, iv (3 : Int32), rv va, iv okv, .unset] [(.ref b1)])) st1 ?_
  clear st1
  refine own_stW (T' := T1) (g' := (mkF m 102 #[iv i0, iv i1, iv i2, iv i3, iv i4, iv (3 : Int32), rv va, iv okv, rv b1] [])) (fun _ k_ => XS.astore X1.here hx rfl (hb hby at_100) rfl rfl (l' := #[iv i0, iv i1, iv i2, iv i3, iv i4, iv (3 : Int32), rv va, iv okv, rv b1]) rfl k_) ?_
  refine own_stW (T' := T1) (g' := (mkF m 104 #[iv i0, iv i1, iv i2, iv i3, iv i4, iv (3 : Int32), rv va, iv okv, rv b1] [(.ref b1)])) (fun _ k_ => XS.aload X1.here hx rfl (hb hby at_102) rfl rfl  k_) ?_
  have f3 := O0.keep K1 all0
  obtain ⟨_, T4, L4, X4, hQ4, st4⟩ := own_callS X1 hx (y := own_m25) hown (mvT hZ (wd hw 36 rfl)) (mvT hZ (wd hw 37 rfl)) (mvT hZ (wd hw 38 rfl)) (mvT hZ (wd hw 39 rfl)) (by decide) (backOf (W := 0) (rm_hasf l Z a0 hw [] b1 [c0, c1, c2] cz fm T1.heap n0 f3 fq1_0 fq1_1 (Nat.le_of_ble_eq_true rfl) SC hcz SA SHI SLO SF hfm) hZ (wd hw 39 rfl) (wd hw 38 rfl) (by decide) (by decide)) (g := (mkF m 104 #[iv i0, iv i1, iv i2, iv i3, iv i4, iv (3 : Int32), rv va, iv okv, rv b1] [(.ref b1)])) rfl (by rw [hml]; rfl) (argsL := [(.ref b1)]) (rest := []) (lenOf pd__Ljava_lang_String__Z rfl) rfl (by show 2 * 0 + _ ≤ _; exact Nat.le_of_eq rfl) (hb hby at_104) rfl rfl (by decide) (by decide) (c' := 5) (s' := 20) rfl rfl
  obtain ⟨rfl, Nq4, eq4⟩ := hQ4
  have N4 := Fr.app N1 Nq4
  refine own_stW (T' := T4) (g' := (mkF m 107 #[iv i0, iv i1, iv i2, iv i3, iv i4, iv (3 : Int32), rv va, iv okv, rv b1] [(.int (own_f [c0, c1, c2]))])) st4 ?_
  clear st4
  refine own_stW (T' := T4) (g' := (mkF m 109 #[iv i0, iv i1, iv i2, iv i3, iv i4, iv (3 : Int32), rv va, iv okv, rv b1] [(.int okv), (.int (own_f [c0, c1, c2]))])) (fun _ k_ => XS.iload X4.here hx rfl (hb hby at_107) rfl  k_) ?_
  refine own_stW (T' := T4) (g' := (mkF m 112 #[iv i0, iv i1, iv i2, iv i3, iv i4, iv (3 : Int32), rv va, iv okv, rv b1] [])) (fun _ k_ => XS.icmpNo X4.here hx rfl (hb hby at_109) rfl (teq (HFe : (own_f [c0, c1, c2]) = okv)).2 k_) ?_
  refine own_stW (T' := T4) (g' := (mkF m 113 #[iv i0, iv i1, iv i2, iv i3, iv i4, iv (3 : Int32), rv va, iv okv, rv b1] [(.int (1 : Int32))])) (fun _ k_ => XS.iconst X4.here hx rfl (hb hby at_112) k_) ?_
  refine own_stW (T' := T4) (g' := (mkF m 117 #[iv i0, iv i1, iv i2, iv i3, iv i4, iv (3 : Int32), rv va, iv okv, rv b1] [(.int (1 : Int32))])) (fun _ k_ => XS.goto X4.here hx rfl (pc0 := 113) (pc' := 117) rfl (hb hby at_113) (by decide) (by decide) k_) ?_
  exact own_retNW X4 hZ hS0 (by rw [eq4]; exact (Nat.le_trans hk0 K1.1)) hEL (by rw [eq4]; exact CR2) hx (t := .boolean) hret (by simp) hlk (hb hby at_117) (by decide) (by decide) ⟨rfl, N4⟩
set_option maxHeartbeats 40000000 in
theorem own_law4 (c0 c1 c2 c3 : Int32) : own_f [c0, c1, c2, c3] = own_okall (4 : Int32) c0 c1 c2 c3 := by
  rcases own_cls c0 with ⟨a0, b0, d0, e0, f0⟩ | ⟨a0, b0, d0, e0, f0⟩ | ⟨a0, b0, d0, e0, f0⟩ <;>
  rcases own_cls c1 with ⟨a1, b1, d1, e1, f1⟩ | ⟨a1, b1, d1, e1, f1⟩ | ⟨a1, b1, d1, e1, f1⟩ <;>
  rcases own_cls c2 with ⟨a2, b2, d2, e2, f2⟩ | ⟨a2, b2, d2, e2, f2⟩ | ⟨a2, b2, d2, e2, f2⟩ <;>
  rcases own_cls c3 with ⟨a3, b3, d3, e3, f3⟩ | ⟨a3, b3, d3, e3, f3⟩ | ⟨a3, b3, d3, e3, f3⟩ <;>
  simp [own_f, own_okall, own_ok0, own_ok1, own_ok2, own_ok3, a0, b0, d0, e0, f0, a1, b1, d1, e1, f1, a2, b2, d2, e2, f2, a3, b3, d3, e3, f3]
set_option maxRecDepth 65536 in
set_option maxHeartbeats 40000000 in
theorem seg_tl4 {p : Program} {l : Launch} {e : Env} {s : State} {m : MethodId} {args : Array Value} {below : List Frame} {meth : Method} {c : Code} {T0 : State} {locs : List Loc} {Z : State} {a0 : Array Value} {vm0 : Vm} {k0 : Nat} (h0 : Heap) (hB : Heap) (n0 : Nat) (i0 : Int32) (i1 : Int32) (i2 : Int32) (i3 : Int32) (i4 : Int32) (va : Addr) (kv : ClassId) (c0 : Int32) (c1 : Int32) (c2 : Int32) (c3 : Int32) (cz : Int32) (fm : Value) (okv : Int32)
    (X0 : Stand p l e room_1 (s.setVm vm0) m args below meth c T0 locs 1 4) (hx : p.tables.exec = Jvm.exec) (hZs : Z.Warmed39 s.vm) (hZ : Z.Warmed39 (s.setVm vm0).vm) (hS0 : s.Since vm0 k0) (hk0 : k0 ≤ hB.size) (CR0 : CHr Z consts_1 s.vm h0 vm0 hB) (hw : ∀ d ∈ tables_1, d.before a0 Z = true) (hby : c.code = code) (hml : c.maxLocals = 9) (howns : s.vm.findClass "com/example/countersign/countersign/scheme/Utf8HasFormPinLaw" = some m.cls) (hown : (s.setVm vm0).vm.findClass "com/example/countersign/countersign/scheme/Utf8HasFormPinLaw" = some m.cls) (hnm : meth.name = "law") (hret : meth.sig.returnType = some .boolean) (hlk : meth.locks = false) (e0 : T0.heap = hB) (N0 : Fr n0 locs) (O0 : Old Z n0 hB) (VA : Arv Z hB va kv .char (4 : Int32) [(.int c0), (.int c1), (.int c2), (.int c3)] (.int (0 : Int32))) (hr0 : own_R c0) (hr1 : own_R c1) (hr2 : own_R c2) (hr3 : own_R c3) (SC : Sta Z Z.heap "java/lang/String" "COMPACT_STRINGS" "Z" (.int cz)) (hcz : ¬ cz = (0 : Int32)) (SA : Sta Z Z.heap "java/lang/StringUTF16" "$assertionsDisabled" "Z" (.int (1 : Int32))) (SHI : Sta Z Z.heap "java/lang/StringUTF16" "HI_BYTE_SHIFT" "I" (.int (0 : Int32))) (SLO : Sta Z Z.heap "java/lang/StringUTF16" "LO_BYTE_SHIFT" "I" (.int (8 : Int32))) (SF : Sta Z Z.heap "jdk/internal/util/Preconditions" "SIOOBE_FORMATTER" "Ljava/util/function/BiFunction;" fm) (hfm : fm.isRef = true) (HFe : own_f [c0, c1, c2, c3] = okv) :
    own_W p e below s room_1.cells room_1.slots Z consts_1 h0 (own_L n0) T0 (mkF m 93 #[iv i0, iv i1, iv i2, iv i3, iv i4, iv (4 : Int32), rv va, iv okv, .unset] []) := by
  have hEL := own_EW hw
  refine own_stW (T' := T0) (g' := (mkF m 95 #[iv i0, iv i1, iv i2, iv i3, iv i4, iv (4 : Int32), rv va, iv okv, .unset] [(.ref va)])) (fun _ k_ => XS.aload X0.here hx rfl (hb hby at_93) rfl rfl  k_) ?_
  refine own_stW (T' := T0) (g' := (mkF m 97 #[iv i0, iv i1, iv i2, iv i3, iv i4, iv (4 : Int32), rv va, iv okv, .unset] [(.int (4 : Int32)), (.ref va)])) (fun _ k_ => XS.iload X0.here hx rfl (hb hby at_95) rfl  k_) ?_
  obtain ⟨_, T1, L1, X1, hQ1, st1⟩ := own_callS X0 hx (y := own_m28) hown (mvT hZ (wd hw 12 rfl)) (mvT hZ (wd hw 13 rfl)) (mvT hZ (wd hw 4 rfl)) (mvT hZ (wd hw 14 rfl)) (by decide) (backOf (W := 0) (rm_str4 l Z a0 hw [] va kv c0 c1 c2 c3 cz hB n0 O0 VA hr0 hr1 hr2 hr3 SC hcz SA SHI SLO) hZ (wd hw 14 rfl) (wd hw 4 rfl) (by decide) (by decide)) (g := (mkF m 97 #[iv i0, iv i1, iv i2, iv i3, iv i4, iv (4 : Int32), rv va, iv okv, .unset] [(.int (4 : Int32)), (.ref va)])) rfl (by rw [hml]; rfl) (argsL := [(.ref va), (.int (4 : Int32))]) (rest := []) (lenOf pd___CI_Ljava_lang_String_ rfl) rfl (by show 2 * 0 + _ ≤ _; exact Nat.le_of_eq rfl) (hb hby at_97) rfl e0 (by decide) (by decide) (c' := 5) (s' := 24) rfl rfl
  obtain ⟨b1, rfl, Nq1, K1, fq1_0, fq1_1⟩ := hQ1
  have N1 := Fr.app N0 Nq1
  have CR2 := CR0.trans (CHr.keep K1 sf0 CR0.1)
  refine own_stW (T' := T1) (g' := (mkF m 100 #[iv i0, iv i1, iv i2, iv i3, iv i4, iv (4 : Int32), rv va, iv okv, .unset] [(.ref b1)])) st1 ?_
  clear st1
  refine own_stW (T' := T1) (g' := (mkF m 102 #[iv i0, iv i1, iv i2, iv i3, iv i4, iv (4 : Int32), rv va, iv okv, rv b1] [])) (fun _ k_ => XS.astore X1.here hx rfl (hb hby at_100) rfl rfl (l' := #[iv i0, iv i1, iv i2, iv i3, iv i4, iv (4 : Int32), rv va, iv okv, rv b1]) rfl k_) ?_
  refine own_stW (T' := T1) (g' := (mkF m 104 #[iv i0, iv i1, iv i2, iv i3, iv i4, iv (4 : Int32), rv va, iv okv, rv b1] [(.ref b1)])) (fun _ k_ => XS.aload X1.here hx rfl (hb hby at_102) rfl rfl  k_) ?_
  have f3 := O0.keep K1 all0
  obtain ⟨_, T4, L4, X4, hQ4, st4⟩ := own_callS X1 hx (y := own_m25) hown (mvT hZ (wd hw 36 rfl)) (mvT hZ (wd hw 37 rfl)) (mvT hZ (wd hw 38 rfl)) (mvT hZ (wd hw 39 rfl)) (by decide) (backOf (W := 0) (rm_hasf l Z a0 hw [] b1 [c0, c1, c2, c3] cz fm T1.heap n0 f3 fq1_0 fq1_1 (Nat.le_of_ble_eq_true rfl) SC hcz SA SHI SLO SF hfm) hZ (wd hw 39 rfl) (wd hw 38 rfl) (by decide) (by decide)) (g := (mkF m 104 #[iv i0, iv i1, iv i2, iv i3, iv i4, iv (4 : Int32), rv va, iv okv, rv b1] [(.ref b1)])) rfl (by rw [hml]; rfl) (argsL := [(.ref b1)]) (rest := []) (lenOf pd__Ljava_lang_String__Z rfl) rfl (by show 2 * 0 + _ ≤ _; exact Nat.le_of_eq rfl) (hb hby at_104) rfl rfl (by decide) (by decide) (c' := 5) (s' := 24) rfl rfl
  obtain ⟨rfl, Nq4, eq4⟩ := hQ4
  have N4 := Fr.app N1 Nq4
  refine own_stW (T' := T4) (g' := (mkF m 107 #[iv i0, iv i1, iv i2, iv i3, iv i4, iv (4 : Int32), rv va, iv okv, rv b1] [(.int (own_f [c0, c1, c2, c3]))])) st4 ?_
  clear st4
  refine own_stW (T' := T4) (g' := (mkF m 109 #[iv i0, iv i1, iv i2, iv i3, iv i4, iv (4 : Int32), rv va, iv okv, rv b1] [(.int okv), (.int (own_f [c0, c1, c2, c3]))])) (fun _ k_ => XS.iload X4.here hx rfl (hb hby at_107) rfl  k_) ?_
  refine own_stW (T' := T4) (g' := (mkF m 112 #[iv i0, iv i1, iv i2, iv i3, iv i4, iv (4 : Int32), rv va, iv okv, rv b1] [])) (fun _ k_ => XS.icmpNo X4.here hx rfl (hb hby at_109) rfl (teq (HFe : (own_f [c0, c1, c2, c3]) = okv)).2 k_) ?_
  refine own_stW (T' := T4) (g' := (mkF m 113 #[iv i0, iv i1, iv i2, iv i3, iv i4, iv (4 : Int32), rv va, iv okv, rv b1] [(.int (1 : Int32))])) (fun _ k_ => XS.iconst X4.here hx rfl (hb hby at_112) k_) ?_
  refine own_stW (T' := T4) (g' := (mkF m 117 #[iv i0, iv i1, iv i2, iv i3, iv i4, iv (4 : Int32), rv va, iv okv, rv b1] [(.int (1 : Int32))])) (fun _ k_ => XS.goto X4.here hx rfl (pc0 := 113) (pc' := 117) rfl (hb hby at_113) (by decide) (by decide) k_) ?_
  exact own_retNW X4 hZ hS0 (by rw [eq4]; exact (Nat.le_trans hk0 K1.1)) hEL (by rw [eq4]; exact CR2) hx (t := .boolean) hret (by simp) hlk (hb hby at_117) (by decide) (by decide) ⟨rfl, N4⟩
theorem pd___CII_Z : parseMethodDescriptor "([CII)Z" = some ⟨[(.array .char), .int, .int], some .boolean⟩ := by decide +kernel
set_option maxRecDepth 65536 in
set_option maxHeartbeats 40000000 in
theorem seg_hd {p : Program} {l : Launch} {e : Env} {s : State} {m : MethodId} {args : Array Value} {below : List Frame} {meth : Method} {c : Code} {T0 : State} {locs : List Loc} {Z : State} {a0 : Array Value} {vm0 : Vm} {k0 : Nat} (h0 : Heap) (hB : Heap) (n0 : Nat) (i0 : Int32) (i1 : Int32) (i2 : Int32) (i3 : Int32) (i4 : Int32) (va : Addr) (kv : ClassId) (c0 : Int32) (c1 : Int32) (c2 : Int32) (c3 : Int32) (cz : Int32) (fm : Value) (nn : Int32)
    (X0 : Stand p l e room_1 (s.setVm vm0) m args below meth c T0 locs 1 4) (hx : p.tables.exec = Jvm.exec) (hZs : Z.Warmed39 s.vm) (hZ : Z.Warmed39 (s.setVm vm0).vm) (hS0 : s.Since vm0 k0) (hk0 : k0 ≤ hB.size) (CR0 : CHr Z consts_1 s.vm h0 vm0 hB) (hw : ∀ d ∈ tables_1, d.before a0 Z = true) (hby : c.code = code) (hml : c.maxLocals = 9) (howns : s.vm.findClass "com/example/countersign/countersign/scheme/Utf8HasFormPinLaw" = some m.cls) (hown : (s.setVm vm0).vm.findClass "com/example/countersign/countersign/scheme/Utf8HasFormPinLaw" = some m.cls) (hnm : meth.name = "law") (hret : meth.sig.returnType = some .boolean) (hlk : meth.locks = false) (e0 : T0.heap = hB) (N0 : Fr n0 locs) (O0 : Old Z n0 hB) (VA : Arv Z hB va kv .char (4 : Int32) [(.int c0), (.int c1), (.int c2), (.int c3)] (.int (0 : Int32))) (hr0 : own_R c0) (hr1 : own_R c1) (hr2 : own_R c2) (hr3 : own_R c3) (SC : Sta Z Z.heap "java/lang/String" "COMPACT_STRINGS" "Z" (.int cz)) (hcz : ¬ cz = (0 : Int32)) (SA : Sta Z Z.heap "java/lang/StringUTF16" "$assertionsDisabled" "Z" (.int (1 : Int32))) (SHI : Sta Z Z.heap "java/lang/StringUTF16" "HI_BYTE_SHIFT" "I" (.int (0 : Int32))) (SLO : Sta Z Z.heap "java/lang/StringUTF16" "LO_BYTE_SHIFT" "I" (.int (8 : Int32))) (SF : Sta Z Z.heap "jdk/internal/util/Preconditions" "SIOOBE_FORMATTER" "Ljava/util/function/BiFunction;" fm) (hfm : fm.isRef = true) (hn4 : ¬ (4 : Int32) < nn) (K : ∀ (okv : Int32) (T : State) (locs : List Loc), own_okall nn c0 c1 c2 c3 = okv → Stand p l e room_1 (s.setVm vm0) m args below meth c T locs 1 4 → T.heap = hB → Fr n0 locs → own_W p e below s room_1.cells room_1.slots Z consts_1 h0 (own_L n0) T (mkF m 93 #[iv i0, iv i1, iv i2, iv i3, iv i4, iv nn, rv va, iv okv, .unset] [])) :
    own_W p e below s room_1.cells room_1.slots Z consts_1 h0 (own_L n0) T0 (mkF m 42 #[iv i0, iv i1, iv i2, iv i3, iv i4, iv nn, rv va, .unset, .unset] []) := by
  have hEL := own_EW hw
  refine own_stW (T' := T0) (g' := (mkF m 44 #[iv i0, iv i1, iv i2, iv i3, iv i4, iv nn, rv va, .unset, .unset] [(.ref va)])) (fun _ k_ => XS.aload X0.here hx rfl (hb hby at_42) rfl rfl  k_) ?_
  refine own_stW (T' := T0) (g' := (mkF m 46 #[iv i0, iv i1, iv i2, iv i3, iv i4, iv nn, rv va, .unset, .unset] [(.int nn), (.ref va)])) (fun _ k_ => XS.iload X0.here hx rfl (hb hby at_44) rfl  k_) ?_
  refine own_stW (T' := T0) (g' := (mkF m 47 #[iv i0, iv i1, iv i2, iv i3, iv i4, iv nn, rv va, .unset, .unset] [(.int (0 : Int32)), (.int nn), (.ref va)])) (fun _ k_ => XS.iconst X0.here hx rfl (hb hby at_46) k_) ?_
  obtain ⟨_, T1, L1, X1, hQ1, st1⟩ := own_callS X0 hx (y := own_m26) hown (mvT hZ (wd hw 9 rfl)) (mvT hZ (wd hw 10 rfl)) (mvT hZ (wd hw 4 rfl)) (mvT hZ (wd hw 11 rfl)) (by decide) (backOf (W := 0) (rm_okat0 l Z a0 hw [] va kv nn c0 c1 c2 c3 hB n0 O0 VA hn4) hZ (wd hw 11 rfl) (wd hw 4 rfl) (by decide) (by decide)) (g := (mkF m 47 #[iv i0, iv i1, iv i2, iv i3, iv i4, iv nn, rv va, .unset, .unset] [(.int (0 : Int32)), (.int nn), (.ref va)])) rfl (by rw [hml]; rfl) (argsL := [(.ref va), (.int nn), (.int (0 : Int32))]) (rest := []) (lenOf pd___CII_Z rfl) rfl (by show 2 * 0 + _ ≤ _; exact Nat.le_of_eq rfl) (hb hby at_47) rfl e0 (by decide) (by decide) (c' := 1) (s' := 4) rfl rfl
  obtain ⟨rfl, Nq1, eq1⟩ := hQ1
  have N1 := Fr.app N0 Nq1
  refine own_stW (T' := T1) (g' := (mkF m 50 #[iv i0, iv i1, iv i2, iv i3, iv i4, iv nn, rv va, .unset, .unset] [(.int (own_ok0 nn c0 c1 c2 c3))])) st1 ?_
  clear st1
  by_cases hc2 : (own_ok0 nn c0 c1 c2 c3) = (0 : Int32)
  · refine own_stW (T' := T1) (g' := (mkF m 90 #[iv i0, iv i1, iv i2, iv i3, iv i4, iv nn, rv va, .unset, .unset] [])) (fun _ k_ => XS.ifYes X1.here hx rfl (pc0 := 50) (pc' := 90) rfl (hb hby at_50) rfl ((if0 _ _).trans (teq hc2).1) (by decide) (by decide) k_) ?_
    refine own_stW (T' := T1) (g' := (mkF m 91 #[iv i0, iv i1, iv i2, iv i3, iv i4, iv nn, rv va, .unset, .unset] [(.int (0 : Int32))])) (fun _ k_ => XS.iconst X1.here hx rfl (hb hby at_90) k_) ?_
    refine own_stW (T' := T1) (g' := (mkF m 93 #[iv i0, iv i1, iv i2, iv i3, iv i4, iv nn, rv va, iv (0 : Int32), .unset] [])) (fun _ k_ => XS.istore X1.here hx rfl (hb hby at_91) rfl (l' := #[iv i0, iv i1, iv i2, iv i3, iv i4, iv nn, rv va, iv (0 : Int32), .unset]) rfl k_) ?_
    exact K (0 : Int32) _ _ (by unfold own_okall; rw [if_pos hc2]) X1 eq1 N1
  · refine own_stW (T' := T1) (g' := (mkF m 53 #[iv i0, iv i1, iv i2, iv i3, iv i4, iv nn, rv va, .unset, .unset] [])) (fun _ k_ => XS.ifNo X1.here hx rfl (hb hby at_50) rfl ((if0 _ _).trans (feq hc2).1) k_) ?_
    refine own_stW (T' := T1) (g' := (mkF m 55 #[iv i0, iv i1, iv i2, iv i3, iv i4, iv nn, rv va, .unset, .unset] [(.ref va)])) (fun _ k_ => XS.aload X1.here hx rfl (hb hby at_53) rfl rfl  k_) ?_
    refine own_stW (T' := T1) (g' := (mkF m 57 #[iv i0, iv i1, iv i2, iv i3, iv i4, iv nn, rv va, .unset, .unset] [(.int nn), (.ref va)])) (fun _ k_ => XS.iload X1.here hx rfl (hb hby at_55) rfl  k_) ?_
    refine own_stW (T' := T1) (g' := (mkF m 58 #[iv i0, iv i1, iv i2, iv i3, iv i4, iv nn, rv va, .unset, .unset] [(.int (1 : Int32)), (.int nn), (.ref va)])) (fun _ k_ => XS.iconst X1.here hx rfl (hb hby at_57) k_) ?_
    obtain ⟨_, T3, L3, X3, hQ3, st3⟩ := own_callS X1 hx (y := own_m26) hown (mvT hZ (wd hw 9 rfl)) (mvT hZ (wd hw 10 rfl)) (mvT hZ (wd hw 4 rfl)) (mvT hZ (wd hw 11 rfl)) (by decide) (backOf (W := 0) (rm_okat1 l Z a0 hw [] va kv nn c0 c1 c2 c3 hB n0 O0 VA hn4) hZ (wd hw 11 rfl) (wd hw 4 rfl) (by decide) (by decide)) (g := (mkF m 58 #[iv i0, iv i1, iv i2, iv i3, iv i4, iv nn, rv va, .unset, .unset] [(.int (1 : Int32)), (.int nn), (.ref va)])) rfl (by rw [hml]; rfl) (argsL := [(.ref va), (.int nn), (.int (1 : Int32))]) (rest := []) (lenOf pd___CII_Z rfl) rfl (by show 2 * 0 + _ ≤ _; exact Nat.le_of_eq rfl) (hb hby at_58) rfl eq1 (by decide) (by decide) (c' := 1) (s' := 4) rfl rfl
    obtain ⟨rfl, Nq3, eq3⟩ := hQ3
    have N3 := Fr.app N1 Nq3
    refine own_stW (T' := T3) (g' := (mkF m 61 #[iv i0, iv i1, iv i2, iv i3, iv i4, iv nn, rv va, .unset, .unset] [(.int (own_ok1 nn c0 c1 c2 c3))])) st3 ?_
    clear st3
    by_cases hc4 : (own_ok1 nn c0 c1 c2 c3) = (0 : Int32)
    · refine own_stW (T' := T3) (g' := (mkF m 90 #[iv i0, iv i1, iv i2, iv i3, iv i4, iv nn, rv va, .unset, .unset] [])) (fun _ k_ => XS.ifYes X3.here hx rfl (pc0 := 61) (pc' := 90) rfl (hb hby at_61) rfl ((if0 _ _).trans (teq hc4).1) (by decide) (by decide) k_) ?_
      refine own_stW (T' := T3) (g' := (mkF m 91 #[iv i0, iv i1, iv i2, iv i3, iv i4, iv nn, rv va, .unset, .unset] [(.int (0 : Int32))])) (fun _ k_ => XS.iconst X3.here hx rfl (hb hby at_90) k_) ?_
      refine own_stW (T' := T3) (g' := (mkF m 93 #[iv i0, iv i1, iv i2, iv i3, iv i4, iv nn, rv va, iv (0 : Int32), .unset] [])) (fun _ k_ => XS.istore X3.here hx rfl (hb hby at_91) rfl (l' := #[iv i0, iv i1, iv i2, iv i3, iv i4, iv nn, rv va, iv (0 : Int32), .unset]) rfl k_) ?_
      exact K (0 : Int32) _ _ (by unfold own_okall; rw [if_neg hc2, if_pos hc4]) X3 eq3 N3
    · refine own_stW (T' := T3) (g' := (mkF m 64 #[iv i0, iv i1, iv i2, iv i3, iv i4, iv nn, rv va, .unset, .unset] [])) (fun _ k_ => XS.ifNo X3.here hx rfl (hb hby at_61) rfl ((if0 _ _).trans (feq hc4).1) k_) ?_
      refine own_stW (T' := T3) (g' := (mkF m 66 #[iv i0, iv i1, iv i2, iv i3, iv i4, iv nn, rv va, .unset, .unset] [(.ref va)])) (fun _ k_ => XS.aload X3.here hx rfl (hb hby at_64) rfl rfl  k_) ?_
      refine own_stW (T' := T3) (g' := (mkF m 68 #[iv i0, iv i1, iv i2, iv i3, iv i4, iv nn, rv va, .unset, .unset] [(.int nn), (.ref va)])) (fun _ k_ => XS.iload X3.here hx rfl (hb hby at_66) rfl  k_) ?_
      refine own_stW (T' := T3) (g' := (mkF m 69 #[iv i0, iv i1, iv i2, iv i3, iv i4, iv nn, rv va, .unset, .unset] [(.int (2 : Int32)), (.int nn), (.ref va)])) (fun _ k_ => XS.iconst X3.here hx rfl (hb hby at_68) k_) ?_
      obtain ⟨_, T5, L5, X5, hQ5, st5⟩ := own_callS X3 hx (y := own_m26) hown (mvT hZ (wd hw 9 rfl)) (mvT hZ (wd hw 10 rfl)) (mvT hZ (wd hw 4 rfl)) (mvT hZ (wd hw 11 rfl)) (by decide) (backOf (W := 0) (rm_okat2 l Z a0 hw [] va kv nn c0 c1 c2 c3 hB n0 O0 VA hn4) hZ (wd hw 11 rfl) (wd hw 4 rfl) (by decide) (by decide)) (g := (mkF m 69 #[iv i0, iv i1, iv i2, iv i3, iv i4, iv nn, rv va, .unset, .unset] [(.int (2 : Int32)), (.int nn), (.ref va)])) rfl (by rw [hml]; rfl) (argsL := [(.ref va), (.int nn), (.int (2 : Int32))]) (rest := []) (lenOf pd___CII_Z rfl) rfl (by show 2 * 0 + _ ≤ _; exact Nat.le_of_eq rfl) (hb hby at_69) rfl eq3 (by decide) (by decide) (c' := 1) (s' := 4) rfl rfl
      obtain ⟨rfl, Nq5, eq5⟩ := hQ5
      have N5 := Fr.app N3 Nq5
      refine own_stW (T' := T5) (g' := (mkF m 72 #[iv i0, iv i1, iv i2, iv i3, iv i4, iv nn, rv va, .unset, .unset] [(.int (own_ok2 nn c0 c1 c2 c3))])) st5 ?_
      clear st5
      by_cases hc6 : (own_ok2 nn c0 c1 c2 c3) = (0 : Int32)
      · refine own_stW (T' := T5) (g' := (mkF m 90 #[iv i0, iv i1, iv i2, iv i3, iv i4, iv nn, rv va, .unset, .unset] [])) (fun _ k_ => XS.ifYes X5.here hx rfl (pc0 := 72) (pc' := 90) rfl (hb hby at_72) rfl ((if0 _ _).trans (teq hc6).1) (by decide) (by decide) k_) ?_
        refine own_stW (T' := T5) (g' := (mkF m 91 #[iv i0, iv i1, iv i2, iv i3, iv i4, iv nn, rv va, .unset, .unset] [(.int (0 : Int32))])) (fun _ k_ => XS.iconst X5.here hx rfl (hb hby at_90) k_) ?_
        refine own_stW (T' := T5) (g' := (mkF m 93 #[iv i0, iv i1, iv i2, iv i3, iv i4, iv nn, rv va, iv (0 : Int32), .unset] [])) (fun _ k_ => XS.istore X5.here hx rfl (hb hby at_91) rfl (l' := #[iv i0, iv i1, iv i2, iv i3, iv i4, iv nn, rv va, iv (0 : Int32), .unset]) rfl k_) ?_
        exact K (0 : Int32) _ _ (by unfold own_okall; rw [if_neg hc2, if_neg hc4, if_pos hc6]) X5 eq5 N5
      · refine own_stW (T' := T5) (g' := (mkF m 75 #[iv i0, iv i1, iv i2, iv i3, iv i4, iv nn, rv va, .unset, .unset] [])) (fun _ k_ => XS.ifNo X5.here hx rfl (hb hby at_72) rfl ((if0 _ _).trans (feq hc6).1) k_) ?_
        refine own_stW (T' := T5) (g' := (mkF m 77 #[iv i0, iv i1, iv i2, iv i3, iv i4, iv nn, rv va, .unset, .unset] [(.ref va)])) (fun _ k_ => XS.aload X5.here hx rfl (hb hby at_75) rfl rfl  k_) ?_
        refine own_stW (T' := T5) (g' := (mkF m 79 #[iv i0, iv i1, iv i2, iv i3, iv i4, iv nn, rv va, .unset, .unset] [(.int nn), (.ref va)])) (fun _ k_ => XS.iload X5.here hx rfl (hb hby at_77) rfl  k_) ?_
        refine own_stW (T' := T5) (g' := (mkF m 80 #[iv i0, iv i1, iv i2, iv i3, iv i4, iv nn, rv va, .unset, .unset] [(.int (3 : Int32)), (.int nn), (.ref va)])) (fun _ k_ => XS.iconst X5.here hx rfl (hb hby at_79) k_) ?_
        obtain ⟨_, T7, L7, X7, hQ7, st7⟩ := own_callS X5 hx (y := own_m26) hown (mvT hZ (wd hw 9 rfl)) (mvT hZ (wd hw 10 rfl)) (mvT hZ (wd hw 4 rfl)) (mvT hZ (wd hw 11 rfl)) (by decide) (backOf (W := 0) (rm_okat3 l Z a0 hw [] va kv nn c0 c1 c2 c3 hB n0 O0 VA hn4) hZ (wd hw 11 rfl) (wd hw 4 rfl) (by decide) (by decide)) (g := (mkF m 80 #[iv i0, iv i1, iv i2, iv i3, iv i4, iv nn, rv va, .unset, .unset] [(.int (3 : Int32)), (.int nn), (.ref va)])) rfl (by rw [hml]; rfl) (argsL := [(.ref va), (.int nn), (.int (3 : Int32))]) (rest := []) (lenOf pd___CII_Z rfl) rfl (by show 2 * 0 + _ ≤ _; exact Nat.le_of_eq rfl) (hb hby at_80) rfl eq5 (by decide) (by decide) (c' := 1) (s' := 4) rfl rfl
        obtain ⟨rfl, Nq7, eq7⟩ := hQ7
        have N7 := Fr.app N5 Nq7
        refine own_stW (T' := T7) (g' := (mkF m 83 #[iv i0, iv i1, iv i2, iv i3, iv i4, iv nn, rv va, .unset, .unset] [(.int (own_ok3 nn c0 c1 c2 c3))])) st7 ?_
        clear st7
        by_cases hc8 : (own_ok3 nn c0 c1 c2 c3) = (0 : Int32)
        · refine own_stW (T' := T7) (g' := (mkF m 90 #[iv i0, iv i1, iv i2, iv i3, iv i4, iv nn, rv va, .unset, .unset] [])) (fun _ k_ => XS.ifYes X7.here hx rfl (pc0 := 83) (pc' := 90) rfl (hb hby at_83) rfl ((if0 _ _).trans (teq hc8).1) (by decide) (by decide) k_) ?_
          refine own_stW (T' := T7) (g' := (mkF m 91 #[iv i0, iv i1, iv i2, iv i3, iv i4, iv nn, rv va, .unset, .unset] [(.int (0 : Int32))])) (fun _ k_ => XS.iconst X7.here hx rfl (hb hby at_90) k_) ?_
          refine own_stW (T' := T7) (g' := (mkF m 93 #[iv i0, iv i1, iv i2, iv i3, iv i4, iv nn, rv va, iv (0 : Int32), .unset] [])) (fun _ k_ => XS.istore X7.here hx rfl (hb hby at_91) rfl (l' := #[iv i0, iv i1, iv i2, iv i3, iv i4, iv nn, rv va, iv (0 : Int32), .unset]) rfl k_) ?_
          exact K (0 : Int32) _ _ (by unfold own_okall; rw [if_neg hc2, if_neg hc4, if_neg hc6, if_pos hc8]) X7 eq7 N7
        · refine own_stW (T' := T7) (g' := (mkF m 86 #[iv i0, iv i1, iv i2, iv i3, iv i4, iv nn, rv va, .unset, .unset] [])) (fun _ k_ => XS.ifNo X7.here hx rfl (hb hby at_83) rfl ((if0 _ _).trans (feq hc8).1) k_) ?_
          refine own_stW (T' := T7) (g' := (mkF m 87 #[iv i0, iv i1, iv i2, iv i3, iv i4, iv nn, rv va, .unset, .unset] [(.int (1 : Int32))])) (fun _ k_ => XS.iconst X7.here hx rfl (hb hby at_86) k_) ?_
          refine own_stW (T' := T7) (g' := (mkF m 91 #[iv i0, iv i1, iv i2, iv i3, iv i4, iv nn, rv va, .unset, .unset] [(.int (1 : Int32))])) (fun _ k_ => XS.goto X7.here hx rfl (pc0 := 87) (pc' := 91) rfl (hb hby at_87) (by decide) (by decide) k_) ?_
          refine own_stW (T' := T7) (g' := (mkF m 93 #[iv i0, iv i1, iv i2, iv i3, iv i4, iv nn, rv va, iv (1 : Int32), .unset] [])) (fun _ k_ => XS.istore X7.here hx rfl (hb hby at_91) rfl (l' := #[iv i0, iv i1, iv i2, iv i3, iv i4, iv nn, rv va, iv (1 : Int32), .unset]) rfl k_) ?_
          exact K (1 : Int32) _ _ (by unfold own_okall; rw [if_neg hc2, if_neg hc4, if_neg hc6, if_neg hc8]) X7 eq7 N7
theorem own_rem5 (x : Int32) : (x &&& (2147483647 : Int32)) % (5 : Int32) = 0 ∨ (x &&& (2147483647 : Int32)) % (5 : Int32) = 1 ∨ (x &&& (2147483647 : Int32)) % (5 : Int32) = 2 ∨ (x &&& (2147483647 : Int32)) % (5 : Int32) = 3 ∨ (x &&& (2147483647 : Int32)) % (5 : Int32) = 4 := by
  have h := own_rem x 5 5 (by decide) rfl
  have h5 : ((x &&& 2147483647) % 5).toInt = 0 ∨ ((x &&& 2147483647) % 5).toInt = 1 ∨ ((x &&& 2147483647) % 5).toInt = 2 ∨ ((x &&& 2147483647) % 5).toInt = 3 ∨ ((x &&& 2147483647) % 5).toInt = 4 := by omega
  rcases h5 with h | h | h | h | h
  · exact Or.inl (own_eqI h)
  · exact Or.inr (Or.inl (own_eqI h))
  · exact Or.inr (Or.inr (Or.inl (own_eqI h)))
  · exact Or.inr (Or.inr (Or.inr (Or.inl (own_eqI h))))
  · exact Or.inr (Or.inr (Or.inr (Or.inr (own_eqI h))))
theorem ef_0 (m : MethodId) (x0 : Int32) (x1 : Int32) (x2 : Int32) (x3 : Int32) (x4 : Int32) : entryFrame m #[(.int x0), (.int x1), (.int x2), (.int x3), (.int x4)] maxLocals = mkF m 0 #[iv x0, iv x1, iv x2, iv x3, iv x4, .unset, .unset, .unset, .unset] [] := by first | (simp [entryFrame, mkF, argsToLocals, Value.category, maxLocals]; done) | rfl
set_option maxRecDepth 65536 in
set_option maxHeartbeats 40000000 in
theorem rm_0 (l : Launch) (Z : State) (a0 : Array Value) (hw : ∀ d ∈ tables_1, d.before a0 Z = true) (ws : List Jvm.Cond) (i0 : Int32) (i1 : Int32) (i2 : Int32) (i3 : Int32) (i4 : Int32) (cz : Int32) (fm : Value) (h0 : Heap) (n0 : Nat) (O0 : Old Z n0 h0) (SC : Sta Z Z.heap "java/lang/String" "COMPACT_STRINGS" "Z" (.int cz)) (hcz : ¬ cz = (0 : Int32)) (SA : Sta Z Z.heap "java/lang/StringUTF16" "$assertionsDisabled" "Z" (.int (1 : Int32))) (SHI : Sta Z Z.heap "java/lang/StringUTF16" "HI_BYTE_SHIFT" "I" (.int (0 : Int32))) (SLO : Sta Z Z.heap "java/lang/StringUTF16" "LO_BYTE_SHIFT" "I" (.int (8 : Int32))) (SF : Sta Z Z.heap "jdk/internal/util/Preconditions" "SIOOBE_FORMATTER" "Ljava/util/function/BiFunction;" fm) (hfm : fm.isRef = true) :
    MetFree l x (head1 (Jvm.Cond.code x code maxLocals ret :: ws) room_1) (fun ar_ U => ar_ = #[(.int i0), (.int i1), (.int i2), (.int i3), (.int i4)] ∧ Z.Warmed39 U.vm ∧ U.heap = h0 ∧ CHv Z consts_1 U.vm h0 ∧ ∀ x ∈ ([] : List Addr), Safe Z consts_1 U.vm h0 x) (fun _ _ _ _ _ => True) (fun _ U o U' => ∃ v L, o = .returned v ∧ own_L n0 v U'.heap L ∧ CHr Z consts_1 U.vm U.heap U'.vm U'.heap ∧ ReturnedEndW U o U' L room_1.cells room_1.slots) := by
  refine MetFree.of_bodySF (plainFor_of_name pn_5) hisR ?_
  intro p e s m args below meth c s₁ Bd hml0 hP hK
  obtain ⟨rfl, hZ, hh, CH0, SF0⟩ := hP
  have hx := Bd.exec
  have hby := Bd.bytes
  have hml : c.maxLocals = 9 := hml0
  have hown : s.vm.findClass "com/example/countersign/countersign/scheme/Utf8HasFormPinLaw" = some m.cls := findClass_of_methodNamed Bd.named
  have hnm := (name_of_methodNamed Bd.named Bd.method).1
  have X0 : Stand p l e room_1 (s.setVm s.vm) m #[(.int i0), (.int i1), (.int i2), (.int i3), (.int i4)] below meth c s₁ [] 0 0 := Stand.of_body Bd
  have e0 : s₁.heap = h0 := by rw [← hh, Bd.state]; rfl
  have N0 := Fr.nil n0
  have hret := Bd.returns
  have hlk : meth.locks = false := Bd.notSynchronized
  have hEL := own_EW hw
  have hZs := hZ
  have howns := hown
  have hS0 : s.Since s.vm s.heap.size := (State.WarmedH.refl s).since _
  have hk0 : s.heap.size ≤ h0.size := Nat.le_of_eq (by rw [hh])
  have CR0 := CHr.refl CH0
  refine own_W0 hh ?_
  show own_W p e below s room_1.cells room_1.slots Z consts_1 h0 (own_L n0) s₁ (entryFrame m #[(.int i0), (.int i1), (.int i2), (.int i3), (.int i4)] maxLocals)
  rw [ef_0 m i0 i1 i2 i3 i4]
  refine own_stW (T' := s₁) (g' := (mkF m 2 #[iv i0, iv i1, iv i2, iv i3, iv i4, .unset, .unset, .unset, .unset] [(.int i4)])) (fun _ k_ => XS.iload X0.here hx rfl (hb hby at_0) rfl  k_) ?_
  refine own_stW (T' := s₁) (g' := (mkF m 4 #[iv i0, iv i1, iv i2, iv i3, iv i4, .unset, .unset, .unset, .unset] [(.int (2147483647 : Int32)), (.int i4)])) (X0.ldcInt hx hown (mvT hZ (wd hw 0 rfl)) (g := (mkF m 2 #[iv i0, iv i1, iv i2, iv i3, iv i4, .unset, .unset, .unset, .unset] [(.int i4)])) rfl (hb hby at_2)) ?_
  refine own_stW (T' := s₁) (g' := (mkF m 5 #[iv i0, iv i1, iv i2, iv i3, iv i4, .unset, .unset, .unset, .unset] [(.int (i4 &&& (2147483647 : Int32)))])) (fun _ k_ => XS.iand X0.here hx rfl (hb hby at_4) rfl k_) ?_
  refine own_stW (T' := s₁) (g' := (mkF m 6 #[iv i0, iv i1, iv i2, iv i3, iv i4, .unset, .unset, .unset, .unset] [(.int (5 : Int32)), (.int (i4 &&& (2147483647 : Int32)))])) (fun _ k_ => XS.iconst X0.here hx rfl (hb hby at_5) k_) ?_
  refine own_stW (T' := s₁) (g' := (mkF m 7 #[iv i0, iv i1, iv i2, iv i3, iv i4, .unset, .unset, .unset, .unset] [(.int ((i4 &&& (2147483647 : Int32)) % (5 : Int32)))])) (fun _ k_ => iremM X0 hx rfl (hb hby at_6) rfl (by decide) k_) ?_
  refine own_stW (T' := s₁) (g' := (mkF m 9 #[iv i0, iv i1, iv i2, iv i3, iv i4, iv ((i4 &&& (2147483647 : Int32)) % (5 : Int32)), .unset, .unset, .unset] [])) (fun _ k_ => XS.istore X0.here hx rfl (hb hby at_7) rfl (l' := #[iv i0, iv i1, iv i2, iv i3, iv i4, iv ((i4 &&& (2147483647 : Int32)) % (5 : Int32)), .unset, .unset, .unset]) rfl k_) ?_
  refine own_stW (T' := s₁) (g' := (mkF m 10 #[iv i0, iv i1, iv i2, iv i3, iv i4, iv ((i4 &&& (2147483647 : Int32)) % (5 : Int32)), .unset, .unset, .unset] [(.int (4 : Int32))])) (fun _ k_ => XS.iconst X0.here hx rfl (hb hby at_9) k_) ?_
  obtain ⟨T1, h1, k1, X1, e1, E1, A1, st1⟩ := newP X0 hx hZ (wd hw 1 rfl) e0 (g := (mkF m 10 #[iv i0, iv i1, iv i2, iv i3, iv i4, iv ((i4 &&& (2147483647 : Int32)) % (5 : Int32)), .unset, .unset, .unset] [(.int (4 : Int32))])) rfl (hb hby at_10) rfl (by decide) (cap := 4) (by decide) (by decide) (by decide) (by decide)
  obtain ⟨b1, g1⟩ : ∃ z, z = h0.size := ⟨_, rfl⟩
  rw [← g1] at A1 st1
  have fr1 : n0 ≤ b1 := Nat.le_trans (own_z O0) (Nat.le_of_eq g1.symm)
  have CR2 := CR0.trans (CHr.ext E1 CR0.1)
  have V1 : Arv Z h1 b1 k1 .char (4 : Int32) [(.int (0 : Int32)), (.int (0 : Int32)), (.int (0 : Int32)), (.int (0 : Int32))] (.int (0 : Int32)) := (Arv.new A1 (by decide)).pad (pad_rep [] (.int (0 : Int32)) 4)
  refine own_stW (T' := T1) (g' := (mkF m 12 #[iv i0, iv i1, iv i2, iv i3, iv i4, iv ((i4 &&& (2147483647 : Int32)) % (5 : Int32)), .unset, .unset, .unset] [(.ref b1)])) st1 ?_
  clear st1
  refine own_stW (T' := T1) (g' := (mkF m 13 #[iv i0, iv i1, iv i2, iv i3, iv i4, iv ((i4 &&& (2147483647 : Int32)) % (5 : Int32)), .unset, .unset, .unset] [(.ref b1), (.ref b1)])) (fun _ k_ => XS.dup X1.here hx rfl (hb hby at_12) rfl rfl k_) ?_
  refine own_stW (T' := T1) (g' := (mkF m 14 #[iv i0, iv i1, iv i2, iv i3, iv i4, iv ((i4 &&& (2147483647 : Int32)) % (5 : Int32)), .unset, .unset, .unset] [(.int (0 : Int32)), (.ref b1), (.ref b1)])) (fun _ k_ => XS.iconst X1.here hx rfl (hb hby at_13) k_) ?_
  refine own_stW (T' := T1) (g' := (mkF m 15 #[iv i0, iv i1, iv i2, iv i3, iv i4, iv ((i4 &&& (2147483647 : Int32)) % (5 : Int32)), .unset, .unset, .unset] [(.int i0), (.int (0 : Int32)), (.ref b1), (.ref b1)])) (fun _ k_ => XS.iloadN X1.here hx rfl (hb hby at_14) rfl  k_) ?_
  have f3 := O0.ext E1
  obtain ⟨_, T4, L4, X4, hQ4, st4⟩ := own_callS X1 hx (y := own_m27) hown (mvT hZ (wd hw 2 rfl)) (mvT hZ (wd hw 3 rfl)) (mvT hZ (wd hw 4 rfl)) (mvT hZ (wd hw 5 rfl)) (by decide) (backOf (W := 3) (rm_draw l Z a0 hw [] i0 h1 n0 f3) hZ (wd hw 5 rfl) (wd hw 4 rfl) (by decide) (by decide)) (g := (mkF m 15 #[iv i0, iv i1, iv i2, iv i3, iv i4, iv ((i4 &&& (2147483647 : Int32)) % (5 : Int32)), .unset, .unset, .unset] [(.int i0), (.int (0 : Int32)), (.ref b1), (.ref b1)])) rfl (by rw [hml]; rfl) (argsL := [(.int i0)]) (rest := [(.int (0 : Int32)), (.ref b1), (.ref b1)]) (lenOf pd__I_C rfl) rfl (by show 2 * 0 + _ ≤ _; exact Nat.le_of_eq rfl) (hb hby at_15) rfl e1 (by decide) (by decide) (c' := 1) (s' := 4) rfl rfl
  obtain ⟨rfl, Nq4, eq4⟩ := hQ4
  have N4 := Fr.app N0 Nq4
  refine own_stW (T' := T4) (g' := (mkF m 18 #[iv i0, iv i1, iv i2, iv i3, iv i4, iv ((i4 &&& (2147483647 : Int32)) % (5 : Int32)), .unset, .unset, .unset] [(.int (own_draw i0)), (.int (0 : Int32)), (.ref b1), (.ref b1)])) st4 ?_
  clear st4
  obtain ⟨cl5, Ar5, q5, S5, N5, H5, G5⟩ := id V1
  have hin5 : ¬ ((0 : Int32) < 0 ∨ cl5.slots.size ≤ ((0 : Int32)).toNatClampNeg) := inb_of S5 ⟨by decide, by decide⟩
  obtain ⟨T6, h6, X6, e6, W6, st6⟩ := stC X4 hx hZ eq4 Ar5 (j := (0 : Int32)) hin5 (g := (mkF m 18 #[iv i0, iv i1, iv i2, iv i3, iv i4, iv ((i4 &&& (2147483647 : Int32)) % (5 : Int32)), .unset, .unset, .unset] [(.int (own_draw i0)), (.int (0 : Int32)), (.ref b1), (.ref b1)])) rfl rfl (hb hby at_18)
  have CR7 := CR2.trans (CHr.wr W6 (Safe.arv hZ.alike V1 (by decide)) CR2.1)
  have V6 : Arv Z h6 b1 k1 .char (4 : Int32) [(.int (nar .char (own_draw i0))), (.int (0 : Int32)), (.int (0 : Int32)), (.int (0 : Int32))] (.int (0 : Int32)) := Arv.set Ar5 q5 S5 N5 H5 G5 (fits_nar_char _) W6 0 rfl (Nat.le_of_ble_eq_true rfl)
  have Vn6 : Arv Z h6 b1 k1 .char (4 : Int32) [(.int (own_draw i0)), (.int (0 : Int32)), (.int (0 : Int32)), (.int (0 : Int32))] (.int (0 : Int32)) := by simpa only [own_ncd i0] using V6
  have Nx6 := Fr.snoc X6 N4 fr1
  refine own_stW (T' := T6) (g' := (mkF m 19 #[iv i0, iv i1, iv i2, iv i3, iv i4, iv ((i4 &&& (2147483647 : Int32)) % (5 : Int32)), .unset, .unset, .unset] [(.ref b1)])) st6 ?_
  clear hin5 G5 H5 N5 S5 q5 Ar5 cl5 st6
  refine own_stW (T' := T6) (g' := (mkF m 20 #[iv i0, iv i1, iv i2, iv i3, iv i4, iv ((i4 &&& (2147483647 : Int32)) % (5 : Int32)), .unset, .unset, .unset] [(.ref b1), (.ref b1)])) (fun _ k_ => XS.dup X6.here hx rfl (hb hby at_19) rfl rfl k_) ?_
  refine own_stW (T' := T6) (g' := (mkF m 21 #[iv i0, iv i1, iv i2, iv i3, iv i4, iv ((i4 &&& (2147483647 : Int32)) % (5 : Int32)), .unset, .unset, .unset] [(.int (1 : Int32)), (.ref b1), (.ref b1)])) (fun _ k_ => XS.iconst X6.here hx rfl (hb hby at_20) k_) ?_
  refine own_stW (T' := T6) (g' := (mkF m 22 #[iv i0, iv i1, iv i2, iv i3, iv i4, iv ((i4 &&& (2147483647 : Int32)) % (5 : Int32)), .unset, .unset, .unset] [(.int i1), (.int (1 : Int32)), (.ref b1), (.ref b1)])) (fun _ k_ => XS.iloadN X6.here hx rfl (hb hby at_21) rfl  k_) ?_
  have f8 := f3.wr W6 fr1
  obtain ⟨_, T9, L9, X9, hQ9, st9⟩ := own_callS X6 hx (y := own_m27) hown (mvT hZ (wd hw 2 rfl)) (mvT hZ (wd hw 3 rfl)) (mvT hZ (wd hw 4 rfl)) (mvT hZ (wd hw 5 rfl)) (by decide) (backOf (W := 3) (rm_draw l Z a0 hw [] i1 h6 n0 f8) hZ (wd hw 5 rfl) (wd hw 4 rfl) (by decide) (by decide)) (g := (mkF m 22 #[iv i0, iv i1, iv i2, iv i3, iv i4, iv ((i4 &&& (2147483647 : Int32)) % (5 : Int32)), .unset, .unset, .unset] [(.int i1), (.int (1 : Int32)), (.ref b1), (.ref b1)])) rfl (by rw [hml]; rfl) (argsL := [(.int i1)]) (rest := [(.int (1 : Int32)), (.ref b1), (.ref b1)]) (lenOf pd__I_C rfl) rfl (by show 2 * 0 + _ ≤ _; exact Nat.le_of_eq rfl) (hb hby at_22) rfl e6 (by decide) (by decide) (c' := 1) (s' := 4) rfl rfl
  obtain ⟨rfl, Nq9, eq9⟩ := hQ9
  have N9 := Fr.app Nx6 Nq9
  refine own_stW (T' := T9) (g' := (mkF m 25 #[iv i0, iv i1, iv i2, iv i3, iv i4, iv ((i4 &&& (2147483647 : Int32)) % (5 : Int32)), .unset, .unset, .unset] [(.int (own_draw i1)), (.int (1 : Int32)), (.ref b1), (.ref b1)])) st9 ?_
  clear st9
  obtain ⟨cl10, Ar10, q10, S10, N10, H10, G10⟩ := id Vn6
  have hin10 : ¬ ((1 : Int32) < 0 ∨ cl10.slots.size ≤ ((1 : Int32)).toNatClampNeg) := inb_of S10 ⟨by decide, by decide⟩
  obtain ⟨T11, h11, X11, e11, W11, st11⟩ := stC X9 hx hZ eq9 Ar10 (j := (1 : Int32)) hin10 (g := (mkF m 25 #[iv i0, iv i1, iv i2, iv i3, iv i4, iv ((i4 &&& (2147483647 : Int32)) % (5 : Int32)), .unset, .unset, .unset] [(.int (own_draw i1)), (.int (1 : Int32)), (.ref b1), (.ref b1)])) rfl rfl (hb hby at_25)
  have CR12 := CR7.trans (CHr.wr W11 (Safe.arv hZ.alike Vn6 (by decide)) CR7.1)
  have V11 : Arv Z h11 b1 k1 .char (4 : Int32) [(.int (own_draw i0)), (.int (nar .char (own_draw i1))), (.int (0 : Int32)), (.int (0 : Int32))] (.int (0 : Int32)) := Arv.set Ar10 q10 S10 N10 H10 G10 (fits_nar_char _) W11 1 rfl (Nat.le_of_ble_eq_true rfl)
  have Vn11 : Arv Z h11 b1 k1 .char (4 : Int32) [(.int (own_draw i0)), (.int (own_draw i1)), (.int (0 : Int32)), (.int (0 : Int32))] (.int (0 : Int32)) := by simpa only [own_ncd i1] using V11
  have Nx11 := Fr.snoc X11 N9 fr1
  refine own_stW (T' := T11) (g' := (mkF m 26 #[iv i0, iv i1, iv i2, iv i3, iv i4, iv ((i4 &&& (2147483647 : Int32)) % (5 : Int32)), .unset, .unset, .unset] [(.ref b1)])) st11 ?_
  clear hin10 G10 H10 N10 S10 q10 Ar10 cl10 st11
  refine own_stW (T' := T11) (g' := (mkF m 27 #[iv i0, iv i1, iv i2, iv i3, iv i4, iv ((i4 &&& (2147483647 : Int32)) % (5 : Int32)), .unset, .unset, .unset] [(.ref b1), (.ref b1)])) (fun _ k_ => XS.dup X11.here hx rfl (hb hby at_26) rfl rfl k_) ?_
  refine own_stW (T' := T11) (g' := (mkF m 28 #[iv i0, iv i1, iv i2, iv i3, iv i4, iv ((i4 &&& (2147483647 : Int32)) % (5 : Int32)), .unset, .unset, .unset] [(.int (2 : Int32)), (.ref b1), (.ref b1)])) (fun _ k_ => XS.iconst X11.here hx rfl (hb hby at_27) k_) ?_
  refine own_stW (T' := T11) (g' := (mkF m 29 #[iv i0, iv i1, iv i2, iv i3, iv i4, iv ((i4 &&& (2147483647 : Int32)) % (5 : Int32)), .unset, .unset, .unset] [(.int i2), (.int (2 : Int32)), (.ref b1), (.ref b1)])) (fun _ k_ => XS.iloadN X11.here hx rfl (hb hby at_28) rfl  k_) ?_
  have f13 := f8.wr W11 fr1
  obtain ⟨_, T14, L14, X14, hQ14, st14⟩ := own_callS X11 hx (y := own_m27) hown (mvT hZ (wd hw 2 rfl)) (mvT hZ (wd hw 3 rfl)) (mvT hZ (wd hw 4 rfl)) (mvT hZ (wd hw 5 rfl)) (by decide) (backOf (W := 3) (rm_draw l Z a0 hw [] i2 h11 n0 f13) hZ (wd hw 5 rfl) (wd hw 4 rfl) (by decide) (by decide)) (g := (mkF m 29 #[iv i0, iv i1, iv i2, iv i3, iv i4, iv ((i4 &&& (2147483647 : Int32)) % (5 : Int32)), .unset, .unset, .unset] [(.int i2), (.int (2 : Int32)), (.ref b1), (.ref b1)])) rfl (by rw [hml]; rfl) (argsL := [(.int i2)]) (rest := [(.int (2 : Int32)), (.ref b1), (.ref b1)]) (lenOf pd__I_C rfl) rfl (by show 2 * 0 + _ ≤ _; exact Nat.le_of_eq rfl) (hb hby at_29) rfl e11 (by decide) (by decide) (c' := 1) (s' := 4) rfl rfl
  obtain ⟨rfl, Nq14, eq14⟩ := hQ14
  have N14 := Fr.app Nx11 Nq14
  refine own_stW (T' := T14) (g' := (mkF m 32 #[iv i0, iv i1, iv i2, iv i3, iv i4, iv ((i4 &&& (2147483647 : Int32)) % (5 : Int32)), .unset, .unset, .unset] [(.int (own_draw i2)), (.int (2 : Int32)), (.ref b1), (.ref b1)])) st14 ?_
  clear st14
  obtain ⟨cl15, Ar15, q15, S15, N15, H15, G15⟩ := id Vn11
  have hin15 : ¬ ((2 : Int32) < 0 ∨ cl15.slots.size ≤ ((2 : Int32)).toNatClampNeg) := inb_of S15 ⟨by decide, by decide⟩
  obtain ⟨T16, h16, X16, e16, W16, st16⟩ := stC X14 hx hZ eq14 Ar15 (j := (2 : Int32)) hin15 (g := (mkF m 32 #[iv i0, iv i1, iv i2, iv i3, iv i4, iv ((i4 &&& (2147483647 : Int32)) % (5 : Int32)), .unset, .unset, .unset] [(.int (own_draw i2)), (.int (2 : Int32)), (.ref b1), (.ref b1)])) rfl rfl (hb hby at_32)
  have CR17 := CR12.trans (CHr.wr W16 (Safe.arv hZ.alike Vn11 (by decide)) CR12.1)
  have V16 : Arv Z h16 b1 k1 .char (4 : Int32) [(.int (own_draw i0)), (.int (own_draw i1)), (.int (nar .char (own_draw i2))), (.int (0 : Int32))] (.int (0 : Int32)) := Arv.set Ar15 q15 S15 N15 H15 G15 (fits_nar_char _) W16 2 rfl (Nat.le_of_ble_eq_true rfl)
  have Vn16 : Arv Z h16 b1 k1 .char (4 : Int32) [(.int (own_draw i0)), (.int (own_draw i1)), (.int (own_draw i2)), (.int (0 : Int32))] (.int (0 : Int32)) := by simpa only [own_ncd i2] using V16
  have Nx16 := Fr.snoc X16 N14 fr1
  refine own_stW (T' := T16) (g' := (mkF m 33 #[iv i0, iv i1, iv i2, iv i3, iv i4, iv ((i4 &&& (2147483647 : Int32)) % (5 : Int32)), .unset, .unset, .unset] [(.ref b1)])) st16 ?_
  clear hin15 G15 H15 N15 S15 q15 Ar15 cl15 st16
  refine own_stW (T' := T16) (g' := (mkF m 34 #[iv i0, iv i1, iv i2, iv i3, iv i4, iv ((i4 &&& (2147483647 : Int32)) % (5 : Int32)), .unset, .unset, .unset] [(.ref b1), (.ref b1)])) (fun _ k_ => XS.dup X16.here hx rfl (hb hby at_33) rfl rfl k_) ?_
  refine own_stW (T' := T16) (g' := (mkF m 35 #[iv i0, iv i1, iv i2, iv i3, iv i4, iv ((i4 &&& (2147483647 : Int32)) % (5 : Int32)), .unset, .unset, .unset] [(.int (3 : Int32)), (.ref b1), (.ref b1)])) (fun _ k_ => XS.iconst X16.here hx rfl (hb hby at_34) k_) ?_
  refine own_stW (T' := T16) (g' := (mkF m 36 #[iv i0, iv i1, iv i2, iv i3, iv i4, iv ((i4 &&& (2147483647 : Int32)) % (5 : Int32)), .unset, .unset, .unset] [(.int i3), (.int (3 : Int32)), (.ref b1), (.ref b1)])) (fun _ k_ => XS.iloadN X16.here hx rfl (hb hby at_35) rfl  k_) ?_
  have f18 := f13.wr W16 fr1
  obtain ⟨_, T19, L19, X19, hQ19, st19⟩ := own_callS X16 hx (y := own_m27) hown (mvT hZ (wd hw 2 rfl)) (mvT hZ (wd hw 3 rfl)) (mvT hZ (wd hw 4 rfl)) (mvT hZ (wd hw 5 rfl)) (by decide) (backOf (W := 3) (rm_draw l Z a0 hw [] i3 h16 n0 f18) hZ (wd hw 5 rfl) (wd hw 4 rfl) (by decide) (by decide)) (g := (mkF m 36 #[iv i0, iv i1, iv i2, iv i3, iv i4, iv ((i4 &&& (2147483647 : Int32)) % (5 : Int32)), .unset, .unset, .unset] [(.int i3), (.int (3 : Int32)), (.ref b1), (.ref b1)])) rfl (by rw [hml]; rfl) (argsL := [(.int i3)]) (rest := [(.int (3 : Int32)), (.ref b1), (.ref b1)]) (lenOf pd__I_C rfl) rfl (by show 2 * 0 + _ ≤ _; exact Nat.le_of_eq rfl) (hb hby at_36) rfl e16 (by decide) (by decide) (c' := 1) (s' := 4) rfl rfl
  obtain ⟨rfl, Nq19, eq19⟩ := hQ19
  have N19 := Fr.app Nx16 Nq19
  refine own_stW (T' := T19) (g' := (mkF m 39 #[iv i0, iv i1, iv i2, iv i3, iv i4, iv ((i4 &&& (2147483647 : Int32)) % (5 : Int32)), .unset, .unset, .unset] [(.int (own_draw i3)), (.int (3 : Int32)), (.ref b1), (.ref b1)])) st19 ?_
  clear st19
  obtain ⟨cl20, Ar20, q20, S20, N20, H20, G20⟩ := id Vn16
  have hin20 : ¬ ((3 : Int32) < 0 ∨ cl20.slots.size ≤ ((3 : Int32)).toNatClampNeg) := inb_of S20 ⟨by decide, by decide⟩
  obtain ⟨T21, h21, X21, e21, W21, st21⟩ := stC X19 hx hZ eq19 Ar20 (j := (3 : Int32)) hin20 (g := (mkF m 39 #[iv i0, iv i1, iv i2, iv i3, iv i4, iv ((i4 &&& (2147483647 : Int32)) % (5 : Int32)), .unset, .unset, .unset] [(.int (own_draw i3)), (.int (3 : Int32)), (.ref b1), (.ref b1)])) rfl rfl (hb hby at_39)
  have CR22 := CR17.trans (CHr.wr W21 (Safe.arv hZ.alike Vn16 (by decide)) CR17.1)
  have V21 : Arv Z h21 b1 k1 .char (4 : Int32) [(.int (own_draw i0)), (.int (own_draw i1)), (.int (own_draw i2)), (.int (nar .char (own_draw i3)))] (.int (0 : Int32)) := Arv.set Ar20 q20 S20 N20 H20 G20 (fits_nar_char _) W21 3 rfl (Nat.le_of_ble_eq_true rfl)
  have Vn21 : Arv Z h21 b1 k1 .char (4 : Int32) [(.int (own_draw i0)), (.int (own_draw i1)), (.int (own_draw i2)), (.int (own_draw i3))] (.int (0 : Int32)) := by simpa only [own_ncd i3] using V21
  have Nx21 := Fr.snoc X21 N19 fr1
  refine own_stW (T' := T21) (g' := (mkF m 40 #[iv i0, iv i1, iv i2, iv i3, iv i4, iv ((i4 &&& (2147483647 : Int32)) % (5 : Int32)), .unset, .unset, .unset] [(.ref b1)])) st21 ?_
  clear hin20 G20 H20 N20 S20 q20 Ar20 cl20 st21
  refine own_stW (T' := T21) (g' := (mkF m 42 #[iv i0, iv i1, iv i2, iv i3, iv i4, iv ((i4 &&& (2147483647 : Int32)) % (5 : Int32)), rv b1, .unset, .unset] [])) (fun _ k_ => XS.astore X21.here hx rfl (hb hby at_40) rfl rfl (l' := #[iv i0, iv i1, iv i2, iv i3, iv i4, iv ((i4 &&& (2147483647 : Int32)) % (5 : Int32)), rv b1, .unset, .unset]) rfl k_) ?_
  have f23 := f18.wr W21 fr1
  rcases own_rem5 i4 with hn | hn | hn | hn | hn
  · rw [hn]
    exact seg_hd h0 h21 n0 i0 i1 i2 i3 i4 b1 k1 (own_draw i0) (own_draw i1) (own_draw i2) (own_draw i3) cz fm (0 : Int32) X21 hx hZs hZ hS0 (Nat.le_trans (Nat.le_trans (Nat.le_trans (Nat.le_trans (Nat.le_trans hk0 E1.1) (Nat.le_of_eq (Wr.size W6).symm)) (Nat.le_of_eq (Wr.size W11).symm)) (Nat.le_of_eq (Wr.size W16).symm)) (Nat.le_of_eq (Wr.size W21).symm)) CR22 hw hby hml howns hown hnm hret hlk e21 Nx21 f23 Vn21 (own_drR i0) (own_drR i1) (own_drR i2) (own_drR i3) SC hcz SA SHI SLO SF hfm (by decide) (fun okv T_ locs_ hk X_ e_ N_ => seg_tl0 h0 h21 n0 i0 i1 i2 i3 i4 b1 k1 (own_draw i0) (own_draw i1) (own_draw i2) (own_draw i3) cz fm okv X_ hx hZs hZ hS0 (Nat.le_trans (Nat.le_trans (Nat.le_trans (Nat.le_trans (Nat.le_trans hk0 E1.1) (Nat.le_of_eq (Wr.size W6).symm)) (Nat.le_of_eq (Wr.size W11).symm)) (Nat.le_of_eq (Wr.size W16).symm)) (Nat.le_of_eq (Wr.size W21).symm)) CR22 hw hby hml howns hown hnm hret hlk e_ N_ f23 Vn21 (own_drR i0) (own_drR i1) (own_drR i2) (own_drR i3) SC hcz SA SHI SLO SF hfm ((own_law0 _ _ _ _).trans hk))
  · rw [hn]
    exact seg_hd h0 h21 n0 i0 i1 i2 i3 i4 b1 k1 (own_draw i0) (own_draw i1) (own_draw i2) (own_draw i3) cz fm (1 : Int32) X21 hx hZs hZ hS0 (Nat.le_trans (Nat.le_trans (Nat.le_trans (Nat.le_trans (Nat.le_trans hk0 E1.1) (Nat.le_of_eq (Wr.size W6).symm)) (Nat.le_of_eq (Wr.size W11).symm)) (Nat.le_of_eq (Wr.size W16).symm)) (Nat.le_of_eq (Wr.size W21).symm)) CR22 hw hby hml howns hown hnm hret hlk e21 Nx21 f23 Vn21 (own_drR i0) (own_drR i1) (own_drR i2) (own_drR i3) SC hcz SA SHI SLO SF hfm (by decide) (fun okv T_ locs_ hk X_ e_ N_ => seg_tl1 h0 h21 n0 i0 i1 i2 i3 i4 b1 k1 (own_draw i0) (own_draw i1) (own_draw i2) (own_draw i3) cz fm okv X_ hx hZs hZ hS0 (Nat.le_trans (Nat.le_trans (Nat.le_trans (Nat.le_trans (Nat.le_trans hk0 E1.1) (Nat.le_of_eq (Wr.size W6).symm)) (Nat.le_of_eq (Wr.size W11).symm)) (Nat.le_of_eq (Wr.size W16).symm)) (Nat.le_of_eq (Wr.size W21).symm)) CR22 hw hby hml howns hown hnm hret hlk e_ N_ f23 Vn21 (own_drR i0) (own_drR i1) (own_drR i2) (own_drR i3) SC hcz SA SHI SLO SF hfm ((own_law1 _ _ _ _).trans hk))
  · rw [hn]
    exact seg_hd h0 h21 n0 i0 i1 i2 i3 i4 b1 k1 (own_draw i0) (own_draw i1) (own_draw i2) (own_draw i3) cz fm (2 : Int32) X21 hx hZs hZ hS0 (Nat.le_trans (Nat.le_trans (Nat.le_trans (Nat.le_trans (Nat.le_trans hk0 E1.1) (Nat.le_of_eq (Wr.size W6).symm)) (Nat.le_of_eq (Wr.size W11).symm)) (Nat.le_of_eq (Wr.size W16).symm)) (Nat.le_of_eq (Wr.size W21).symm)) CR22 hw hby hml howns hown hnm hret hlk e21 Nx21 f23 Vn21 (own_drR i0) (own_drR i1) (own_drR i2) (own_drR i3) SC hcz SA SHI SLO SF hfm (by decide) (fun okv T_ locs_ hk X_ e_ N_ => seg_tl2 h0 h21 n0 i0 i1 i2 i3 i4 b1 k1 (own_draw i0) (own_draw i1) (own_draw i2) (own_draw i3) cz fm okv X_ hx hZs hZ hS0 (Nat.le_trans (Nat.le_trans (Nat.le_trans (Nat.le_trans (Nat.le_trans hk0 E1.1) (Nat.le_of_eq (Wr.size W6).symm)) (Nat.le_of_eq (Wr.size W11).symm)) (Nat.le_of_eq (Wr.size W16).symm)) (Nat.le_of_eq (Wr.size W21).symm)) CR22 hw hby hml howns hown hnm hret hlk e_ N_ f23 Vn21 (own_drR i0) (own_drR i1) (own_drR i2) (own_drR i3) SC hcz SA SHI SLO SF hfm ((own_law2 _ _ _ _).trans hk))
  · rw [hn]
    exact seg_hd h0 h21 n0 i0 i1 i2 i3 i4 b1 k1 (own_draw i0) (own_draw i1) (own_draw i2) (own_draw i3) cz fm (3 : Int32) X21 hx hZs hZ hS0 (Nat.le_trans (Nat.le_trans (Nat.le_trans (Nat.le_trans (Nat.le_trans hk0 E1.1) (Nat.le_of_eq (Wr.size W6).symm)) (Nat.le_of_eq (Wr.size W11).symm)) (Nat.le_of_eq (Wr.size W16).symm)) (Nat.le_of_eq (Wr.size W21).symm)) CR22 hw hby hml howns hown hnm hret hlk e21 Nx21 f23 Vn21 (own_drR i0) (own_drR i1) (own_drR i2) (own_drR i3) SC hcz SA SHI SLO SF hfm (by decide) (fun okv T_ locs_ hk X_ e_ N_ => seg_tl3 h0 h21 n0 i0 i1 i2 i3 i4 b1 k1 (own_draw i0) (own_draw i1) (own_draw i2) (own_draw i3) cz fm okv X_ hx hZs hZ hS0 (Nat.le_trans (Nat.le_trans (Nat.le_trans (Nat.le_trans (Nat.le_trans hk0 E1.1) (Nat.le_of_eq (Wr.size W6).symm)) (Nat.le_of_eq (Wr.size W11).symm)) (Nat.le_of_eq (Wr.size W16).symm)) (Nat.le_of_eq (Wr.size W21).symm)) CR22 hw hby hml howns hown hnm hret hlk e_ N_ f23 Vn21 (own_drR i0) (own_drR i1) (own_drR i2) (own_drR i3) SC hcz SA SHI SLO SF hfm ((own_law3 _ _ _ _).trans hk))
  · rw [hn]
    exact seg_hd h0 h21 n0 i0 i1 i2 i3 i4 b1 k1 (own_draw i0) (own_draw i1) (own_draw i2) (own_draw i3) cz fm (4 : Int32) X21 hx hZs hZ hS0 (Nat.le_trans (Nat.le_trans (Nat.le_trans (Nat.le_trans (Nat.le_trans hk0 E1.1) (Nat.le_of_eq (Wr.size W6).symm)) (Nat.le_of_eq (Wr.size W11).symm)) (Nat.le_of_eq (Wr.size W16).symm)) (Nat.le_of_eq (Wr.size W21).symm)) CR22 hw hby hml howns hown hnm hret hlk e21 Nx21 f23 Vn21 (own_drR i0) (own_drR i1) (own_drR i2) (own_drR i3) SC hcz SA SHI SLO SF hfm (by decide) (fun okv T_ locs_ hk X_ e_ N_ => seg_tl4 h0 h21 n0 i0 i1 i2 i3 i4 b1 k1 (own_draw i0) (own_draw i1) (own_draw i2) (own_draw i3) cz fm okv X_ hx hZs hZ hS0 (Nat.le_trans (Nat.le_trans (Nat.le_trans (Nat.le_trans (Nat.le_trans hk0 E1.1) (Nat.le_of_eq (Wr.size W6).symm)) (Nat.le_of_eq (Wr.size W11).symm)) (Nat.le_of_eq (Wr.size W16).symm)) (Nat.le_of_eq (Wr.size W21).symm)) CR22 hw hby hml howns hown hnm hret hlk e_ N_ f23 Vn21 (own_drR i0) (own_drR i1) (own_drR i2) (own_drR i3) SC hcz SA SHI SLO SF hfm ((own_law4 _ _ _ _).trans hk))
set_option maxRecDepth 65536 in
set_option maxHeartbeats 40000000 in
theorem comes_1 {Post : Tables → Env → Array Value → State → Outcome → State → Prop} (hpost : ∀ tb e args s v u, (limb_1_1.after args s (.returned v) u = true ∧ limb_1_2.after args s (.returned v) u = true ∧ True) → ReturnedEndW s (.returned v) u (Jvm.fieldLocs frame_1_writes args s ++ Jvm.arrayLocs frame_1_arrays args s ++ Jvm.staticLocs frame_1_statics s) 24 1152 → Post tb e args s (.returned v) u) :
    ArmFor flags0 classFile x code maxLocals ret World_1 tables_1 room_1 Calls_1 rest_1 Pre_1 Post := by
  intro l hfl _ _ p e ha hc hk s m args below hf hA hF happ hP
  obtain ⟨hcalls, hrest, hpre⟩ := hP
  obtain ⟨-, -, -, hnamed, -, -, -, hat⟩ := (Spec.applies_iff hf).mp happ
  obtain ⟨hg, hn⟩ := and_e (Cond.before_iff.mp (show (Jvm.Cond.and given_1 narrow_1).before args s = true from hpre))
  obtain ⟨u1a, u1b⟩ := and_e hg
  obtain ⟨u2a, u2b⟩ := and_e u1b
  obtain ⟨u3a, u3b⟩ := and_e u2b
  obtain ⟨u4a, u4b⟩ := and_e u3b
  obtain ⟨u5a, u5b⟩ := and_e u4b
  obtain ⟨v0, v1, v2, v3, v4, rfl⟩ : ∃ v0 v1 v2 v3 v4 : Value, args = #[v0, v1, v2, v3, v4] := by
    have hs : args.size = 5 := by simpa [Cond.value, given_1] using u1a
    obtain ⟨L⟩ := args
    match L, hs with
    | [v0, v1, v2, v3, v4], _ => exact ⟨v0, v1, v2, v3, v4, rfl⟩
  have hw := fun d (hd : d ∈ tables_1) => atoms_spec (ws := Jvm.Cond.code x code maxLocals ret :: tables_1) hat d (List.mem_cons_of_mem _ hd)
  have hfit : Fit s := fun {y c} hc i hi => by
    obtain ⟨ha, rfl⟩ := Array.getElem?_eq_some_iff.mp hc
    have q := List.all_eq_true.mp ((Array.all_eq_true_iff_forall_mem.mp hF) _ (Array.getElem_mem ha)) i (List.mem_range.mpr hi)
    simpa [Array.getElem?_eq_getElem hi] using q
  obtain ⟨hsets, hown0⟩ := atoms_of _ (rest_1_c_eq ▸ (show rest_1_c.before _ s = true from hrest))
  have hr0 := Cond.before_iff.mp hown0
  obtain ⟨i0, ei0⟩ := is_v u2a
  obtain rfl : v0 = (.int i0) := Option.some.inj ei0
  obtain ⟨i1, ei1⟩ := is_v u3a
  obtain rfl : v1 = (.int i1) := Option.some.inj ei1
  obtain ⟨i2, ei2⟩ := is_v u4a
  obtain rfl : v2 = (.int i2) := Option.some.inj ei2
  obtain ⟨i3, ei3⟩ := is_v u5a
  obtain rfl : v3 = (.int i3) := Option.some.inj ei3
  obtain ⟨i4, ei4⟩ := is_v u5b
  obtain rfl : v4 = (.int i4) := Option.some.inj ei4
  obtain ⟨cz, evc⟩ := is_v (Cond.before_iff.mp (hsets _ (List.mem_of_getElem? (i := 1) rfl)))
  have SC := Sta.start evc (Or.inl (hsets _ (List.mem_of_getElem? (i := 0) rfl)))
  have hcw : Jvm.Lit.compactW.before _ s = true := (hsets _ (List.mem_of_getElem? (i := 2) rfl))
  have hcz : ¬ cz = (0 : Int32) := own_nz evc (Cond.before_iff.mp (hsets _ (List.mem_of_getElem? (i := 2) rfl)))
  have SA := Sta.start (own_int0 (Cond.before_iff.mp (hsets _ (List.mem_of_getElem? (i := 12) rfl)))) (Or.inl (hsets _ (List.mem_of_getElem? (i := 11) rfl)))
  have SHI := Sta.start (own_int0 (Cond.before_iff.mp (hsets _ (List.mem_of_getElem? (i := 15) rfl)))) (Or.inl (hsets _ (List.mem_of_getElem? (i := 14) rfl)))
  have SLO := Sta.start (own_int0 (Cond.before_iff.mp (hsets _ (List.mem_of_getElem? (i := 18) rfl)))) (Or.inl (hsets _ (List.mem_of_getElem? (i := 17) rfl)))
  obtain ⟨fm, evf, hfm⟩ := isR_v (Cond.before_iff.mp (hsets _ (List.mem_of_getElem? (i := 8) rfl)))
  have SF := Sta.start evf (Or.inl (hsets _ (List.mem_of_getElem? (i := 7) rfl)))
  have CH0 : CHv s consts_1 s.vm s.heap := CHv.start (own_EW hw) (fun q hq => hcalls.1 q hq) hcw (wd hw 29 rfl) (wd hw 16 rfl)
  obtain ⟨n, o, h1, h2, h3, _, L, rfl, ⟨rfl, N⟩, -, hq⟩ := rm_0 l s _ hw tables_1 i0 i1 i2 i3 i4 cz fm s.heap s.heap.size (Old.start s) SC hcz SA SHI SLO SF hfm p e ha hc hk s m _ below hf ((Spec.applies_iff_loose hf).mp happ).1 ⟨rfl, State.Warmed39.refl s, rfl, CH0, fun _ q => nomatch q⟩ trivial
  refine ⟨n, _, h1, h2, h3, hpost _ _ _ _ _ _ ⟨Cond.after_iff.mpr rfl, Cond.after_iff.mpr (eq_i res_at (Term.int_eval (1)) rfl), trivial⟩ ⟨hq.1, hq.2.1, hq.2.2.1, (hq.2.2.2.sift fun y hy => Or.inr (N y hy)).mono (by decide) (by decide)⟩⟩
theorem main_1_1 : Claimed_1_1 := comes_1 fun _ _ _ _ _ _ h hF => ⟨h.1, hF⟩
theorem main_1_2 : Claimed_1_2 := comes_1 fun _ _ _ _ _ _ h hF => ⟨h.2.1, hF⟩
end Jvm.Pilot.@@N@@
namespace Jvm.Pilot.@@N@@
open Jvm Jvm.ClassFile Sem Op Lib Jvm.Free Jvm.Stand Jvm.Pilot.@@N@@.Jvm.D
/-! MADE BY PROGRAM (witnessworld.py) out of the Statement's table words and the real class files: 21 classes; the members and pool entries that the words name. The judged class is class 1, her method 6. -/
namespace start1
open Jvm.ClassFile
def u (s : String) : CpInfo := .utf8 (stringToUtf16 s)
/-- a pool by its gaps: so many unusable entries, then the entry; so many at the end -/
def gap : Nat → List CpInfo → List CpInfo
  | 0, r => r
  | n + 1, r => .unusable :: gap n r
def poolList (es : List (Nat × CpInfo)) (last : Nat) : List CpInfo := es.foldr (fun e r => gap e.1 (e.2 :: r)) (gap last [])
def pool (es : List (Nat × CpInfo)) (last : Nat) : Array CpInfo := ⟨poolList es last⟩
def fileOf (pool : Array CpInfo) (this : Nat) (attrs : Array Attribute := #[]) (ms : Array MethodInfo := #[]) (fl : Nat := 33) (sup : Nat := 0) (ifs : Array Nat := #[]) (fds : Array FieldInfo := #[]) : ClassFile where
  minorVersion := 0
  majorVersion := 65
  constantPool := pool
  accessFlags := fl
  thisClass := this
  superClass := sup
  interfaces := ifs
  fields := fds
  methods := ms
  attributes := attrs
def plain (name : String) (sup : Option ClassId) : Class where
  name := name
  kind := .ordinary
  loader := none
  accessFlags := 33
  super := sup
  interfaces := #[]
  cf := none
  fields := #[]
  methods := #[]
  instanceTypes := #[]
  staticTypes := #[]
  resolved := #[]
  callSites := []
  init := .initialized
  statics := none
  mirror := none

def pool0 : Array CpInfo := pool [(5, u "<init>"), (0, u "()V"), (1, .class_ 10), (1, u "java/lang/Object")] 113

def k0c0 : Code := { maxStack := 0, maxLocals := 1, code := object_method_1_code, exceptionTable := #[], attributes := #[] }
def k0m0 : Method := { name := "<init>", desc := "()V", sig := { parameters := [], returnType := none }, accessFlags := 1, code := some k0c0 }
/-- java/lang/Object -/
def k0 : Class := { plain "java/lang/Object" none with
  accessFlags := 33
  interfaces := #[]
  cf := some (fileOf pool0 8 #[] #[{ accessFlags := 1, nameIndex := 5, descriptorIndex := 6, attributes := #[] }] 33 0 #[] #[])
  fields := #[]
  methods := #[k0m0]
  instanceTypes := #[]
  staticTypes := #[]
  resolved := Array.replicate 124 none
  statics := none }

def pool1 : Array CpInfo := pool [(2, .class_ 4), (1, u "java/lang/Object"), (0, u "<init>"), (0, u "()V"), (0, .integer 55296), (0, .integer 56320), (0, .integer 65535), (0, .integer 56319), (0, .integer 57343), (0, .methodref 13 14), (0, .class_ 15), (0, .nameAndType 16 17), (0, u "com/example/countersign/countersign/scheme/Utf8HasFormPinLaw"), (0, u "isH"), (0, u "(C)Z"), (0, .methodref 13 19), (0, .nameAndType 20 17), (0, u "isL"), (0, .class_ 22), (0, u "java/lang/String"), (0, .methodref 21 24), (0, .nameAndType 5 25), (0, u "([C)V"), (0, .integer 2147483647), (0, .methodref 13 28), (0, .nameAndType 29 30), (0, u "draw"), (0, u "(I)C"), (0, .methodref 13 32), (0, .nameAndType 33 34), (0, u "okAt"), (0, u "([CII)Z"), (0, .methodref 13 36), (0, .nameAndType 37 38), (0, u "str"), (0, u "([CI)Ljava/lang/String;"), (0, .methodref 40 41), (0, .class_ 42), (0, .nameAndType 43 44), (0, u "com/example/countersign/countersign/scheme/Utf8"), (0, u "hasForm"), (0, u "(Ljava/lang/String;)Z"), (3, u "law"), (0, u "(IIIII)Z")] 4

def k1m0 : Method := { name := "<init>", desc := "()V", sig := { parameters := [], returnType := none }, accessFlags := 1, code := none }
def k1c1 : Code := { maxStack := 2, maxLocals := 3, code := method_2_code, exceptionTable := #[], attributes := #[] }
def k1m1 : Method := { name := "draw", desc := "(I)C", sig := { parameters := [.int], returnType := some .char }, accessFlags := 10, code := some k1c1 }
def k1c2 : Code := { maxStack := 2, maxLocals := 1, code := method_3_code, exceptionTable := #[], attributes := #[] }
def k1m2 : Method := { name := "isH", desc := "(C)Z", sig := { parameters := [.char], returnType := some .boolean }, accessFlags := 10, code := some k1c2 }
def k1c3 : Code := { maxStack := 2, maxLocals := 1, code := method_4_code, exceptionTable := #[], attributes := #[] }
def k1m3 : Method := { name := "isL", desc := "(C)Z", sig := { parameters := [.char], returnType := some .boolean }, accessFlags := 10, code := some k1c3 }
def k1c4 : Code := { maxStack := 3, maxLocals := 4, code := method_5_code, exceptionTable := #[], attributes := #[] }
def k1m4 : Method := { name := "okAt", desc := "([CII)Z", sig := { parameters := [(.array .char), .int, .int], returnType := some .boolean }, accessFlags := 10, code := some k1c4 }
def k1c5 : Code := { maxStack := 7, maxLocals := 2, code := method_6_code, exceptionTable := #[], attributes := #[] }
def k1m5 : Method := { name := "str", desc := "([CI)Ljava/lang/String;", sig := { parameters := [(.array .char), .int], returnType := some (.object "java/lang/String") }, accessFlags := 10, code := some k1c5 }
def k1c6 : Code := { maxStack := 4, maxLocals := 9, code := code, exceptionTable := #[], attributes := #[] }
def k1m6 : Method := { name := "law", desc := "(IIIII)Z", sig := { parameters := [.int, .int, .int, .int, .int], returnType := some .boolean }, accessFlags := 9, code := some k1c6 }
/-- com/example/countersign/countersign/scheme/Utf8HasFormPinLaw -/
def k1 : Class := { plain "com/example/countersign/countersign/scheme/Utf8HasFormPinLaw" (some 0) with
  accessFlags := 49
  interfaces := #[]
  cf := some (fileOf pool1 13 #[] #[{ accessFlags := 1, nameIndex := 5, descriptorIndex := 6, attributes := #[] }, { accessFlags := 10, nameIndex := 29, descriptorIndex := 30, attributes := #[] }, { accessFlags := 10, nameIndex := 16, descriptorIndex := 17, attributes := #[] }, { accessFlags := 10, nameIndex := 20, descriptorIndex := 17, attributes := #[] }, { accessFlags := 10, nameIndex := 33, descriptorIndex := 34, attributes := #[] }, { accessFlags := 10, nameIndex := 37, descriptorIndex := 38, attributes := #[] }, { accessFlags := 9, nameIndex := 48, descriptorIndex := 49, attributes := #[] }] 49 2 #[] #[])
  fields := #[]
  methods := #[k1m0, k1m1, k1m2, k1m3, k1m4, k1m5, k1m6]
  instanceTypes := #[]
  staticTypes := #[]
  resolved := Array.replicate 54 none
  statics := none }

def pool2 : Array CpInfo := pool [(1, .class_ 2), (0, u "java/io/Serializable"), (0, .class_ 4), (0, u "java/lang/Object")] 2

/-- java/io/Serializable -/
def k2 : Class := { plain "java/io/Serializable" (some 0) with
  accessFlags := 1537
  interfaces := #[]
  cf := some (fileOf pool2 1 #[] #[] 1537 3 #[] #[])
  fields := #[]
  methods := #[]
  instanceTypes := #[]
  staticTypes := #[]
  resolved := Array.replicate 7 none
  statics := none }

def pool3 : Array CpInfo := pool [(1, .class_ 2), (0, u "java/lang/Comparable"), (0, .class_ 4), (0, u "java/lang/Object")] 7

/-- java/lang/Comparable -/
def k3 : Class := { plain "java/lang/Comparable" (some 0) with
  accessFlags := 1537
  interfaces := #[]
  cf := some (fileOf pool3 1 #[] #[] 1537 3 #[] #[])
  fields := #[]
  methods := #[]
  instanceTypes := #[]
  staticTypes := #[]
  resolved := Array.replicate 12 none
  statics := none }

def pool4 : Array CpInfo := pool [(2, .class_ 4), (1, u "java/lang/CharSequence"), (42, .class_ 48), (0, u "java/lang/CharSequence$1CodePointIterator"), (10, .class_ 60), (0, u "java/lang/CharSequence$1CharIterator"), (5, .class_ 67), (0, u "java/lang/Object")] 63

/-- java/lang/CharSequence -/
def k4 : Class := { plain "java/lang/CharSequence" (some 0) with
  accessFlags := 1537
  interfaces := #[]
  cf := some (fileOf pool4 2 #[.nestMembers #[47, 59]] #[] 1537 66 #[] #[])
  fields := #[]
  methods := #[]
  instanceTypes := #[]
  staticTypes := #[]
  resolved := Array.replicate 131 none
  statics := none }

def pool5 : Array CpInfo := pool [(1, .class_ 2), (0, u "java/lang/constant/Constable"), (0, .class_ 4), (0, u "java/lang/Object")] 6

/-- java/lang/constant/Constable -/
def k5 : Class := { plain "java/lang/constant/Constable" (some 0) with
  accessFlags := 1537
  interfaces := #[]
  cf := some (fileOf pool5 1 #[] #[] 1537 3 #[] #[])
  fields := #[]
  methods := #[]
  instanceTypes := #[]
  staticTypes := #[]
  resolved := Array.replicate 11 none
  statics := none }

def pool6 : Array CpInfo := pool [(1, .class_ 2), (0, u "java/lang/constant/ConstantDesc"), (0, .class_ 4), (0, u "java/lang/Object")] 32

/-- java/lang/constant/ConstantDesc -/
def k6 : Class := { plain "java/lang/constant/ConstantDesc" (some 0) with
  accessFlags := 1537
  interfaces := #[]
  cf := some (fileOf pool6 1 #[] #[] 1537 3 #[] #[])
  fields := #[]
  methods := #[]
  instanceTypes := #[]
  staticTypes := #[]
  resolved := Array.replicate 37 none
  statics := none }

def pool7 : Array CpInfo := pool [(1, .methodref 2 3), (0, .class_ 4), (0, .nameAndType 5 6), (0, u "java/lang/Object"), (0, u "<init>"), (0, u "()V"), (0, .string 8), (0, u ""), (0, .fieldref 10 11), (0, .class_ 12), (0, .nameAndType 13 14), (0, u "java/lang/String"), (0, u "value"), (0, u "[B"), (0, .fieldref 10 16), (0, .nameAndType 17 18), (0, u "coder"), (0, u "B"), (2, u "hash"), (0, u "I"), (2, u "hashIsZero"), (0, u "Z"), (0, .methodref 10 28), (0, .nameAndType 5 29), (0, u "([CIILjava/lang/Void;)V"), (8, .fieldref 10 39), (0, .nameAndType 40 26), (0, u "COMPACT_STRINGS"), (1, .class_ 44), (1, u "java/lang/StringUTF16"), (0, u "compress"), (1, .methodref 42 48), (0, .nameAndType 49 50), (0, u "coderFromArrayLen"), (0, u "([BI)B"), (56, .class_ 109), (1, u "java/lang/StringLatin1"), (32, u "()Z"), (34, .methodref 42 178), (0, .nameAndType 45 179), (0, u "([CII)[B"), (154, u "()I"), (0, .methodref 10 336), (0, .nameAndType 17 337), (0, u "()B"), (25, u "([BI)C"), (27, u "(II)V"), (35, u "(I)C"), (64, .methodref 10 493), (0, .nameAndType 494 142), (0, u "isLatin1"), (0, .methodref 107 496), (0, .nameAndType 497 363), (0, u "charAt"), (0, .methodref 42 496), (2, u "checkIndex"), (5, u "length"), (67, .class_ 576), (0, u "java/lang/CharSequence"), (22, u "CASE_INSENSITIVE_ORDER"), (0, u "Ljava/util/Comparator;"), (409, u "([C)V"), (42, .fieldref 1054 1055), (0, .class_ 1056), (0, .nameAndType 1057 1058), (0, u "jdk/internal/util/Preconditions"), (0, u "SIOOBE_FORMATTER"), (0, u "Ljava/util/function/BiFunction;"), (0, .methodref 1054 1060), (0, .nameAndType 501 1061), (0, u "(IILjava/util/function/BiFunction;)I"), (39, u "serialPersistentFields"), (0, u "[Ljava/io/ObjectStreamField;"), (0, .class_ 1104), (0, u "java/lang/String$CaseInsensitiveComparator"), (1, .class_ 1107), (0, u "java/io/Serializable"), (0, .class_ 1109), (0, u "java/lang/Comparable"), (0, .class_ 1111), (0, u "java/lang/constant/Constable"), (0, .class_ 1113), (0, u "java/lang/constant/ConstantDesc"), (2, u "serialVersionUID"), (0, u "J"), (3, u "REPL"), (0, u "C"), (2, u "LATIN1"), (1, u "UTF16")] 323

def k7m0 : Method := { name := "<init>", desc := "()V", sig := { parameters := [], returnType := none }, accessFlags := 1, code := none }
def k7c1 : Code := { maxStack := 5, maxLocals := 2, code := jdk_42_method_3_code, exceptionTable := #[], attributes := #[] }
def k7m1 : Method := { name := "<init>", desc := "([C)V", sig := { parameters := [(.array .char)], returnType := none }, accessFlags := 1, code := some k7c1 }
def k7c2 : Code := { maxStack := 2, maxLocals := 1, code := jdk_42_method_54_code, exceptionTable := #[], attributes := #[] }
def k7m2 : Method := { name := "length", desc := "()I", sig := { parameters := [], returnType := some .int }, accessFlags := 1, code := some k7c2 }
def k7c3 : Code := { maxStack := 2, maxLocals := 2, code := jdk_42_method_56_code, exceptionTable := #[], attributes := #[] }
def k7m3 : Method := { name := "charAt", desc := "(I)C", sig := { parameters := [.int], returnType := some .char }, accessFlags := 1, code := some k7c3 }
def k7c4 : Code := { maxStack := 4, maxLocals := 6, code := jdk_42_method_149_code, exceptionTable := #[], attributes := #[] }
def k7m4 : Method := { name := "<init>", desc := "([CIILjava/lang/Void;)V", sig := { parameters := [(.array .char), .int, .int, (.object "java/lang/Void")], returnType := none }, accessFlags := 2, code := some k7c4 }
def k7c5 : Code := { maxStack := 1, maxLocals := 1, code := jdk_42_method_152_code, exceptionTable := #[], attributes := #[] }
def k7m5 : Method := { name := "coder", desc := "()B", sig := { parameters := [], returnType := some .byte }, accessFlags := 0, code := some k7c5 }
def k7c6 : Code := { maxStack := 1, maxLocals := 1, code := jdk_42_method_154_code, exceptionTable := #[], attributes := #[] }
def k7m6 : Method := { name := "isLatin1", desc := "()Z", sig := { parameters := [], returnType := some .boolean }, accessFlags := 0, code := some k7c6 }
def k7c7 : Code := { maxStack := 3, maxLocals := 2, code := jdk_42_method_155_code, exceptionTable := #[], attributes := #[] }
def k7m7 : Method := { name := "checkIndex", desc := "(II)V", sig := { parameters := [.int, .int], returnType := none }, accessFlags := 8, code := some k7c7 }
/-- java/lang/String -/
def k7 : Class := { plain "java/lang/String" (some 0) with
  accessFlags := 49
  interfaces := #[2, 3, 4, 5, 6]
  cf := some (fileOf pool7 10 #[.nestMembers #[1103]] #[{ accessFlags := 1, nameIndex := 5, descriptorIndex := 6, attributes := #[] }, { accessFlags := 1, nameIndex := 5, descriptorIndex := 1010, attributes := #[] }, { accessFlags := 1, nameIndex := 507, descriptorIndex := 334, attributes := #[] }, { accessFlags := 1, nameIndex := 497, descriptorIndex := 427, attributes := #[] }, { accessFlags := 2, nameIndex := 5, descriptorIndex := 29, attributes := #[] }, { accessFlags := 0, nameIndex := 17, descriptorIndex := 337, attributes := #[] }, { accessFlags := 0, nameIndex := 494, descriptorIndex := 142, attributes := #[] }, { accessFlags := 8, nameIndex := 501, descriptorIndex := 391, attributes := #[] }] 49 2 #[1106, 1108, 575, 1110, 1112] #[{ accessFlags := 18, nameIndex := 13, descriptorIndex := 14, attributes := #[] }, { accessFlags := 18, nameIndex := 17, descriptorIndex := 18, attributes := #[] }, { accessFlags := 2, nameIndex := 21, descriptorIndex := 22, attributes := #[] }, { accessFlags := 2, nameIndex := 25, descriptorIndex := 26, attributes := #[] }, { accessFlags := 26, nameIndex := 1116, descriptorIndex := 1117, attributes := #[] }, { accessFlags := 24, nameIndex := 40, descriptorIndex := 26, attributes := #[] }, { accessFlags := 26, nameIndex := 1101, descriptorIndex := 1102, attributes := #[] }, { accessFlags := 26, nameIndex := 1121, descriptorIndex := 1122, attributes := #[] }, { accessFlags := 25, nameIndex := 599, descriptorIndex := 600, attributes := #[] }, { accessFlags := 24, nameIndex := 1125, descriptorIndex := 18, attributes := #[] }, { accessFlags := 24, nameIndex := 1127, descriptorIndex := 18, attributes := #[] }])
  fields := #[{ name := "value", type := (.array .byte), accessFlags := 18, slot := 0, constantValue := 0 }, { name := "coder", type := .byte, accessFlags := 18, slot := 1, constantValue := 0 }, { name := "hash", type := .int, accessFlags := 2, slot := 2, constantValue := 0 }, { name := "hashIsZero", type := .boolean, accessFlags := 2, slot := 3, constantValue := 0 }, { name := "serialVersionUID", type := .long, accessFlags := 26, slot := 0, constantValue := 0 }, { name := "COMPACT_STRINGS", type := .boolean, accessFlags := 24, slot := 1, constantValue := 0 }, { name := "serialPersistentFields", type := (.array (.object "java/io/ObjectStreamField")), accessFlags := 26, slot := 2, constantValue := 0 }, { name := "REPL", type := .char, accessFlags := 26, slot := 3, constantValue := 0 }, { name := "CASE_INSENSITIVE_ORDER", type := (.object "java/util/Comparator"), accessFlags := 25, slot := 4, constantValue := 0 }, { name := "LATIN1", type := .byte, accessFlags := 24, slot := 5, constantValue := 0 }, { name := "UTF16", type := .byte, accessFlags := 24, slot := 6, constantValue := 0 }]
  methods := #[k7m0, k7m1, k7m2, k7m3, k7m4, k7m5, k7m6, k7m7]
  instanceTypes := #[(.array .byte), .byte, .int, .boolean]
  staticTypes := #[.long, .boolean, (.array (.object "java/io/ObjectStreamField")), .char, (.object "java/util/Comparator"), .byte, .byte]
  resolved := Array.replicate 1451 none
  statics := some 0 }

def pool8 : Array CpInfo := pool [(2, .class_ 4), (1, u "java/lang/Object"), (0, u "<init>"), (0, u "()V"), (0, .methodref 8 9), (0, .class_ 10), (0, .nameAndType 11 12), (0, u "java/lang/String"), (0, u "length"), (0, u "()I"), (0, .methodref 8 14), (0, .nameAndType 15 16), (0, u "charAt"), (0, u "(I)C"), (0, .methodref 18 19), (0, .class_ 20), (0, .nameAndType 21 22), (0, u "java/lang/Character"), (0, u "isHighSurrogate"), (0, u "(C)Z"), (0, .methodref 18 24), (0, .nameAndType 25 22), (0, u "isLowSurrogate"), (0, .methodref 18 27), (0, .nameAndType 28 22), (0, u "isSurrogate"), (50, .class_ 80), (0, u "com/example/countersign/countersign/scheme/Utf8"), (2, u "hasForm"), (0, u "(Ljava/lang/String;)Z")] 7

def k8m0 : Method := { name := "<init>", desc := "()V", sig := { parameters := [], returnType := none }, accessFlags := 2, code := none }
def k8c1 : Code := { maxStack := 3, maxLocals := 3, code := prog_24_method_2_code, exceptionTable := #[], attributes := #[] }
def k8m1 : Method := { name := "hasForm", desc := "(Ljava/lang/String;)Z", sig := { parameters := [(.object "java/lang/String")], returnType := some .boolean }, accessFlags := 9, code := some k8c1 }
/-- com/example/countersign/countersign/scheme/Utf8 -/
def k8 : Class := { plain "com/example/countersign/countersign/scheme/Utf8" (some 0) with
  accessFlags := 49
  interfaces := #[]
  cf := some (fileOf pool8 79 #[] #[{ accessFlags := 2, nameIndex := 5, descriptorIndex := 6, attributes := #[] }, { accessFlags := 9, nameIndex := 83, descriptorIndex := 84, attributes := #[] }] 49 2 #[] #[])
  fields := #[]
  methods := #[k8m0, k8m1]
  instanceTypes := #[]
  staticTypes := #[]
  resolved := Array.replicate 92 none
  statics := none }

def pool9 : Array CpInfo := pool [(3, .class_ 4), (0, u "java/lang/String"), (1, .class_ 8), (1, u "java/lang/Object"), (0, u "<init>"), (0, u "()V"), (0, .methodref 12 13), (0, .class_ 14), (0, .nameAndType 15 16), (0, u "java/lang/StringUTF16"), (0, u "newBytesLength"), (0, u "(I)I"), (3, .integer 1073741823), (23, .fieldref 12 45), (0, .nameAndType 46 47), (0, u "$assertionsDisabled"), (0, u "Z"), (0, .methodref 12 49), (0, .nameAndType 50 51), (0, u "length"), (0, u "([B)I"), (7, .fieldref 12 60), (0, .nameAndType 61 62), (0, u "HI_BYTE_SHIFT"), (0, u "I"), (0, .fieldref 12 64), (0, .nameAndType 65 62), (0, u "LO_BYTE_SHIFT"), (1, .methodref 12 68), (0, .nameAndType 69 70), (0, u "checkIndex"), (0, u "(I[B)V"), (0, .methodref 12 72), (0, .nameAndType 73 74), (0, u "getChar"), (0, u "([BI)C"), (32, .methodref 12 108), (0, .nameAndType 109 110), (0, u "newBytesFor"), (0, u "(I)[B"), (0, .methodref 12 112), (0, .nameAndType 113 114), (0, u "putChar"), (0, u "([BII)V"), (0, .methodref 12 116), (0, .nameAndType 117 118), (0, u "compress"), (0, u "([CI[BII)I"), (0, .methodref 12 120), (0, .nameAndType 121 122), (0, u "toBytes"), (0, u "([CII)[B"), (138, u "coderFromArrayLen"), (0, u "([BI)B"), (106, .class_ 371), (1, u "java/lang/StringUTF16$LinesSpliterator"), (20, u "charAt"), (21, .methodref 3 415), (0, .nameAndType 69 416), (0, u "(II)V"), (13, u "MAX_LENGTH"), (196, .class_ 628), (0, u "java/lang/StringUTF16$CodePointsSpliterator"), (0, .class_ 630), (0, u "java/lang/StringUTF16$CharsSpliterator")] 4

def k9m0 : Method := { name := "<init>", desc := "()V", sig := { parameters := [], returnType := none }, accessFlags := 0, code := none }
def k9c1 : Code := { maxStack := 1, maxLocals := 1, code := jdk_52_method_2_code, exceptionTable := #[], attributes := #[] }
def k9m1 : Method := { name := "newBytesFor", desc := "(I)[B", sig := { parameters := [.int], returnType := some (.array .byte) }, accessFlags := 9, code := some k9c1 }
def k9c2 : Code := { maxStack := 4, maxLocals := 1, code := jdk_52_method_3_code, exceptionTable := #[], attributes := #[] }
def k9m2 : Method := { name := "newBytesLength", desc := "(I)I", sig := { parameters := [.int], returnType := some .int }, accessFlags := 9, code := some k9c2 }
def k9c3 : Code := { maxStack := 4, maxLocals := 3, code := jdk_52_method_4_code, exceptionTable := #[], attributes := #[] }
def k9m3 : Method := { name := "putChar", desc := "([BII)V", sig := { parameters := [(.array .byte), .int, .int], returnType := none }, accessFlags := 8, code := some k9c3 }
def k9c4 : Code := { maxStack := 3, maxLocals := 2, code := jdk_52_method_5_code, exceptionTable := #[], attributes := #[] }
def k9m4 : Method := { name := "getChar", desc := "([BI)C", sig := { parameters := [(.array .byte), .int], returnType := some .char }, accessFlags := 8, code := some k9c4 }
def k9c5 : Code := { maxStack := 2, maxLocals := 1, code := jdk_52_method_6_code, exceptionTable := #[], attributes := #[] }
def k9m5 : Method := { name := "length", desc := "([B)I", sig := { parameters := [(.array .byte)], returnType := some .int }, accessFlags := 9, code := some k9c5 }
def k9c6 : Code := { maxStack := 4, maxLocals := 5, code := jdk_52_method_14_code, exceptionTable := #[], attributes := #[] }
def k9m6 : Method := { name := "toBytes", desc := "([CII)[B", sig := { parameters := [(.array .char), .int, .int], returnType := some (.array .byte) }, accessFlags := 9, code := some k9c6 }
def k9c7 : Code := { maxStack := 2, maxLocals := 2, code := jdk_52_method_15_code, exceptionTable := #[], attributes := #[] }
def k9m7 : Method := { name := "coderFromArrayLen", desc := "([BI)B", sig := { parameters := [(.array .byte), .int], returnType := some .byte }, accessFlags := 8, code := some k9c7 }
def k9c8 : Code := { maxStack := 5, maxLocals := 6, code := jdk_52_method_16_code, exceptionTable := #[], attributes := #[] }
def k9m8 : Method := { name := "compress", desc := "([CII)[B", sig := { parameters := [(.array .char), .int, .int], returnType := some (.array .byte) }, accessFlags := 9, code := some k9c8 }
def k9c9 : Code := { maxStack := 3, maxLocals := 7, code := jdk_52_method_21_code, exceptionTable := #[], attributes := #[] }
def k9m9 : Method := { name := "compress", desc := "([CI[BII)I", sig := { parameters := [(.array .char), .int, (.array .byte), .int, .int], returnType := some .int }, accessFlags := 9, code := some k9c9 }
def k9c10 : Code := { maxStack := 2, maxLocals := 2, code := jdk_52_method_83_code, exceptionTable := #[], attributes := #[] }
def k9m10 : Method := { name := "charAt", desc := "([BI)C", sig := { parameters := [(.array .byte), .int], returnType := some .char }, accessFlags := 9, code := some k9c10 }
def k9c11 : Code := { maxStack := 2, maxLocals := 2, code := jdk_52_method_91_code, exceptionTable := #[], attributes := #[] }
def k9m11 : Method := { name := "checkIndex", desc := "(I[B)V", sig := { parameters := [.int, (.array .byte)], returnType := none }, accessFlags := 9, code := some k9c11 }
/-- java/lang/StringUTF16 -/
def k9 : Class := { plain "java/lang/StringUTF16" (some 0) with
  accessFlags := 48
  interfaces := #[]
  cf := some (fileOf pool9 12 #[.nestMembers #[627, 629, 369]] #[{ accessFlags := 0, nameIndex := 9, descriptorIndex := 10, attributes := #[] }, { accessFlags := 9, nameIndex := 109, descriptorIndex := 110, attributes := #[] }, { accessFlags := 9, nameIndex := 15, descriptorIndex := 16, attributes := #[] }, { accessFlags := 8, nameIndex := 113, descriptorIndex := 114, attributes := #[] }, { accessFlags := 8, nameIndex := 73, descriptorIndex := 74, attributes := #[] }, { accessFlags := 9, nameIndex := 50, descriptorIndex := 51, attributes := #[] }, { accessFlags := 9, nameIndex := 121, descriptorIndex := 122, attributes := #[] }, { accessFlags := 8, nameIndex := 261, descriptorIndex := 262, attributes := #[] }, { accessFlags := 9, nameIndex := 117, descriptorIndex := 122, attributes := #[] }, { accessFlags := 9, nameIndex := 117, descriptorIndex := 118, attributes := #[] }, { accessFlags := 9, nameIndex := 392, descriptorIndex := 74, attributes := #[] }, { accessFlags := 9, nameIndex := 69, descriptorIndex := 70, attributes := #[] }] 48 6 #[] #[{ accessFlags := 26, nameIndex := 61, descriptorIndex := 62, attributes := #[] }, { accessFlags := 26, nameIndex := 65, descriptorIndex := 62, attributes := #[] }, { accessFlags := 24, nameIndex := 430, descriptorIndex := 62, attributes := #[] }, { accessFlags := 4120, nameIndex := 46, descriptorIndex := 47, attributes := #[] }])
  fields := #[{ name := "HI_BYTE_SHIFT", type := .int, accessFlags := 26, slot := 0, constantValue := 0 }, { name := "LO_BYTE_SHIFT", type := .int, accessFlags := 26, slot := 1, constantValue := 0 }, { name := "MAX_LENGTH", type := .int, accessFlags := 24, slot := 2, constantValue := 0 }, { name := "$assertionsDisabled", type := .boolean, accessFlags := 4120, slot := 3, constantValue := 0 }]
  methods := #[k9m0, k9m1, k9m2, k9m3, k9m4, k9m5, k9m6, k9m7, k9m8, k9m9, k9m10, k9m11]
  instanceTypes := #[]
  staticTypes := #[.int, .int, .int, .boolean]
  resolved := Array.replicate 635 none
  statics := some 1 }

def pool10 : Array CpInfo := pool [(1, .class_ 2), (0, u "java/lang/String"), (1, .class_ 6), (1, u "java/lang/Object"), (0, u "<init>"), (0, u "()V"), (0, .methodref 1 10), (0, .nameAndType 11 12), (0, u "checkIndex"), (0, u "(II)V"), (1, .class_ 16), (1, u "java/lang/StringLatin1"), (36, u "([BI)C"), (67, u "$assertionsDisabled"), (0, u "Z"), (98, .class_ 223), (1, u "java/lang/StringLatin1$LinesSpliterator"), (28, u "charAt"), (137, .class_ 391), (0, u "java/lang/StringLatin1$CharsSpliterator")] 3

def k10m0 : Method := { name := "<init>", desc := "()V", sig := { parameters := [], returnType := none }, accessFlags := 0, code := none }
def k10c1 : Code := { maxStack := 2, maxLocals := 2, code := jdk_43_method_2_code, exceptionTable := #[], attributes := #[] }
def k10m1 : Method := { name := "charAt", desc := "([BI)C", sig := { parameters := [(.array .byte), .int], returnType := some .char }, accessFlags := 9, code := some k10c1 }
/-- java/lang/StringLatin1 -/
def k10 : Class := { plain "java/lang/StringLatin1" (some 0) with
  accessFlags := 48
  interfaces := #[]
  cf := some (fileOf pool10 14 #[.nestMembers #[390, 221]] #[{ accessFlags := 0, nameIndex := 7, descriptorIndex := 8, attributes := #[] }, { accessFlags := 9, nameIndex := 252, descriptorIndex := 53, attributes := #[] }] 48 4 #[] #[{ accessFlags := 4120, nameIndex := 121, descriptorIndex := 122, attributes := #[] }])
  fields := #[{ name := "$assertionsDisabled", type := .boolean, accessFlags := 4120, slot := 0, constantValue := 0 }]
  methods := #[k10m0, k10m1]
  instanceTypes := #[]
  staticTypes := #[.boolean]
  resolved := Array.replicate 395 none
  statics := none }

def pool11 : Array CpInfo := pool [(2, .class_ 4), (1, u "java/lang/Object"), (0, u "<init>"), (0, u "()V"), (17, .class_ 26), (1, u "jdk/internal/util/Preconditions"), (6, u "checkIndex"), (21, .class_ 56), (0, u "jdk/internal/util/Preconditions$4"), (57, .class_ 115), (0, u "jdk/internal/util/Preconditions$1"), (7, u "SIOOBE_FORMATTER"), (0, u "Ljava/util/function/BiFunction;"), (0, .class_ 126), (0, u "jdk/internal/util/Preconditions$2"), (3, u "AIOOBE_FORMATTER"), (0, .class_ 132), (0, u "jdk/internal/util/Preconditions$3"), (3, u "IOOBE_FORMATTER"), (41, u "(IILjava/util/function/BiFunction;)I")] 15

def k11m0 : Method := { name := "<init>", desc := "()V", sig := { parameters := [], returnType := none }, accessFlags := 1, code := none }
def k11c1 : Code := { maxStack := 3, maxLocals := 3, code := jdk_41_method_11_code, exceptionTable := #[], attributes := #[] }
def k11m1 : Method := { name := "checkIndex", desc := "(IILjava/util/function/BiFunction;)I", sig := { parameters := [.int, .int, (.object "java/util/function/BiFunction")], returnType := some .int }, accessFlags := 9, code := some k11c1 }
/-- jdk/internal/util/Preconditions -/
def k11 : Class := { plain "jdk/internal/util/Preconditions" (some 0) with
  accessFlags := 33
  interfaces := #[]
  cf := some (fileOf pool11 24 #[.nestMembers #[55, 131, 125, 114]] #[{ accessFlags := 1, nameIndex := 5, descriptorIndex := 6, attributes := #[] }, { accessFlags := 9, nameIndex := 33, descriptorIndex := 178, attributes := #[] }] 33 2 #[] #[{ accessFlags := 25, nameIndex := 123, descriptorIndex := 124, attributes := #[] }, { accessFlags := 25, nameIndex := 130, descriptorIndex := 124, attributes := #[] }, { accessFlags := 25, nameIndex := 136, descriptorIndex := 124, attributes := #[] }])
  fields := #[{ name := "SIOOBE_FORMATTER", type := (.object "java/util/function/BiFunction"), accessFlags := 25, slot := 0, constantValue := 0 }, { name := "AIOOBE_FORMATTER", type := (.object "java/util/function/BiFunction"), accessFlags := 25, slot := 1, constantValue := 0 }, { name := "IOOBE_FORMATTER", type := (.object "java/util/function/BiFunction"), accessFlags := 25, slot := 2, constantValue := 0 }]
  methods := #[k11m0, k11m1]
  instanceTypes := #[]
  staticTypes := #[(.object "java/util/function/BiFunction"), (.object "java/util/function/BiFunction"), (.object "java/util/function/BiFunction")]
  resolved := Array.replicate 194 none
  statics := some 2 }

def pool12 : Array CpInfo := pool [(1, .class_ 2), (0, u "java/lang/Character"), (18, u "value"), (0, u "C"), (19, .class_ 44), (1, u "java/lang/Object"), (3, .class_ 50), (1, u "java/lang/Character$CharacterCache"), (24, .integer 55296), (0, .integer 56320), (0, .integer 57344), (2, u "isHighSurrogate"), (0, u "(C)Z"), (2, u "isLowSurrogate"), (199, u "$assertionsDisabled"), (0, u "Z"), (21, .class_ 309), (1, u "java/lang/Character$UnicodeBlock"), (73, u "TYPE"), (0, u "Ljava/lang/Class;"), (0, .class_ 386), (0, u "java/io/Serializable"), (0, .class_ 388), (0, u "java/lang/Comparable"), (0, .class_ 390), (0, u "java/lang/constant/Constable"), (0, u "MIN_RADIX"), (0, u "I"), (2, u "MAX_RADIX"), (1, u "MIN_VALUE"), (1, u "MAX_VALUE"), (3, u "UNASSIGNED"), (0, u "B"), (0, u "UPPERCASE_LETTER"), (1, u "LOWERCASE_LETTER"), (0, u "TITLECASE_LETTER"), (1, u "MODIFIER_LETTER"), (1, u "OTHER_LETTER"), (1, u "NON_SPACING_MARK"), (1, u "ENCLOSING_MARK"), (1, u "COMBINING_SPACING_MARK"), (1, u "DECIMAL_DIGIT_NUMBER"), (1, u "LETTER_NUMBER"), (1, u "OTHER_NUMBER"), (1, u "SPACE_SEPARATOR"), (1, u "LINE_SEPARATOR"), (1, u "PARAGRAPH_SEPARATOR"), (1, u "CONTROL"), (1, u "FORMAT"), (1, u "PRIVATE_USE"), (1, u "SURROGATE"), (1, u "DASH_PUNCTUATION"), (1, u "START_PUNCTUATION"), (1, u "END_PUNCTUATION"), (1, u "CONNECTOR_PUNCTUATION"), (1, u "OTHER_PUNCTUATION"), (1, u "MATH_SYMBOL"), (1, u "CURRENCY_SYMBOL"), (1, u "MODIFIER_SYMBOL"), (1, u "OTHER_SYMBOL"), (1, u "INITIAL_QUOTE_PUNCTUATION"), (1, u "FINAL_QUOTE_PUNCTUATION"), (1, u "ERROR"), (1, u "DIRECTIONALITY_UNDEFINED"), (0, u "DIRECTIONALITY_LEFT_TO_RIGHT"), (0, u "DIRECTIONALITY_RIGHT_TO_LEFT"), (0, u "DIRECTIONALITY_RIGHT_TO_LEFT_ARABIC"), (0, u "DIRECTIONALITY_EUROPEAN_NUMBER"), (0, u "DIRECTIONALITY_EUROPEAN_NUMBER_SEPARATOR"), (0, u "DIRECTIONALITY_EUROPEAN_NUMBER_TERMINATOR"), (0, u "DIRECTIONALITY_ARABIC_NUMBER"), (0, u "DIRECTIONALITY_COMMON_NUMBER_SEPARATOR"), (0, u "DIRECTIONALITY_NONSPACING_MARK"), (0, u "DIRECTIONALITY_BOUNDARY_NEUTRAL"), (0, u "DIRECTIONALITY_PARAGRAPH_SEPARATOR"), (0, u "DIRECTIONALITY_SEGMENT_SEPARATOR"), (0, u "DIRECTIONALITY_WHITESPACE"), (0, u "DIRECTIONALITY_OTHER_NEUTRALS"), (0, u "DIRECTIONALITY_LEFT_TO_RIGHT_EMBEDDING"), (0, u "DIRECTIONALITY_LEFT_TO_RIGHT_OVERRIDE"), (0, u "DIRECTIONALITY_RIGHT_TO_LEFT_EMBEDDING"), (0, u "DIRECTIONALITY_RIGHT_TO_LEFT_OVERRIDE"), (1, u "DIRECTIONALITY_POP_DIRECTIONAL_FORMAT"), (0, u "DIRECTIONALITY_LEFT_TO_RIGHT_ISOLATE"), (0, u "DIRECTIONALITY_RIGHT_TO_LEFT_ISOLATE"), (0, u "DIRECTIONALITY_FIRST_STRONG_ISOLATE"), (0, u "DIRECTIONALITY_POP_DIRECTIONAL_ISOLATE"), (0, u "MIN_HIGH_SURROGATE"), (0, u "MAX_HIGH_SURROGATE"), (1, u "MIN_LOW_SURROGATE"), (0, u "MAX_LOW_SURROGATE"), (1, u "MIN_SURROGATE"), (0, u "MAX_SURROGATE"), (0, u "MIN_SUPPLEMENTARY_CODE_POINT"), (0, u "MIN_CODE_POINT"), (0, u "MAX_CODE_POINT"), (1, u "serialVersionUID"), (0, u "J"), (2, u "SIZE"), (0, u "BYTES"), (24, u "isSurrogate"), (63, .class_ 596), (0, u "java/lang/Character$UnicodeScript"), (0, .class_ 598), (0, u "java/lang/Character$Subset")] 5

def k12c0 : Code := { maxStack := 2, maxLocals := 1, code := jdk_89_method_14_code, exceptionTable := #[], attributes := #[] }
def k12m0 : Method := { name := "isHighSurrogate", desc := "(C)Z", sig := { parameters := [.char], returnType := some .boolean }, accessFlags := 9, code := some k12c0 }
def k12c1 : Code := { maxStack := 2, maxLocals := 1, code := jdk_89_method_15_code, exceptionTable := #[], attributes := #[] }
def k12m1 : Method := { name := "isLowSurrogate", desc := "(C)Z", sig := { parameters := [.char], returnType := some .boolean }, accessFlags := 9, code := some k12c1 }
def k12c2 : Code := { maxStack := 2, maxLocals := 1, code := jdk_89_method_16_code, exceptionTable := #[], attributes := #[] }
def k12m2 : Method := { name := "isSurrogate", desc := "(C)Z", sig := { parameters := [.char], returnType := some .boolean }, accessFlags := 9, code := some k12c2 }
/-- java/lang/Character -/
def k12 : Class := { plain "java/lang/Character" (some 0) with
  accessFlags := 49
  interfaces := #[2, 3, 5]
  cf := some (fileOf pool12 1 #[.nestMembers #[48, 595, 307, 597]] #[{ accessFlags := 9, nameIndex := 80, descriptorIndex := 81, attributes := #[] }, { accessFlags := 9, nameIndex := 84, descriptorIndex := 81, attributes := #[] }, { accessFlags := 9, nameIndex := 531, descriptorIndex := 81, attributes := #[] }] 49 42 #[385, 387, 389] #[{ accessFlags := 25, nameIndex := 391, descriptorIndex := 392, attributes := #[] }, { accessFlags := 25, nameIndex := 395, descriptorIndex := 392, attributes := #[] }, { accessFlags := 25, nameIndex := 397, descriptorIndex := 22, attributes := #[] }, { accessFlags := 25, nameIndex := 399, descriptorIndex := 22, attributes := #[] }, { accessFlags := 25, nameIndex := 383, descriptorIndex := 384, attributes := #[] }, { accessFlags := 25, nameIndex := 403, descriptorIndex := 404, attributes := #[] }, { accessFlags := 25, nameIndex := 405, descriptorIndex := 404, attributes := #[] }, { accessFlags := 25, nameIndex := 407, descriptorIndex := 404, attributes := #[] }, { accessFlags := 25, nameIndex := 408, descriptorIndex := 404, attributes := #[] }, { accessFlags := 25, nameIndex := 410, descriptorIndex := 404, attributes := #[] }, { accessFlags := 25, nameIndex := 412, descriptorIndex := 404, attributes := #[] }, { accessFlags := 25, nameIndex := 414, descriptorIndex := 404, attributes := #[] }, { accessFlags := 25, nameIndex := 416, descriptorIndex := 404, attributes := #[] }, { accessFlags := 25, nameIndex := 418, descriptorIndex := 404, attributes := #[] }, { accessFlags := 25, nameIndex := 420, descriptorIndex := 404, attributes := #[] }, { accessFlags := 25, nameIndex := 422, descriptorIndex := 404, attributes := #[] }, { accessFlags := 25, nameIndex := 424, descriptorIndex := 404, attributes := #[] }, { accessFlags := 25, nameIndex := 426, descriptorIndex := 404, attributes := #[] }, { accessFlags := 25, nameIndex := 428, descriptorIndex := 404, attributes := #[] }, { accessFlags := 25, nameIndex := 430, descriptorIndex := 404, attributes := #[] }, { accessFlags := 25, nameIndex := 432, descriptorIndex := 404, attributes := #[] }, { accessFlags := 25, nameIndex := 434, descriptorIndex := 404, attributes := #[] }, { accessFlags := 25, nameIndex := 436, descriptorIndex := 404, attributes := #[] }, { accessFlags := 25, nameIndex := 438, descriptorIndex := 404, attributes := #[] }, { accessFlags := 25, nameIndex := 440, descriptorIndex := 404, attributes := #[] }, { accessFlags := 25, nameIndex := 442, descriptorIndex := 404, attributes := #[] }, { accessFlags := 25, nameIndex := 444, descriptorIndex := 404, attributes := #[] }, { accessFlags := 25, nameIndex := 446, descriptorIndex := 404, attributes := #[] }, { accessFlags := 25, nameIndex := 448, descriptorIndex := 404, attributes := #[] }, { accessFlags := 25, nameIndex := 450, descriptorIndex := 404, attributes := #[] }, { accessFlags := 25, nameIndex := 452, descriptorIndex := 404, attributes := #[] }, { accessFlags := 25, nameIndex := 454, descriptorIndex := 404, attributes := #[] }, { accessFlags := 25, nameIndex := 456, descriptorIndex := 404, attributes := #[] }, { accessFlags := 25, nameIndex := 458, descriptorIndex := 404, attributes := #[] }, { accessFlags := 25, nameIndex := 460, descriptorIndex := 404, attributes := #[] }, { accessFlags := 24, nameIndex := 462, descriptorIndex := 392, attributes := #[] }, { accessFlags := 25, nameIndex := 464, descriptorIndex := 404, attributes := #[] }, { accessFlags := 25, nameIndex := 465, descriptorIndex := 404, attributes := #[] }, { accessFlags := 25, nameIndex := 466, descriptorIndex := 404, attributes := #[] }, { accessFlags := 25, nameIndex := 467, descriptorIndex := 404, attributes := #[] }, { accessFlags := 25, nameIndex := 468, descriptorIndex := 404, attributes := #[] }, { accessFlags := 25, nameIndex := 469, descriptorIndex := 404, attributes := #[] }, { accessFlags := 25, nameIndex := 470, descriptorIndex := 404, attributes := #[] }, { accessFlags := 25, nameIndex := 471, descriptorIndex := 404, attributes := #[] }, { accessFlags := 25, nameIndex := 472, descriptorIndex := 404, attributes := #[] }, { accessFlags := 25, nameIndex := 473, descriptorIndex := 404, attributes := #[] }, { accessFlags := 25, nameIndex := 474, descriptorIndex := 404, attributes := #[] }, { accessFlags := 25, nameIndex := 475, descriptorIndex := 404, attributes := #[] }, { accessFlags := 25, nameIndex := 476, descriptorIndex := 404, attributes := #[] }, { accessFlags := 25, nameIndex := 477, descriptorIndex := 404, attributes := #[] }, { accessFlags := 25, nameIndex := 478, descriptorIndex := 404, attributes := #[] }, { accessFlags := 25, nameIndex := 479, descriptorIndex := 404, attributes := #[] }, { accessFlags := 25, nameIndex := 480, descriptorIndex := 404, attributes := #[] }, { accessFlags := 25, nameIndex := 481, descriptorIndex := 404, attributes := #[] }, { accessFlags := 25, nameIndex := 482, descriptorIndex := 404, attributes := #[] }, { accessFlags := 25, nameIndex := 484, descriptorIndex := 404, attributes := #[] }, { accessFlags := 25, nameIndex := 485, descriptorIndex := 404, attributes := #[] }, { accessFlags := 25, nameIndex := 486, descriptorIndex := 404, attributes := #[] }, { accessFlags := 25, nameIndex := 487, descriptorIndex := 404, attributes := #[] }, { accessFlags := 25, nameIndex := 488, descriptorIndex := 404, attributes := #[] }, { accessFlags := 25, nameIndex := 489, descriptorIndex := 22, attributes := #[] }, { accessFlags := 25, nameIndex := 490, descriptorIndex := 22, attributes := #[] }, { accessFlags := 25, nameIndex := 492, descriptorIndex := 22, attributes := #[] }, { accessFlags := 25, nameIndex := 493, descriptorIndex := 22, attributes := #[] }, { accessFlags := 25, nameIndex := 495, descriptorIndex := 22, attributes := #[] }, { accessFlags := 25, nameIndex := 496, descriptorIndex := 22, attributes := #[] }, { accessFlags := 25, nameIndex := 497, descriptorIndex := 392, attributes := #[] }, { accessFlags := 25, nameIndex := 498, descriptorIndex := 392, attributes := #[] }, { accessFlags := 25, nameIndex := 499, descriptorIndex := 392, attributes := #[] }, { accessFlags := 18, nameIndex := 21, descriptorIndex := 22, attributes := #[] }, { accessFlags := 26, nameIndex := 501, descriptorIndex := 502, attributes := #[] }, { accessFlags := 25, nameIndex := 505, descriptorIndex := 392, attributes := #[] }, { accessFlags := 25, nameIndex := 506, descriptorIndex := 392, attributes := #[] }, { accessFlags := 4120, nameIndex := 284, descriptorIndex := 285, attributes := #[] }])
  fields := #[{ name := "MIN_RADIX", type := .int, accessFlags := 25, slot := 0, constantValue := 0 }, { name := "MAX_RADIX", type := .int, accessFlags := 25, slot := 1, constantValue := 0 }, { name := "MIN_VALUE", type := .char, accessFlags := 25, slot := 2, constantValue := 0 }, { name := "MAX_VALUE", type := .char, accessFlags := 25, slot := 3, constantValue := 0 }, { name := "TYPE", type := (.object "java/lang/Class"), accessFlags := 25, slot := 4, constantValue := 0 }, { name := "UNASSIGNED", type := .byte, accessFlags := 25, slot := 5, constantValue := 0 }, { name := "UPPERCASE_LETTER", type := .byte, accessFlags := 25, slot := 6, constantValue := 0 }, { name := "LOWERCASE_LETTER", type := .byte, accessFlags := 25, slot := 7, constantValue := 0 }, { name := "TITLECASE_LETTER", type := .byte, accessFlags := 25, slot := 8, constantValue := 0 }, { name := "MODIFIER_LETTER", type := .byte, accessFlags := 25, slot := 9, constantValue := 0 }, { name := "OTHER_LETTER", type := .byte, accessFlags := 25, slot := 10, constantValue := 0 }, { name := "NON_SPACING_MARK", type := .byte, accessFlags := 25, slot := 11, constantValue := 0 }, { name := "ENCLOSING_MARK", type := .byte, accessFlags := 25, slot := 12, constantValue := 0 }, { name := "COMBINING_SPACING_MARK", type := .byte, accessFlags := 25, slot := 13, constantValue := 0 }, { name := "DECIMAL_DIGIT_NUMBER", type := .byte, accessFlags := 25, slot := 14, constantValue := 0 }, { name := "LETTER_NUMBER", type := .byte, accessFlags := 25, slot := 15, constantValue := 0 }, { name := "OTHER_NUMBER", type := .byte, accessFlags := 25, slot := 16, constantValue := 0 }, { name := "SPACE_SEPARATOR", type := .byte, accessFlags := 25, slot := 17, constantValue := 0 }, { name := "LINE_SEPARATOR", type := .byte, accessFlags := 25, slot := 18, constantValue := 0 }, { name := "PARAGRAPH_SEPARATOR", type := .byte, accessFlags := 25, slot := 19, constantValue := 0 }, { name := "CONTROL", type := .byte, accessFlags := 25, slot := 20, constantValue := 0 }, { name := "FORMAT", type := .byte, accessFlags := 25, slot := 21, constantValue := 0 }, { name := "PRIVATE_USE", type := .byte, accessFlags := 25, slot := 22, constantValue := 0 }, { name := "SURROGATE", type := .byte, accessFlags := 25, slot := 23, constantValue := 0 }, { name := "DASH_PUNCTUATION", type := .byte, accessFlags := 25, slot := 24, constantValue := 0 }, { name := "START_PUNCTUATION", type := .byte, accessFlags := 25, slot := 25, constantValue := 0 }, { name := "END_PUNCTUATION", type := .byte, accessFlags := 25, slot := 26, constantValue := 0 }, { name := "CONNECTOR_PUNCTUATION", type := .byte, accessFlags := 25, slot := 27, constantValue := 0 }, { name := "OTHER_PUNCTUATION", type := .byte, accessFlags := 25, slot := 28, constantValue := 0 }, { name := "MATH_SYMBOL", type := .byte, accessFlags := 25, slot := 29, constantValue := 0 }, { name := "CURRENCY_SYMBOL", type := .byte, accessFlags := 25, slot := 30, constantValue := 0 }, { name := "MODIFIER_SYMBOL", type := .byte, accessFlags := 25, slot := 31, constantValue := 0 }, { name := "OTHER_SYMBOL", type := .byte, accessFlags := 25, slot := 32, constantValue := 0 }, { name := "INITIAL_QUOTE_PUNCTUATION", type := .byte, accessFlags := 25, slot := 33, constantValue := 0 }, { name := "FINAL_QUOTE_PUNCTUATION", type := .byte, accessFlags := 25, slot := 34, constantValue := 0 }, { name := "ERROR", type := .int, accessFlags := 24, slot := 35, constantValue := 0 }, { name := "DIRECTIONALITY_UNDEFINED", type := .byte, accessFlags := 25, slot := 36, constantValue := 0 }, { name := "DIRECTIONALITY_LEFT_TO_RIGHT", type := .byte, accessFlags := 25, slot := 37, constantValue := 0 }, { name := "DIRECTIONALITY_RIGHT_TO_LEFT", type := .byte, accessFlags := 25, slot := 38, constantValue := 0 }, { name := "DIRECTIONALITY_RIGHT_TO_LEFT_ARABIC", type := .byte, accessFlags := 25, slot := 39, constantValue := 0 }, { name := "DIRECTIONALITY_EUROPEAN_NUMBER", type := .byte, accessFlags := 25, slot := 40, constantValue := 0 }, { name := "DIRECTIONALITY_EUROPEAN_NUMBER_SEPARATOR", type := .byte, accessFlags := 25, slot := 41, constantValue := 0 }, { name := "DIRECTIONALITY_EUROPEAN_NUMBER_TERMINATOR", type := .byte, accessFlags := 25, slot := 42, constantValue := 0 }, { name := "DIRECTIONALITY_ARABIC_NUMBER", type := .byte, accessFlags := 25, slot := 43, constantValue := 0 }, { name := "DIRECTIONALITY_COMMON_NUMBER_SEPARATOR", type := .byte, accessFlags := 25, slot := 44, constantValue := 0 }, { name := "DIRECTIONALITY_NONSPACING_MARK", type := .byte, accessFlags := 25, slot := 45, constantValue := 0 }, { name := "DIRECTIONALITY_BOUNDARY_NEUTRAL", type := .byte, accessFlags := 25, slot := 46, constantValue := 0 }, { name := "DIRECTIONALITY_PARAGRAPH_SEPARATOR", type := .byte, accessFlags := 25, slot := 47, constantValue := 0 }, { name := "DIRECTIONALITY_SEGMENT_SEPARATOR", type := .byte, accessFlags := 25, slot := 48, constantValue := 0 }, { name := "DIRECTIONALITY_WHITESPACE", type := .byte, accessFlags := 25, slot := 49, constantValue := 0 }, { name := "DIRECTIONALITY_OTHER_NEUTRALS", type := .byte, accessFlags := 25, slot := 50, constantValue := 0 }, { name := "DIRECTIONALITY_LEFT_TO_RIGHT_EMBEDDING", type := .byte, accessFlags := 25, slot := 51, constantValue := 0 }, { name := "DIRECTIONALITY_LEFT_TO_RIGHT_OVERRIDE", type := .byte, accessFlags := 25, slot := 52, constantValue := 0 }, { name := "DIRECTIONALITY_RIGHT_TO_LEFT_EMBEDDING", type := .byte, accessFlags := 25, slot := 53, constantValue := 0 }, { name := "DIRECTIONALITY_RIGHT_TO_LEFT_OVERRIDE", type := .byte, accessFlags := 25, slot := 54, constantValue := 0 }, { name := "DIRECTIONALITY_POP_DIRECTIONAL_FORMAT", type := .byte, accessFlags := 25, slot := 55, constantValue := 0 }, { name := "DIRECTIONALITY_LEFT_TO_RIGHT_ISOLATE", type := .byte, accessFlags := 25, slot := 56, constantValue := 0 }, { name := "DIRECTIONALITY_RIGHT_TO_LEFT_ISOLATE", type := .byte, accessFlags := 25, slot := 57, constantValue := 0 }, { name := "DIRECTIONALITY_FIRST_STRONG_ISOLATE", type := .byte, accessFlags := 25, slot := 58, constantValue := 0 }, { name := "DIRECTIONALITY_POP_DIRECTIONAL_ISOLATE", type := .byte, accessFlags := 25, slot := 59, constantValue := 0 }, { name := "MIN_HIGH_SURROGATE", type := .char, accessFlags := 25, slot := 60, constantValue := 0 }, { name := "MAX_HIGH_SURROGATE", type := .char, accessFlags := 25, slot := 61, constantValue := 0 }, { name := "MIN_LOW_SURROGATE", type := .char, accessFlags := 25, slot := 62, constantValue := 0 }, { name := "MAX_LOW_SURROGATE", type := .char, accessFlags := 25, slot := 63, constantValue := 0 }, { name := "MIN_SURROGATE", type := .char, accessFlags := 25, slot := 64, constantValue := 0 }, { name := "MAX_SURROGATE", type := .char, accessFlags := 25, slot := 65, constantValue := 0 }, { name := "MIN_SUPPLEMENTARY_CODE_POINT", type := .int, accessFlags := 25, slot := 66, constantValue := 0 }, { name := "MIN_CODE_POINT", type := .int, accessFlags := 25, slot := 67, constantValue := 0 }, { name := "MAX_CODE_POINT", type := .int, accessFlags := 25, slot := 68, constantValue := 0 }, { name := "value", type := .char, accessFlags := 18, slot := 0, constantValue := 0 }, { name := "serialVersionUID", type := .long, accessFlags := 26, slot := 69, constantValue := 0 }, { name := "SIZE", type := .int, accessFlags := 25, slot := 70, constantValue := 0 }, { name := "BYTES", type := .int, accessFlags := 25, slot := 71, constantValue := 0 }, { name := "$assertionsDisabled", type := .boolean, accessFlags := 4120, slot := 72, constantValue := 0 }]
  methods := #[k12m0, k12m1, k12m2]
  instanceTypes := #[.char]
  staticTypes := #[.int, .int, .char, .char, (.object "java/lang/Class"), .byte, .byte, .byte, .byte, .byte, .byte, .byte, .byte, .byte, .byte, .byte, .byte, .byte, .byte, .byte, .byte, .byte, .byte, .byte, .byte, .byte, .byte, .byte, .byte, .byte, .byte, .byte, .byte, .byte, .byte, .int, .byte, .byte, .byte, .byte, .byte, .byte, .byte, .byte, .byte, .byte, .byte, .byte, .byte, .byte, .byte, .byte, .byte, .byte, .byte, .byte, .byte, .byte, .byte, .byte, .char, .char, .char, .char, .char, .char, .int, .int, .int, .long, .int, .int, .boolean]
  resolved := Array.replicate 604 none
  statics := none }

def pool13 : Array CpInfo := pool [(9, u "<init>"), (6, .class_ 18), (1, u "java/lang/Object"), (0, u "()V"), (1, .class_ 23), (1, u "jdk/internal/util/ArraysSupport"), (0, u "LOG2_ARRAY_LONG_INDEX_SCALE"), (0, u "I"), (2, u "U"), (0, u "Ljdk/internal/misc/Unsafe;"), (8, u "BIG_ENDIAN"), (0, u "Z"), (8, u "LOG2_BYTE_BIT_SIZE"), (4, u "LOG2_ARRAY_INT_INDEX_SCALE"), (54, u "JLA"), (0, u "Ljdk/internal/access/JavaLangAccess;"), (11, u "LOG2_ARRAY_BOOLEAN_INDEX_SCALE"), (9, u "LOG2_ARRAY_BYTE_INDEX_SCALE"), (5, u "LOG2_ARRAY_CHAR_INDEX_SCALE"), (5, u "LOG2_ARRAY_SHORT_INDEX_SCALE"), (18, u "LOG2_ARRAY_FLOAT_INDEX_SCALE"), (24, u "LOG2_ARRAY_DOUBLE_INDEX_SCALE"), (89, u "T_BOOLEAN"), (2, u "T_CHAR"), (1, u "T_FLOAT"), (1, u "T_DOUBLE"), (1, u "T_BYTE"), (1, u "T_SHORT"), (1, u "T_INT"), (1, u "T_LONG"), (1, u "SOFT_MAX_ARRAY_LENGTH")] 83

def k13m0 : Method := { name := "<init>", desc := "()V", sig := { parameters := [], returnType := none }, accessFlags := 2, code := none }
/-- jdk/internal/util/ArraysSupport -/
def k13 : Class := { plain "jdk/internal/util/ArraysSupport" (some 0) with
  accessFlags := 33
  interfaces := #[]
  cf := some (fileOf pool13 21 #[] #[{ accessFlags := 2, nameIndex := 9, descriptorIndex := 19, attributes := #[] }] 33 16 #[] #[{ accessFlags := 24, nameIndex := 28, descriptorIndex := 29, attributes := #[] }, { accessFlags := 26, nameIndex := 38, descriptorIndex := 39, attributes := #[] }, { accessFlags := 25, nameIndex := 121, descriptorIndex := 25, attributes := #[] }, { accessFlags := 25, nameIndex := 131, descriptorIndex := 25, attributes := #[] }, { accessFlags := 25, nameIndex := 137, descriptorIndex := 25, attributes := #[] }, { accessFlags := 25, nameIndex := 143, descriptorIndex := 25, attributes := #[] }, { accessFlags := 25, nameIndex := 53, descriptorIndex := 25, attributes := #[] }, { accessFlags := 25, nameIndex := 24, descriptorIndex := 25, attributes := #[] }, { accessFlags := 25, nameIndex := 162, descriptorIndex := 25, attributes := #[] }, { accessFlags := 25, nameIndex := 187, descriptorIndex := 25, attributes := #[] }, { accessFlags := 26, nameIndex := 48, descriptorIndex := 25, attributes := #[] }, { accessFlags := 25, nameIndex := 277, descriptorIndex := 25, attributes := #[] }, { accessFlags := 25, nameIndex := 280, descriptorIndex := 25, attributes := #[] }, { accessFlags := 25, nameIndex := 282, descriptorIndex := 25, attributes := #[] }, { accessFlags := 25, nameIndex := 284, descriptorIndex := 25, attributes := #[] }, { accessFlags := 25, nameIndex := 286, descriptorIndex := 25, attributes := #[] }, { accessFlags := 25, nameIndex := 288, descriptorIndex := 25, attributes := #[] }, { accessFlags := 25, nameIndex := 290, descriptorIndex := 25, attributes := #[] }, { accessFlags := 25, nameIndex := 292, descriptorIndex := 25, attributes := #[] }, { accessFlags := 26, nameIndex := 108, descriptorIndex := 109, attributes := #[] }, { accessFlags := 25, nameIndex := 294, descriptorIndex := 25, attributes := #[] }])
  fields := #[{ name := "U", type := (.object "jdk/internal/misc/Unsafe"), accessFlags := 24, slot := 0, constantValue := 0 }, { name := "BIG_ENDIAN", type := .boolean, accessFlags := 26, slot := 1, constantValue := 0 }, { name := "LOG2_ARRAY_BOOLEAN_INDEX_SCALE", type := .int, accessFlags := 25, slot := 2, constantValue := 0 }, { name := "LOG2_ARRAY_BYTE_INDEX_SCALE", type := .int, accessFlags := 25, slot := 3, constantValue := 0 }, { name := "LOG2_ARRAY_CHAR_INDEX_SCALE", type := .int, accessFlags := 25, slot := 4, constantValue := 0 }, { name := "LOG2_ARRAY_SHORT_INDEX_SCALE", type := .int, accessFlags := 25, slot := 5, constantValue := 0 }, { name := "LOG2_ARRAY_INT_INDEX_SCALE", type := .int, accessFlags := 25, slot := 6, constantValue := 0 }, { name := "LOG2_ARRAY_LONG_INDEX_SCALE", type := .int, accessFlags := 25, slot := 7, constantValue := 0 }, { name := "LOG2_ARRAY_FLOAT_INDEX_SCALE", type := .int, accessFlags := 25, slot := 8, constantValue := 0 }, { name := "LOG2_ARRAY_DOUBLE_INDEX_SCALE", type := .int, accessFlags := 25, slot := 9, constantValue := 0 }, { name := "LOG2_BYTE_BIT_SIZE", type := .int, accessFlags := 26, slot := 10, constantValue := 0 }, { name := "T_BOOLEAN", type := .int, accessFlags := 25, slot := 11, constantValue := 0 }, { name := "T_CHAR", type := .int, accessFlags := 25, slot := 12, constantValue := 0 }, { name := "T_FLOAT", type := .int, accessFlags := 25, slot := 13, constantValue := 0 }, { name := "T_DOUBLE", type := .int, accessFlags := 25, slot := 14, constantValue := 0 }, { name := "T_BYTE", type := .int, accessFlags := 25, slot := 15, constantValue := 0 }, { name := "T_SHORT", type := .int, accessFlags := 25, slot := 16, constantValue := 0 }, { name := "T_INT", type := .int, accessFlags := 25, slot := 17, constantValue := 0 }, { name := "T_LONG", type := .int, accessFlags := 25, slot := 18, constantValue := 0 }, { name := "JLA", type := (.object "jdk/internal/access/JavaLangAccess"), accessFlags := 26, slot := 19, constantValue := 0 }, { name := "SOFT_MAX_ARRAY_LENGTH", type := .int, accessFlags := 25, slot := 20, constantValue := 0 }]
  methods := #[k13m0]
  instanceTypes := #[]
  staticTypes := #[(.object "jdk/internal/misc/Unsafe"), .boolean, .int, .int, .int, .int, .int, .int, .int, .int, .int, .int, .int, .int, .int, .int, .int, .int, .int, (.object "jdk/internal/access/JavaLangAccess"), .int]
  resolved := Array.replicate 378 none
  statics := none }

def pool14 : Array CpInfo := pool [(1, u "java/lang/Cloneable"), (0, .class_ 1), (0, u "java/lang/Object"), (0, .class_ 3)] 3

/-- java/lang/Cloneable -/
def k14 : Class := { plain "java/lang/Cloneable" (some 0) with
  accessFlags := 1537
  interfaces := #[]
  cf := some (fileOf pool14 2 #[] #[] 1537 4 #[] #[])
  fields := #[]
  methods := #[]
  instanceTypes := #[]
  staticTypes := #[]
  resolved := Array.replicate 8 none
  statics := none }

/-- the primitive byte -/
def k15 : Class := { plain "byte" none with kind := .primitive 'B', accessFlags := 0x411 }
/-- [B -/
def k16 : Class := { plain "[B" (some 0) with kind := .array 15 .byte, interfaces := #[14, 2], accessFlags := 1041 }

/-- the primitive char -/
def k17 : Class := { plain "char" none with kind := .primitive 'C', accessFlags := 0x411 }
/-- [C -/
def k18 : Class := { plain "[C" (some 0) with kind := .array 17 .char, interfaces := #[14, 2], accessFlags := 1041 }

/-- the primitive int -/
def k19 : Class := { plain "int" none with kind := .primitive 'I', accessFlags := 0x411 }
/-- [I -/
def k20 : Class := { plain "[I" (some 0) with kind := .array 19 .int, interfaces := #[14, 2], accessFlags := 1041 }

def heap : Heap := #[{ cls := 7, slots := #[.long 0, .int 1, .null, .int 0, .null, .int 0, .int 0], vm := .statics 7 },
  { cls := 9, slots := #[.int 0, .int 8, .int 0, .int 1], vm := .statics 9 },
  { cls := 11, slots := #[.null, .null, .null], vm := .statics 11 }]
def classes : Array Class := #[k0, k1, k2, k3, k4, k5, k6, k7, k8, k9, k10, k11, k12, k13, k14, k15, k16, k17, k18, k19, k20]
def interned : List (Array UInt16 × Addr) := []
def slotsUsed : Nat := 14
def theMethod : MethodId := ⟨1, 6⟩
def args0 : Array Value := #[.int 5, .int 3, .int 7, .int 2, .int 2]
def aboutOver (below : List Frame) : State where
  vm := { classes := classes, interned := interned.toArray }
  heap := heap
  slotsUsed := slotsUsed
  threads := #[{ frames := .invoking theMethod args0 :: below }]
def below0 : List Frame := [.native { method := ⟨0, 0⟩, args := #[] }]
def about1 : State := aboutOver below0
def p0 : Program := .bare "" "" ""
def e0 : Env := launch0.env 0 0 0
theorem w_frames : about1.frames = Frame.invoking theMethod args0 :: below0 := rfl
set_option maxRecDepth 65536 in
theorem w_args : argsFit about1.vm theMethod args0 = true := by decide +kernel
set_option maxRecDepth 65536 in
theorem w_heap : heapFits about1 = true := by decide +kernel
set_option maxRecDepth 65536 in
theorem w_runnable : about1.curStatus? = some .runnable := by decide +kernel
set_option maxRecDepth 65536 in
theorem w_alone : about1.alone = true := by decide +kernel
set_option maxRecDepth 65536 in
theorem w_named : about1.methodNamed? x = some theMethod := by decide +kernel
set_option maxRecDepth 65536 in
theorem w_hears : about1.hears theMethod below0 = true := by decide +kernel
set_option maxRecDepth 65536 in
theorem w_ripe : about1.ripe theMethod args0 below0 = true := by decide +kernel
theorem w_running : about1.status = .running := rfl
set_option maxRecDepth 65536 in
theorem w_room : about1.hasRoom e0.platform room_1 = true :=
  launch0.hasRoom_least _ room_1 (by decide +kernel) (by decide +kernel) (by decide +kernel) (by decide +kernel) (by decide +kernel) (by decide +kernel)
theorem allAtoms_all (ts : List Jvm.Cond) (a : Array Jvm.Value) (st : Jvm.State) : (allAtoms ts).before a st = ts.all (fun c => c.before a st) := by
  induction ts with
  | nil => rfl
  | cons c t ih =>
    show (Jvm.Cond.and c (allAtoms t)).before a st = _
    rw [Jvm.Cond.before_and, ih, List.all_cons]
def words1 : List Jvm.Cond := Jvm.Cond.code x code maxLocals ret :: tables_1
/-- a 'code' word, met by the world's own term for the bytes: nothing is compared byte by byte -/
theorem code_word {y : MethodName} {bytes : ByteArray} {mx : Nat} {rt : Option FieldType} {a : Array Value} {s : State} {m : MethodId} {meth : Method} {c : Code} (h1 : s.methodNamed? y = some m) (h2 : s.vm.method? m = some meth) (h3 : meth.code = some c) (h4 : c.code = bytes)
    (h5 : (c.maxLocals == mx && c.exceptionTable.isEmpty && decide (c.maxStack ≤ mostOperands) && decide (meth.sig.returnType = rt) && !meth.locks && decide (parseMethodDescriptor y.desc = some meth.sig)) = true) : (Jvm.Cond.code y bytes mx rt).before a s = true := by
  simp only [Bool.and_eq_true, beq_iff_eq, Bool.not_eq_true', decide_eq_true_eq] at h5
  obtain ⟨⟨⟨⟨⟨g1, g2⟩, g3⟩, g4⟩, g5⟩, g6⟩ := h5
  simp [Cond.before, Cond.holds, Cond.value, h1, h2, h3, h4, g1, g2, g3, g4, g5, g6]
def isCode : Jvm.Cond → Bool
  | .code _ _ _ _ => true
  | _ => false
theorem all_split {L : List Jvm.Cond} {P : Jvm.Cond → Bool} (h1 : L.all (fun c => isCode c || P c) = true) (h2 : ∀ c ∈ L.filter isCode, P c = true) : L.all P = true := by
  refine List.all_eq_true.mpr fun c hc => ?_
  have h := List.all_eq_true.mp h1 c hc
  rcases Bool.eq_false_or_eq_true (isCode c) with hi | hi
  · exact h2 c (List.mem_filter.mpr ⟨hc, hi⟩)
  · simpa [hi] using h
set_option maxRecDepth 65536 in
theorem w_c0 : (Jvm.Cond.code x code maxLocals ret).before args0 about1 = true := code_word (m := ⟨1, 6⟩) (meth := k1m6) (c := k1c6) (by decide +kernel) rfl rfl rfl (by decide +kernel)
set_option maxRecDepth 65536 in
theorem w_c1 : (Jvm.Cond.code ({ cls := "com/example/countersign/countersign/scheme/Utf8HasFormPinLaw", name := "draw", desc := "(I)C" } : Jvm.MethodName) method_2_code (3 : Nat) (Option.some Jvm.ClassFile.FieldType.char)).before args0 about1 = true := code_word (m := ⟨1, 1⟩) (meth := k1m1) (c := k1c1) (by decide +kernel) rfl rfl rfl (by decide +kernel)
set_option maxRecDepth 65536 in
theorem w_c2 : (Jvm.Cond.code ({ cls := "com/example/countersign/countersign/scheme/Utf8HasFormPinLaw", name := "okAt", desc := "([CII)Z" } : Jvm.MethodName) method_5_code (4 : Nat) (Option.some Jvm.ClassFile.FieldType.boolean)).before args0 about1 = true := code_word (m := ⟨1, 4⟩) (meth := k1m4) (c := k1c4) (by decide +kernel) rfl rfl rfl (by decide +kernel)
set_option maxRecDepth 65536 in
theorem w_c3 : (Jvm.Cond.code ({ cls := "com/example/countersign/countersign/scheme/Utf8HasFormPinLaw", name := "str", desc := "([CI)Ljava/lang/String;" } : Jvm.MethodName) method_6_code (2 : Nat) (Option.some (Jvm.ClassFile.FieldType.object "java/lang/String"))).before args0 about1 = true := code_word (m := ⟨1, 5⟩) (meth := k1m5) (c := k1c5) (by decide +kernel) rfl rfl rfl (by decide +kernel)
set_option maxRecDepth 65536 in
theorem w_c4 : (Jvm.Cond.code ({ cls := "java/lang/String", name := "<init>", desc := "([C)V" } : Jvm.MethodName) jdk_42_method_3_code (2 : Nat) (Option.none : Option Jvm.ClassFile.FieldType)).before args0 about1 = true := code_word (m := ⟨7, 1⟩) (meth := k7m1) (c := k7c1) (by decide +kernel) rfl rfl rfl (by decide +kernel)
set_option maxRecDepth 65536 in
theorem w_c5 : (Jvm.Cond.code ({ cls := "java/lang/String", name := "<init>", desc := "([CIILjava/lang/Void;)V" } : Jvm.MethodName) jdk_42_method_149_code (6 : Nat) (Option.none : Option Jvm.ClassFile.FieldType)).before args0 about1 = true := code_word (m := ⟨7, 4⟩) (meth := k7m4) (c := k7c4) (by decide +kernel) rfl rfl rfl (by decide +kernel)
set_option maxRecDepth 65536 in
theorem w_c6 : (Jvm.Cond.code ({ cls := "java/lang/Object", name := "<init>", desc := "()V" } : Jvm.MethodName) object_method_1_code (1 : Nat) (Option.none : Option Jvm.ClassFile.FieldType)).before args0 about1 = true := code_word (m := ⟨0, 0⟩) (meth := k0m0) (c := k0c0) (by decide +kernel) rfl rfl rfl (by decide +kernel)
set_option maxRecDepth 65536 in
theorem w_c7 : (Jvm.Cond.code ({ cls := "com/example/countersign/countersign/scheme/Utf8", name := "hasForm", desc := "(Ljava/lang/String;)Z" } : Jvm.MethodName) prog_24_method_2_code (3 : Nat) (Option.some Jvm.ClassFile.FieldType.boolean)).before args0 about1 = true := code_word (m := ⟨8, 1⟩) (meth := k8m1) (c := k8c1) (by decide +kernel) rfl rfl rfl (by decide +kernel)
set_option maxRecDepth 65536 in
theorem w_c8 : (Jvm.Cond.code ({ cls := "java/lang/String", name := "length", desc := "()I" } : Jvm.MethodName) jdk_42_method_54_code (1 : Nat) (Option.some Jvm.ClassFile.FieldType.int)).before args0 about1 = true := code_word (m := ⟨7, 2⟩) (meth := k7m2) (c := k7c2) (by decide +kernel) rfl rfl rfl (by decide +kernel)
set_option maxRecDepth 65536 in
theorem w_c9 : (Jvm.Cond.code ({ cls := "java/lang/String", name := "coder", desc := "()B" } : Jvm.MethodName) jdk_42_method_152_code (1 : Nat) (Option.some Jvm.ClassFile.FieldType.byte)).before args0 about1 = true := code_word (m := ⟨7, 5⟩) (meth := k7m5) (c := k7c5) (by decide +kernel) rfl rfl rfl (by decide +kernel)
set_option maxRecDepth 65536 in
theorem w_c10 : (Jvm.Cond.code ({ cls := "com/example/countersign/countersign/scheme/Utf8HasFormPinLaw", name := "isH", desc := "(C)Z" } : Jvm.MethodName) method_3_code (1 : Nat) (Option.some Jvm.ClassFile.FieldType.boolean)).before args0 about1 = true := code_word (m := ⟨1, 2⟩) (meth := k1m2) (c := k1c2) (by decide +kernel) rfl rfl rfl (by decide +kernel)
set_option maxRecDepth 65536 in
theorem w_c11 : (Jvm.Cond.code ({ cls := "com/example/countersign/countersign/scheme/Utf8HasFormPinLaw", name := "isL", desc := "(C)Z" } : Jvm.MethodName) method_4_code (1 : Nat) (Option.some Jvm.ClassFile.FieldType.boolean)).before args0 about1 = true := code_word (m := ⟨1, 3⟩) (meth := k1m3) (c := k1c3) (by decide +kernel) rfl rfl rfl (by decide +kernel)
set_option maxRecDepth 65536 in
theorem w_c12 : (Jvm.Cond.code ({ cls := "java/lang/StringUTF16", name := "compress", desc := "([CII)[B" } : Jvm.MethodName) jdk_52_method_16_code (6 : Nat) (Option.some (Jvm.ClassFile.FieldType.array Jvm.ClassFile.FieldType.byte))).before args0 about1 = true := code_word (m := ⟨9, 8⟩) (meth := k9m8) (c := k9c8) (by decide +kernel) rfl rfl rfl (by decide +kernel)
set_option maxRecDepth 65536 in
theorem w_c13 : (Jvm.Cond.code ({ cls := "java/lang/StringUTF16", name := "compress", desc := "([CI[BII)I" } : Jvm.MethodName) jdk_52_method_21_code (7 : Nat) (Option.some Jvm.ClassFile.FieldType.int)).before args0 about1 = true := code_word (m := ⟨9, 9⟩) (meth := k9m9) (c := k9c9) (by decide +kernel) rfl rfl rfl (by decide +kernel)
set_option maxRecDepth 65536 in
theorem w_c14 : (Jvm.Cond.code ({ cls := "java/lang/StringUTF16", name := "coderFromArrayLen", desc := "([BI)B" } : Jvm.MethodName) jdk_52_method_15_code (2 : Nat) (Option.some Jvm.ClassFile.FieldType.byte)).before args0 about1 = true := code_word (m := ⟨9, 7⟩) (meth := k9m7) (c := k9c7) (by decide +kernel) rfl rfl rfl (by decide +kernel)
set_option maxRecDepth 65536 in
theorem w_c15 : (Jvm.Cond.code ({ cls := "java/lang/String", name := "charAt", desc := "(I)C" } : Jvm.MethodName) jdk_42_method_56_code (2 : Nat) (Option.some Jvm.ClassFile.FieldType.char)).before args0 about1 = true := code_word (m := ⟨7, 3⟩) (meth := k7m3) (c := k7c3) (by decide +kernel) rfl rfl rfl (by decide +kernel)
set_option maxRecDepth 65536 in
theorem w_c16 : (Jvm.Cond.code ({ cls := "java/lang/String", name := "isLatin1", desc := "()Z" } : Jvm.MethodName) jdk_42_method_154_code (1 : Nat) (Option.some Jvm.ClassFile.FieldType.boolean)).before args0 about1 = true := code_word (m := ⟨7, 6⟩) (meth := k7m6) (c := k7c6) (by decide +kernel) rfl rfl rfl (by decide +kernel)
set_option maxRecDepth 65536 in
theorem w_c17 : (Jvm.Cond.code ({ cls := "java/lang/StringLatin1", name := "charAt", desc := "([BI)C" } : Jvm.MethodName) jdk_43_method_2_code (2 : Nat) (Option.some Jvm.ClassFile.FieldType.char)).before args0 about1 = true := code_word (m := ⟨10, 1⟩) (meth := k10m1) (c := k10c1) (by decide +kernel) rfl rfl rfl (by decide +kernel)
set_option maxRecDepth 65536 in
theorem w_c18 : (Jvm.Cond.code ({ cls := "java/lang/String", name := "checkIndex", desc := "(II)V" } : Jvm.MethodName) jdk_42_method_155_code (2 : Nat) (Option.none : Option Jvm.ClassFile.FieldType)).before args0 about1 = true := code_word (m := ⟨7, 7⟩) (meth := k7m7) (c := k7c7) (by decide +kernel) rfl rfl rfl (by decide +kernel)
set_option maxRecDepth 65536 in
theorem w_c19 : (Jvm.Cond.code ({ cls := "jdk/internal/util/Preconditions", name := "checkIndex", desc := "(IILjava/util/function/BiFunction;)I" } : Jvm.MethodName) jdk_41_method_11_code (3 : Nat) (Option.some Jvm.ClassFile.FieldType.int)).before args0 about1 = true := code_word (m := ⟨11, 1⟩) (meth := k11m1) (c := k11c1) (by decide +kernel) rfl rfl rfl (by decide +kernel)
set_option maxRecDepth 65536 in
theorem w_c20 : (Jvm.Cond.code ({ cls := "java/lang/Character", name := "isHighSurrogate", desc := "(C)Z" } : Jvm.MethodName) jdk_89_method_14_code (1 : Nat) (Option.some Jvm.ClassFile.FieldType.boolean)).before args0 about1 = true := code_word (m := ⟨12, 0⟩) (meth := k12m0) (c := k12c0) (by decide +kernel) rfl rfl rfl (by decide +kernel)
set_option maxRecDepth 65536 in
theorem w_c21 : (Jvm.Cond.code ({ cls := "java/lang/Character", name := "isSurrogate", desc := "(C)Z" } : Jvm.MethodName) jdk_89_method_16_code (1 : Nat) (Option.some Jvm.ClassFile.FieldType.boolean)).before args0 about1 = true := code_word (m := ⟨12, 2⟩) (meth := k12m2) (c := k12c2) (by decide +kernel) rfl rfl rfl (by decide +kernel)
set_option maxRecDepth 65536 in
theorem w_c22 : (Jvm.Cond.code ({ cls := "java/lang/StringUTF16", name := "toBytes", desc := "([CII)[B" } : Jvm.MethodName) jdk_52_method_14_code (5 : Nat) (Option.some (Jvm.ClassFile.FieldType.array Jvm.ClassFile.FieldType.byte))).before args0 about1 = true := code_word (m := ⟨9, 6⟩) (meth := k9m6) (c := k9c6) (by decide +kernel) rfl rfl rfl (by decide +kernel)
set_option maxRecDepth 65536 in
theorem w_c23 : (Jvm.Cond.code ({ cls := "java/lang/StringUTF16", name := "newBytesFor", desc := "(I)[B" } : Jvm.MethodName) jdk_52_method_2_code (1 : Nat) (Option.some (Jvm.ClassFile.FieldType.array Jvm.ClassFile.FieldType.byte))).before args0 about1 = true := code_word (m := ⟨9, 1⟩) (meth := k9m1) (c := k9c1) (by decide +kernel) rfl rfl rfl (by decide +kernel)
set_option maxRecDepth 65536 in
theorem w_c24 : (Jvm.Cond.code ({ cls := "java/lang/StringUTF16", name := "newBytesLength", desc := "(I)I" } : Jvm.MethodName) jdk_52_method_3_code (1 : Nat) (Option.some Jvm.ClassFile.FieldType.int)).before args0 about1 = true := code_word (m := ⟨9, 2⟩) (meth := k9m2) (c := k9c2) (by decide +kernel) rfl rfl rfl (by decide +kernel)
set_option maxRecDepth 65536 in
theorem w_c25 : (Jvm.Cond.code ({ cls := "java/lang/StringUTF16", name := "putChar", desc := "([BII)V" } : Jvm.MethodName) jdk_52_method_4_code (3 : Nat) (Option.none : Option Jvm.ClassFile.FieldType)).before args0 about1 = true := code_word (m := ⟨9, 3⟩) (meth := k9m3) (c := k9c3) (by decide +kernel) rfl rfl rfl (by decide +kernel)
set_option maxRecDepth 65536 in
theorem w_c26 : (Jvm.Cond.code ({ cls := "java/lang/StringUTF16", name := "getChar", desc := "([BI)C" } : Jvm.MethodName) jdk_52_method_5_code (2 : Nat) (Option.some Jvm.ClassFile.FieldType.char)).before args0 about1 = true := code_word (m := ⟨9, 4⟩) (meth := k9m4) (c := k9c4) (by decide +kernel) rfl rfl rfl (by decide +kernel)
set_option maxRecDepth 65536 in
theorem w_c27 : (Jvm.Cond.code ({ cls := "java/lang/StringUTF16", name := "charAt", desc := "([BI)C" } : Jvm.MethodName) jdk_52_method_83_code (2 : Nat) (Option.some Jvm.ClassFile.FieldType.char)).before args0 about1 = true := code_word (m := ⟨9, 10⟩) (meth := k9m10) (c := k9c10) (by decide +kernel) rfl rfl rfl (by decide +kernel)
set_option maxRecDepth 65536 in
theorem w_c28 : (Jvm.Cond.code ({ cls := "java/lang/StringUTF16", name := "checkIndex", desc := "(I[B)V" } : Jvm.MethodName) jdk_52_method_91_code (2 : Nat) (Option.none : Option Jvm.ClassFile.FieldType)).before args0 about1 = true := code_word (m := ⟨9, 11⟩) (meth := k9m11) (c := k9c11) (by decide +kernel) rfl rfl rfl (by decide +kernel)
set_option maxRecDepth 65536 in
theorem w_c29 : (Jvm.Cond.code ({ cls := "java/lang/StringUTF16", name := "length", desc := "([B)I" } : Jvm.MethodName) jdk_52_method_6_code (1 : Nat) (Option.some Jvm.ClassFile.FieldType.int)).before args0 about1 = true := code_word (m := ⟨9, 5⟩) (meth := k9m5) (c := k9c5) (by decide +kernel) rfl rfl rfl (by decide +kernel)
set_option maxRecDepth 65536 in
theorem w_c30 : (Jvm.Cond.code ({ cls := "java/lang/Character", name := "isLowSurrogate", desc := "(C)Z" } : Jvm.MethodName) jdk_89_method_15_code (1 : Nat) (Option.some Jvm.ClassFile.FieldType.boolean)).before args0 about1 = true := code_word (m := ⟨12, 1⟩) (meth := k12m1) (c := k12c1) (by decide +kernel) rfl rfl rfl (by decide +kernel)
def codes1 : List Jvm.Cond := [Jvm.Cond.code x code maxLocals ret, Jvm.Cond.code ({ cls := "com/example/countersign/countersign/scheme/Utf8HasFormPinLaw", name := "draw", desc := "(I)C" } : Jvm.MethodName) method_2_code (3 : Nat) (Option.some Jvm.ClassFile.FieldType.char), Jvm.Cond.code ({ cls := "com/example/countersign/countersign/scheme/Utf8HasFormPinLaw", name := "okAt", desc := "([CII)Z" } : Jvm.MethodName) method_5_code (4 : Nat) (Option.some Jvm.ClassFile.FieldType.boolean), Jvm.Cond.code ({ cls := "com/example/countersign/countersign/scheme/Utf8HasFormPinLaw", name := "str", desc := "([CI)Ljava/lang/String;" } : Jvm.MethodName) method_6_code (2 : Nat) (Option.some (Jvm.ClassFile.FieldType.object "java/lang/String")), Jvm.Cond.code ({ cls := "java/lang/String", name := "<init>", desc := "([C)V" } : Jvm.MethodName) jdk_42_method_3_code (2 : Nat) (Option.none : Option Jvm.ClassFile.FieldType), Jvm.Cond.code ({ cls := "java/lang/String", name := "<init>", desc := "([CIILjava/lang/Void;)V" } : Jvm.MethodName) jdk_42_method_149_code (6 : Nat) (Option.none : Option Jvm.ClassFile.FieldType), Jvm.Cond.code ({ cls := "java/lang/Object", name := "<init>", desc := "()V" } : Jvm.MethodName) object_method_1_code (1 : Nat) (Option.none : Option Jvm.ClassFile.FieldType), Jvm.Cond.code ({ cls := "com/example/countersign/countersign/scheme/Utf8", name := "hasForm", desc := "(Ljava/lang/String;)Z" } : Jvm.MethodName) prog_24_method_2_code (3 : Nat) (Option.some Jvm.ClassFile.FieldType.boolean), Jvm.Cond.code ({ cls := "java/lang/String", name := "length", desc := "()I" } : Jvm.MethodName) jdk_42_method_54_code (1 : Nat) (Option.some Jvm.ClassFile.FieldType.int), Jvm.Cond.code ({ cls := "java/lang/String", name := "coder", desc := "()B" } : Jvm.MethodName) jdk_42_method_152_code (1 : Nat) (Option.some Jvm.ClassFile.FieldType.byte), Jvm.Cond.code ({ cls := "com/example/countersign/countersign/scheme/Utf8HasFormPinLaw", name := "isH", desc := "(C)Z" } : Jvm.MethodName) method_3_code (1 : Nat) (Option.some Jvm.ClassFile.FieldType.boolean), Jvm.Cond.code ({ cls := "com/example/countersign/countersign/scheme/Utf8HasFormPinLaw", name := "isL", desc := "(C)Z" } : Jvm.MethodName) method_4_code (1 : Nat) (Option.some Jvm.ClassFile.FieldType.boolean), Jvm.Cond.code ({ cls := "java/lang/StringUTF16", name := "compress", desc := "([CII)[B" } : Jvm.MethodName) jdk_52_method_16_code (6 : Nat) (Option.some (Jvm.ClassFile.FieldType.array Jvm.ClassFile.FieldType.byte)), Jvm.Cond.code ({ cls := "java/lang/StringUTF16", name := "compress", desc := "([CI[BII)I" } : Jvm.MethodName) jdk_52_method_21_code (7 : Nat) (Option.some Jvm.ClassFile.FieldType.int), Jvm.Cond.code ({ cls := "java/lang/StringUTF16", name := "coderFromArrayLen", desc := "([BI)B" } : Jvm.MethodName) jdk_52_method_15_code (2 : Nat) (Option.some Jvm.ClassFile.FieldType.byte), Jvm.Cond.code ({ cls := "java/lang/String", name := "charAt", desc := "(I)C" } : Jvm.MethodName) jdk_42_method_56_code (2 : Nat) (Option.some Jvm.ClassFile.FieldType.char), Jvm.Cond.code ({ cls := "java/lang/String", name := "isLatin1", desc := "()Z" } : Jvm.MethodName) jdk_42_method_154_code (1 : Nat) (Option.some Jvm.ClassFile.FieldType.boolean), Jvm.Cond.code ({ cls := "java/lang/StringLatin1", name := "charAt", desc := "([BI)C" } : Jvm.MethodName) jdk_43_method_2_code (2 : Nat) (Option.some Jvm.ClassFile.FieldType.char), Jvm.Cond.code ({ cls := "java/lang/String", name := "checkIndex", desc := "(II)V" } : Jvm.MethodName) jdk_42_method_155_code (2 : Nat) (Option.none : Option Jvm.ClassFile.FieldType), Jvm.Cond.code ({ cls := "jdk/internal/util/Preconditions", name := "checkIndex", desc := "(IILjava/util/function/BiFunction;)I" } : Jvm.MethodName) jdk_41_method_11_code (3 : Nat) (Option.some Jvm.ClassFile.FieldType.int), Jvm.Cond.code ({ cls := "java/lang/Character", name := "isHighSurrogate", desc := "(C)Z" } : Jvm.MethodName) jdk_89_method_14_code (1 : Nat) (Option.some Jvm.ClassFile.FieldType.boolean), Jvm.Cond.code ({ cls := "java/lang/Character", name := "isSurrogate", desc := "(C)Z" } : Jvm.MethodName) jdk_89_method_16_code (1 : Nat) (Option.some Jvm.ClassFile.FieldType.boolean), Jvm.Cond.code ({ cls := "java/lang/StringUTF16", name := "toBytes", desc := "([CII)[B" } : Jvm.MethodName) jdk_52_method_14_code (5 : Nat) (Option.some (Jvm.ClassFile.FieldType.array Jvm.ClassFile.FieldType.byte)), Jvm.Cond.code ({ cls := "java/lang/StringUTF16", name := "newBytesFor", desc := "(I)[B" } : Jvm.MethodName) jdk_52_method_2_code (1 : Nat) (Option.some (Jvm.ClassFile.FieldType.array Jvm.ClassFile.FieldType.byte)), Jvm.Cond.code ({ cls := "java/lang/StringUTF16", name := "newBytesLength", desc := "(I)I" } : Jvm.MethodName) jdk_52_method_3_code (1 : Nat) (Option.some Jvm.ClassFile.FieldType.int), Jvm.Cond.code ({ cls := "java/lang/StringUTF16", name := "putChar", desc := "([BII)V" } : Jvm.MethodName) jdk_52_method_4_code (3 : Nat) (Option.none : Option Jvm.ClassFile.FieldType), Jvm.Cond.code ({ cls := "java/lang/StringUTF16", name := "getChar", desc := "([BI)C" } : Jvm.MethodName) jdk_52_method_5_code (2 : Nat) (Option.some Jvm.ClassFile.FieldType.char), Jvm.Cond.code ({ cls := "java/lang/StringUTF16", name := "charAt", desc := "([BI)C" } : Jvm.MethodName) jdk_52_method_83_code (2 : Nat) (Option.some Jvm.ClassFile.FieldType.char), Jvm.Cond.code ({ cls := "java/lang/StringUTF16", name := "checkIndex", desc := "(I[B)V" } : Jvm.MethodName) jdk_52_method_91_code (2 : Nat) (Option.none : Option Jvm.ClassFile.FieldType), Jvm.Cond.code ({ cls := "java/lang/StringUTF16", name := "length", desc := "([B)I" } : Jvm.MethodName) jdk_52_method_6_code (1 : Nat) (Option.some Jvm.ClassFile.FieldType.int), Jvm.Cond.code ({ cls := "java/lang/Character", name := "isLowSurrogate", desc := "(C)Z" } : Jvm.MethodName) jdk_89_method_15_code (1 : Nat) (Option.some Jvm.ClassFile.FieldType.boolean)]
set_option maxRecDepth 65536 in
theorem codes_eq : words1.filter isCode = codes1 := rfl
theorem w_codes : ∀ c ∈ words1.filter isCode, c.before args0 about1 = true := by
  rw [codes_eq]
  intro c hc
  simp only [codes1, List.mem_cons, List.not_mem_nil, or_false] at hc
  rcases hc with rfl | rfl | rfl | rfl | rfl | rfl | rfl | rfl | rfl | rfl | rfl | rfl | rfl | rfl | rfl | rfl | rfl | rfl | rfl | rfl | rfl | rfl | rfl | rfl | rfl | rfl | rfl | rfl | rfl | rfl | rfl
  · exact w_c0
  · exact w_c1
  · exact w_c2
  · exact w_c3
  · exact w_c4
  · exact w_c5
  · exact w_c6
  · exact w_c7
  · exact w_c8
  · exact w_c9
  · exact w_c10
  · exact w_c11
  · exact w_c12
  · exact w_c13
  · exact w_c14
  · exact w_c15
  · exact w_c16
  · exact w_c17
  · exact w_c18
  · exact w_c19
  · exact w_c20
  · exact w_c21
  · exact w_c22
  · exact w_c23
  · exact w_c24
  · exact w_c25
  · exact w_c26
  · exact w_c27
  · exact w_c28
  · exact w_c29
  · exact w_c30
set_option maxRecDepth 65536 in
theorem w_t1 : (words1.take 24).all (fun c => isCode c || c.before args0 about1) = true := by decide +kernel
set_option maxRecDepth 65536 in
theorem w_t2 : ((words1.drop 24).take 24).all (fun c => isCode c || c.before args0 about1) = true := by decide +kernel
set_option maxRecDepth 65536 in
theorem w_t3 : (((words1.drop 24).drop 24).take 24).all (fun c => isCode c || c.before args0 about1) = true := by decide +kernel
set_option maxRecDepth 65536 in
theorem w_t4 : ((((words1.drop 24).drop 24).drop 24).take 24).all (fun c => isCode c || c.before args0 about1) = true := by decide +kernel
set_option maxRecDepth 65536 in
theorem w_t5 : (((((words1.drop 24).drop 24).drop 24).drop 24).take 24).all (fun c => isCode c || c.before args0 about1) = true := by decide +kernel
set_option maxRecDepth 65536 in
theorem w_t6 : (((((words1.drop 24).drop 24).drop 24).drop 24).drop 24).all (fun c => isCode c || c.before args0 about1) = true := by decide +kernel
theorem w_tables : (allAtoms (Jvm.Cond.code x code maxLocals ret :: tables_1)).before args0 about1 = true := by
  rw [allAtoms_all]
  show words1.all (fun c => c.before args0 about1) = true
  refine all_split ?_ w_codes
  rw [← List.take_append_drop 24 words1, List.all_append, w_t1, ← List.take_append_drop 24 (words1.drop 24), List.all_append, w_t2, ← List.take_append_drop 24 ((words1.drop 24).drop 24), List.all_append, w_t3, ← List.take_append_drop 24 (((words1.drop 24).drop 24).drop 24), List.all_append, w_t4, ← List.take_append_drop 24 ((((words1.drop 24).drop 24).drop 24).drop 24), List.all_append, w_t5, w_t6]
  rfl
set_option maxRecDepth 65536 in
theorem w_rest : rest_1_c.before args0 about1 = true := by decide +kernel
set_option maxRecDepth 65536 in
theorem w_case : (Jvm.Cond.and given_1 narrow_1).before args0 about1 = true := by decide +kernel
set_option maxRecDepth 65536 in
theorem w_consts : constsHeld consts_1 about1 := Jvm.Lit.constsHeldB_iff.mp (by decide +kernel)
theorem w_applies : (headSpec (Jvm.Cond.code x code maxLocals ret :: tables_1) room_1).applies x e0.platform about1 = true :=
  (Spec.applies_iff w_frames).mpr ⟨w_running, w_runnable, w_alone, w_named, w_hears, w_ripe, w_room, w_tables⟩
theorem atStart : AtStart classFile x code maxLocals ret World_1 tables_1 room_1 Calls_1 rest_1 Pre_1 launch0 p0 e0 about1 theMethod args0 below0 :=
  ⟨lists_1, trivial, launch0.admits_env _ _ _, launch0.least_env, fairChoices_fair.cas, fairChoices_fair.clock, w_frames, w_args, w_heap, w_applies, ⟨w_consts, trivial⟩, w_rest, w_case⟩
end start1
theorem witness_1 : WitnessClaimed_1 := ⟨start1.p0, start1.e0, start1.about1, start1.theMethod, start1.args0, start1.below0, start1.atStart⟩
end Jvm.Pilot.@@N@@
