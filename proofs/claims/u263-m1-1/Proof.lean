import JvmDerived
import JvmDerived.Pilot.@@N@@Statement
import JvmDerived.Pilot.@@N@@Code
set_option linter.unusedVariables false
set_option linter.unusedSimpArgs false
namespace Jvm.Pilot.@@N@@
open Jvm Jvm.ClassFile Sem Op Lib Jvm.Free Jvm.Stand Jvm.LawKit Jvm.RoadKit Bundle Jvm.Pilot.@@N@@.Jvm.D
/-- from the point (T, g) the body comes to its end, with what P says of value, heap and places -/
def own_E (p : Program) (e : Env) (below : List Frame) (s : State) (k n : Nat) (P : Option Value → Heap → List Loc → Prop) (T : State) (g : JFrame) : Prop :=
  ∃ s₂ o, Steps p.tables e below (T.setTop g) s₂ ∧ s₂.status = .running ∧ Ended s₂ below o ∧ ∃ v L, o = .returned v ∧ P v s₂.heap L ∧ FrameEnd s o s₂ L k n
/-- what a law leaves: true, and nothing old written -/
def own_L (n0 : Nat) (v : Option Value) (h : Heap) (L : List Loc) : Prop := v = some (.int (1 : Int32)) ∧ Fr n0 L
section Own
variable {p : Program} {l : Launch} {e : Env} {R : Room} {s : State} {m : MethodId} {args : Array Value} {below : List Frame} {meth : Method} {c : Code} {T T' : State} {locs : List Loc} {cells slots : Nat} {k n : Nat} {P : Option Value → Heap → List Loc → Prop} {g g' : JFrame}
theorem own_st (h : ∀ t, Steps p.tables e below (T'.setTop g') t → Steps p.tables e below (T.setTop g) t) (E : own_E p e below s k n P T' g') : own_E p e below s k n P T g := by
  obtain ⟨s₂, o, h1, r⟩ := E; exact ⟨s₂, o, h _ h1, r⟩
theorem own_end (X : Stand p l e R s m args below meth c T locs cells slots) {v : Option Value} (hv : meth.sig.returnType = none → v = none) (hlk : meth.locks = false) (hk : cells ≤ k) (hn : slots ≤ n) (hP : P v T.heap locs)
    (h : ∀ fs : List Frame, (∀ (f : JFrame) (acts : List Action), f.method = m → f.locked = none → f.entered = [] → (doReturn e (T.setTop f) acts v).1 = T.setFrames fs) → Steps p.tables e below (T.setTop g) (T.setFrames fs)) : own_E p e below s k n P T g := by
  obtain ⟨fs, hr, hrun, hended, hW, hsame⟩ := X.leave (v := v) hv hlk
  exact ⟨_, _, h fs hr, hrun, hended, _, _, rfl, hP, ⟨_, rfl⟩, hW, hsame.mono hk hn⟩
theorem own_retV (X : Stand p l e R s m args below meth c T locs cells slots) (hx : p.tables.exec = Jvm.exec) (hret : meth.sig.returnType = none) (hlk : meth.locks = false) {pc : Nat} {Ls : Array Slot} (hd : decode c.code pc = .ok (.return_, 1)) (hk : cells ≤ k) (hn : slots ≤ n) (hP : P none T.heap locs) : own_E p e below s k n P T (mkF m pc Ls []) :=
  own_end X (fun _ => rfl) hlk hk hn hP fun _ hr => X.returnOut hx hret hd hr
theorem own_retN (X : Stand p l e R s m args below meth c T locs cells slots) (hx : p.tables.exec = Jvm.exec) {t : FieldType} (hret : meth.sig.returnType = some t) (ht : t = .boolean ∨ t = .byte ∨ t = .char ∨ t = .short) (hlk : meth.locks = false) {pc : Nat} {Ls : Array Slot} {z : Int32} {rest : List Value} (hd : decode c.code pc = .ok (.ireturn, 1)) (hk : cells ≤ k) (hn : slots ≤ n) (hP : P (some (.int (nar t z))) T.heap locs) : own_E p e below s k n P T (mkF m pc Ls (.int z :: rest)) :=
  own_end X (fun h => by rw [hret] at h; cases h) hlk hk hn hP fun _ hr => retN X hx hret ht hd hr
theorem own_retI (X : Stand p l e R s m args below meth c T locs cells slots) (hx : p.tables.exec = Jvm.exec) (hret : meth.sig.returnType = some .int) (hlk : meth.locks = false) {pc : Nat} {Ls : Array Slot} {z : Int32} {rest : List Value} (hd : decode c.code pc = .ok (.ireturn, 1)) (hk : cells ≤ k) (hn : slots ≤ n) (hP : P (some (.int z)) T.heap locs) : own_E p e below s k n P T (mkF m pc Ls (.int z :: rest)) :=
  own_end X (fun h => by rw [hret] at h; cases h) hlk hk hn hP fun _ hr => retOut X hx hret rfl (Or.inl ⟨rfl, Or.inl rfl, z, rfl⟩) hd hr
theorem own_retL (X : Stand p l e R s m args below meth c T locs cells slots) (hx : p.tables.exec = Jvm.exec) (hret : meth.sig.returnType = some .long) (hlk : meth.locks = false) {pc : Nat} {Ls : Array Slot} {z : Int64} {rest : List Value} (hd : decode c.code pc = .ok (.lreturn, 1)) (hk : cells ≤ k) (hn : slots ≤ n) (hP : P (some (.long z)) T.heap locs) : own_E p e below s k n P T (mkF m pc Ls (.long z :: rest)) :=
  own_end X (fun h => by rw [hret] at h; cases h) hlk hk hn hP fun _ hr => retOut X hx hret rfl (Or.inr (Or.inl ⟨rfl, rfl, z, rfl⟩)) hd hr
theorem own_narR {t : FieldType} {v : Value} (ht : t.isReference = true) : narrow t v = v := by cases t <;> first | (cases ht; done) | (cases v <;> rfl)
theorem own_fitR {t : FieldType} {v : Value} (h : v.isRef = true) (ht : t.isReference = true) : fits t v = true := by cases t <;> first | (cases ht; done) | (cases v <;> first | (cases h; done) | rfl)
theorem own_retA (X : Stand p l e R s m args below meth c T locs cells slots) (hx : p.tables.exec = Jvm.exec) {t : FieldType} (hret : meth.sig.returnType = some t) (ht : t.isReference = true) {w : Value} (hw : w.isRef = true) (hlk : meth.locks = false) {pc : Nat} {Ls : Array Slot} {rest : List Value} (hd : decode c.code pc = .ok (.areturn, 1)) (hk : cells ≤ k) (hn : slots ≤ n) (hP : P (some w) T.heap locs) : own_E p e below s k n P T (mkF m pc Ls (w :: rest)) :=
  own_end X (fun h => by rw [hret] at h; cases h) hlk hk hn hP fun _ hr => retOut X hx hret (own_narR ht) (Or.inr (Or.inr (Or.inr (Or.inr ⟨rfl, ht, hw⟩)))) hd hr
end Own
/-! the calls, their figures said plainly -/
section OwnCalls
variable {p : Program} {l : Launch} {e : Env} {R : Room} {s : State} {m : MethodId} {args : Array Value} {below : List Frame} {meth : Method} {c : Code} {T : State} {locs : List Loc} {cells slots : Nat} {W : Nat} {rm : Room} {as' : Array Value} {Q : Option Value → Heap → List Loc → Prop} {h : Heap} {c' s' : Nat}
theorem own_callS (X : Stand p l e R s m args below meth c T locs cells slots) (hx : p.tables.exec = Jvm.exec) {own : String} {index : Nat} {y : MethodName} {bytes : ByteArray} {maxL : Nat} {ret : Option FieldType} (hown : s.vm.findClass own = some m.cls) (hlink : (Cond.methodLink own index y).before args s = true) (hstat : (Cond.static y).before args s = true) (hinit : (Cond.initialized y.cls).before args s = true) (hcode : (Cond.code y bytes maxL ret).before args s = true) (hy : y.cls ≠ "java/lang/invoke/MethodHandle" ∧ y.cls ≠ "java/lang/invoke/VarHandle") (hK : Back l R p e below s args y 3 W (fun A a => a = as' ∧ A.U.heap = h ∧ A.cells + rm.cells ≤ R.cells ∧ A.slots + rm.slots ≤ R.slots) (fun A _ v B => ∃ L, Q v B.U.heap L ∧ B.locs = A.locs ++ L ∧ B.cells = A.cells + rm.cells ∧ B.slots = A.slots + rm.slots)) {g : JFrame} (hg : g.method = m) (hsize : g.locals.size = c.maxLocals) {argsL rest : List Value} (hlen : ∀ sig, parseMethodDescriptor y.desc = some sig → argsL.length = sig.parameters.length) (hstack : g.stack = argsL.reverse ++ rest) (hW : 2 * g.monitorRoom + (rest.map fun v => v.category).sum ≤ W) (hdg : decode c.code g.pc = .ok (.invokestatic index, 3)) (ha : argsL.toArray = as') (eT : T.heap = h) (hc : cells + rm.cells ≤ R.cells) (hs : slots + rm.slots ≤ R.slots) (h1 : cells + rm.cells = c') (h2 : slots + rm.slots = s') :
    ∃ (v : Option Value) (T' : State) (L : List Loc), Stand p l e R s m args below meth c T' (locs ++ L) c' s' ∧ Q v T'.heap L ∧ ∀ t, Steps p.tables e below (T'.setTop { g with pc := g.pc + 3, stack := v.toList ++ rest }) t → Steps p.tables e below (T.setTop g) t := by
  subst h1 h2
  obtain ⟨v, vm₁, ⟨T', L', k', n'⟩, -, X', ⟨L, hQ, h3, h4, h5⟩, st⟩ := Jvm.LawKit.callS X hx hown hlink hstat hinit hcode hy hK hg hsize hlen hstack hW hdg (fun _ _ => ⟨ha, eT, hc, hs⟩)
  dsimp only [Pt.U, Pt.locs, Pt.cells, Pt.slots] at X' h3 h4 h5 st hQ
  subst h3 h4 h5
  exact ⟨v, T', L, X', hQ, st⟩
theorem own_callI (X : Stand p l e R s m args below meth c T locs cells slots) (hx : p.tables.exec = Jvm.exec) {own : String} {index : Nat} {y : MethodName} {bytes : ByteArray} {maxL : Nat} (hy1 : y.name = "<init>") (hown : s.vm.findClass own = some m.cls) (hlink : (Cond.methodLink own index y).before args s = true) (hinst : (Cond.instanceMethod y).before args s = true) (hcode : (Cond.code y bytes maxL none).before args s = true) (hy : y.cls ≠ "java/lang/invoke/MethodHandle" ∧ y.cls ≠ "java/lang/invoke/VarHandle") (hK : Back l R p e below s args y 3 W (fun A a => a = as' ∧ A.U.heap = h ∧ A.cells + rm.cells ≤ R.cells ∧ A.slots + rm.slots ≤ R.slots) (fun A _ v B => ∃ L, Q v B.U.heap L ∧ B.locs = A.locs ++ L ∧ B.cells = A.cells + rm.cells ∧ B.slots = A.slots + rm.slots)) {g : JFrame} (hg : g.method = m) (hsize : g.locals.size = c.maxLocals) {a : Addr} {argsL rest : List Value} (hlen : ∀ sig, parseMethodDescriptor y.desc = some sig → argsL.length = sig.parameters.length) (hstack : g.stack = argsL.reverse ++ .ref a :: rest) (hW : 2 * g.monitorRoom + (rest.map fun v => v.category).sum ≤ W) (hdg : decode c.code g.pc = .ok (.invokespecial index, 3)) (ha : (.ref a :: argsL).toArray = as') (eT : T.heap = h) (hc : cells + rm.cells ≤ R.cells) (hs : slots + rm.slots ≤ R.slots) (h1 : cells + rm.cells = c') (h2 : slots + rm.slots = s') :
    ∃ (v : Option Value) (T' : State) (L : List Loc), Stand p l e R s m args below meth c T' (locs ++ L) c' s' ∧ Q v T'.heap L ∧ ∀ t, Steps p.tables e below (T'.setTop { g with pc := g.pc + 3, stack := v.toList ++ rest }) t → Steps p.tables e below (T.setTop g) t := by
  subst h1 h2
  obtain ⟨v, vm₁, ⟨T', L', k', n'⟩, -, X', ⟨L, hQ, h3, h4, h5⟩, st⟩ := X.specialBack hx hy1 hown hlink hinst hcode hy hK hg hsize (Steps.refl _) hlen hstack hW hdg (fun _ _ => ⟨ha, eT, hc, hs⟩)
  dsimp only [Pt.U, Pt.locs, Pt.cells, Pt.slots] at X' h3 h4 h5 st hQ
  subst h3 h4 h5
  exact ⟨v, T', L, X', hQ, fun t k => st.trans k⟩
theorem own_callP (X : Stand p l e R s m args below meth c T locs cells slots) (hx : p.tables.exec = Jvm.exec) {own : String} {index : Nat} {y : MethodName} {bytes : ByteArray} {maxL : Nat} {ret : Option FieldType} (hown : s.vm.findClass own = some m.cls) (hlink : (Cond.methodLink own index y).before args s = true) (hinst : (Cond.instanceMethod y).before args s = true) (hsel : (Cond.selects y.cls y y).before args s = true) (hpriv : s.PrivateAt y) (hcode : (Cond.code y bytes maxL ret).before args s = true) (hy : y.cls ≠ "java/lang/invoke/MethodHandle" ∧ y.cls ≠ "java/lang/invoke/VarHandle") (hK : Back l R p e below s args y 3 W (fun A a => a = as' ∧ A.U.heap = h ∧ A.cells + rm.cells ≤ R.cells ∧ A.slots + rm.slots ≤ R.slots) (fun A _ v B => ∃ L, Q v B.U.heap L ∧ B.locs = A.locs ++ L ∧ B.cells = A.cells + rm.cells ∧ B.slots = A.slots + rm.slots)) {g : JFrame} (hg : g.method = m) (hsize : g.locals.size = c.maxLocals) {a : Addr} {cell : Cell} (hcell : T.heap[a]? = some cell) (hobj : ∀ q, cell.vm ≠ .statics q) {argsL rest : List Value} (hlen : ∀ sig, parseMethodDescriptor y.desc = some sig → argsL.length = sig.parameters.length) (hstack : g.stack = argsL.reverse ++ .ref a :: rest) (hW : 2 * g.monitorRoom + (rest.map fun v => v.category).sum ≤ W) (hdg : decode c.code g.pc = .ok (.invokevirtual index, 3)) (ha : (.ref a :: argsL).toArray = as') (eT : T.heap = h) (hc : cells + rm.cells ≤ R.cells) (hs : slots + rm.slots ≤ R.slots) (h1 : cells + rm.cells = c') (h2 : slots + rm.slots = s') :
    ∃ (v : Option Value) (T' : State) (L : List Loc), Stand p l e R s m args below meth c T' (locs ++ L) c' s' ∧ Q v T'.heap L ∧ ∀ t, Steps p.tables e below (T'.setTop { g with pc := g.pc + 3, stack := v.toList ++ rest }) t → Steps p.tables e below (T.setTop g) t := by
  subst h1 h2
  obtain ⟨v, vm₁, ⟨T', L', k', n'⟩, -, X', ⟨L, hQ, h3, h4, h5⟩, st⟩ := X.privateBack hx hown hlink hinst hsel hpriv hcode hy hK hg hsize (Steps.refl _) hcell hobj hlen hstack hW hdg (fun _ _ => ⟨ha, eT, hc, hs⟩)
  dsimp only [Pt.U, Pt.locs, Pt.cells, Pt.slots] at X' h3 h4 h5 st hQ
  subst h3 h4 h5
  exact ⟨v, T', L, X', hQ, fun t k => st.trans k⟩
theorem own_callV (X : Stand p l e R s m args below meth c T locs cells slots) (hx : p.tables.exec = Jvm.exec) {own : String} {index : Nat} {C : String} {y z : MethodName} (hown : s.vm.findClass own = some m.cls) (hlink : (Cond.methodLink own index y).before args s = true) (hdecl : (Cond.declares y).before args s = true) (hnf : NotFace s y) (hsel : (Cond.selects C y z).before args s = true) (hinst : (Cond.instanceMethod z).before args s = true) (hy : y.cls ≠ "java/lang/invoke/MethodHandle" ∧ y.cls ≠ "java/lang/invoke/VarHandle") (hK : Back l R p e below s args z 3 W (fun A a => a = as' ∧ A.U.heap = h ∧ A.cells + rm.cells ≤ R.cells ∧ A.slots + rm.slots ≤ R.slots) (fun A _ v B => ∃ L, Q v B.U.heap L ∧ B.locs = A.locs ++ L ∧ B.cells = A.cells + rm.cells ∧ B.slots = A.slots + rm.slots)) {b : Addr} {cB : ClassId} (hcB : s.vm.findClass C = some cB) (hrecv : IsOf cB T b) {g : JFrame} (hg : g.method = m) (hsize : g.locals.size = c.maxLocals) {argsL rest : List Value} (hlen : ∀ sig, parseMethodDescriptor y.desc = some sig → argsL.length = sig.parameters.length) (hstack : g.stack = argsL.reverse ++ .ref b :: rest) (hW : 2 * g.monitorRoom + (rest.map fun v => v.category).sum ≤ W) (hdg : decode c.code g.pc = .ok (.invokevirtual index, 3)) (ha : (.ref b :: argsL).toArray = as') (eT : T.heap = h) (hc : cells + rm.cells ≤ R.cells) (hs : slots + rm.slots ≤ R.slots) (h1 : cells + rm.cells = c') (h2 : slots + rm.slots = s') :
    ∃ (v : Option Value) (T' : State) (L : List Loc), Stand p l e R s m args below meth c T' (locs ++ L) c' s' ∧ Q v T'.heap L ∧ ∀ t, Steps p.tables e below (T'.setTop { g with pc := g.pc + 3, stack := v.toList ++ rest }) t → Steps p.tables e below (T.setTop g) t := by
  subst h1 h2
  obtain ⟨v, vm₁, ⟨T', L', k', n'⟩, -, X', ⟨L, hQ, h3, h4, h5⟩, st⟩ := X.virtualBack hx hown hlink hdecl hnf hsel hinst hy hK hcB hrecv hg hsize (Steps.refl _) hlen hstack hW hdg (fun _ _ => ⟨ha, eT, hc, hs⟩)
  dsimp only [Pt.U, Pt.locs, Pt.cells, Pt.slots] at X' h3 h4 h5 st hQ
  subst h3 h4 h5
  exact ⟨v, T', L, X', hQ, fun t k => st.trans k⟩
theorem own_callF (X : Stand p l e R s m args below meth c T locs cells slots) (hx : p.tables.exec = Jvm.exec) {own : String} {index count : Nat} {C : String} {xi y : MethodName} (hown : s.vm.findClass own = some m.cls) (hlink : (Cond.methodLink own index xi).before args s = true) (hdecl : (Cond.declares xi).before args s = true) (hface : (Cond.interfaceMethod xi.cls xi.cls xi.name xi.desc).before args s = true) (hsel : (Cond.selects C xi y).before args s = true) (hinst : (Cond.instanceMethod y).before args s = true) (hpub : (Cond.publicMethod y).before args s = true) (hunh : (Cond.unhidden C xi.name xi.desc).before args s = true) (hcast : (Cond.castable C xi.cls).before args s = true) (hy : xi.cls ≠ "java/lang/invoke/MethodHandle" ∧ xi.cls ≠ "java/lang/invoke/VarHandle") (hK : Back l R p e below s args y 5 W (fun A a => a = as' ∧ A.U.heap = h ∧ A.cells + rm.cells ≤ R.cells ∧ A.slots + rm.slots ≤ R.slots) (fun A _ v B => ∃ L, Q v B.U.heap L ∧ B.locs = A.locs ++ L ∧ B.cells = A.cells + rm.cells ∧ B.slots = A.slots + rm.slots)) {b : Addr} {cB : ClassId} {kB : Class} (hcB : s.vm.findClass C = some cB) (hkB : s.vm.classes[cB]? = some kB) (hrecv : IsOf cB T b) {g : JFrame} (hg : g.method = m) (hsize : g.locals.size = c.maxLocals) {argsL rest : List Value} (hlen : ∀ sig, parseMethodDescriptor xi.desc = some sig → argsL.length = sig.parameters.length) (hstack : g.stack = argsL.reverse ++ .ref b :: rest) (hW : 2 * g.monitorRoom + (rest.map fun v => v.category).sum ≤ W) (hdg : decode c.code g.pc = .ok (.invokeinterface index count, 5)) (ha : (.ref b :: argsL).toArray = as') (eT : T.heap = h) (hc : cells + rm.cells ≤ R.cells) (hs : slots + rm.slots ≤ R.slots) (h1 : cells + rm.cells = c') (h2 : slots + rm.slots = s') :
    ∃ (v : Option Value) (T' : State) (L : List Loc), Stand p l e R s m args below meth c T' (locs ++ L) c' s' ∧ Q v T'.heap L ∧ ∀ t, Steps p.tables e below (T'.setTop { g with pc := g.pc + 5, stack := v.toList ++ rest }) t → Steps p.tables e below (T.setTop g) t := by
  subst h1 h2
  obtain ⟨v, vm₁, ⟨T', L', k', n'⟩, -, X', ⟨L, hQ, h3, h4, h5⟩, st⟩ := X.interfaceBack hx hown hlink hdecl hface hsel hinst hpub hunh hcast hy hK hcB hkB hrecv hg hsize (Steps.refl _) hlen hstack hW hdg (fun _ _ => ⟨ha, eT, hc, hs⟩)
  dsimp only [Pt.U, Pt.locs, Pt.cells, Pt.slots] at X' h3 h4 h5 st hQ
  subst h3 h4 h5
  exact ⟨v, T', L, X', hQ, fun t k => st.trans k⟩
end OwnCalls
theorem own_z {Z : State} {n0 : Nat} {h : Heap} (O : Old Z n0 h) : n0 ≤ h.size := O.1 ▸ O.2.1
theorem own_oldlt {Z : State} {n0 : Nat} {h : Heap} {a : Addr} (O : Old Z n0 h) (q : a < Z.heap.size) : a < h.size := Nat.lt_of_lt_of_le q O.2.1
theorem own_ext {h h' : Heap} (K : Keep h h' []) : Ext h h' := ⟨K.1, fun x c q => K.2.1 x c q nin0⟩
theorem own_fld0 {args : Array Value} {Z : State} {t : Term} {a : Addr} {C n d : String} {k : Int32} (ev : t.eval args Z none [] Z = some (.ref a)) (h : (Jvm.Cond.eq (Term.field t C n d) (Term.int k)).value args Z none Z [] = some true) : Fld Z Z.heap a C n d (.int k) := by
  cases hv : Z.fieldOf? a C n d with
  | none => simp [Cond.value, Term.eval, ev, hv] at h
  | some x => cases x <;> simp [Cond.value, Term.eval, ev, hv] at h; subst h; exact Fld.start hv
theorem own_nz {args : Array Value} {Z : State} {t : Term} {cz : Int32} (ev : t.eval args Z none [] Z = some (.int cz)) (h : (Jvm.Cond.not (Jvm.Cond.eq t (Term.int (0 : Int32)))).value args Z none Z [] = some true) : ¬ cz = (0 : Int32) := by
  simpa [Cond.value, ev, Term.eval] using h
theorem own_neF {Z : State} {h : Heap} {a b : Addr} {C n d : String} {x y : Value} (F : Fld Z h a C n d x) (G : Fld Z h b C n d y) (q : x ≠ y) : a ≠ b := fun e => by
  subst e
  obtain ⟨c1, cf1, k1, i1, f1, h1, h2, -, -, -, -, h7⟩ := F
  obtain ⟨c2, cf2, k2, i2, f2, g1, g2, -, -, -, -, g7⟩ := G
  cases h1.symm.trans g1
  cases h2.symm.trans g2
  exact q (Option.some.inj (h7.symm.trans g7))
theorem own_rem (x y : Int32) (d : Int) (hd : 0 < d) (hy : y.toInt = d) : 0 ≤ ((x &&& 2147483647) % y).toInt ∧ ((x &&& 2147483647) % y).toInt < d := by
  have h1 := (c_andS x 2147483647).2.2 (by decide)
  have h2 := (c_irem (x &&& 2147483647) y d hy).1 h1
  rw [h2]; exact ⟨Int.emod_nonneg _ (by omega), Int.emod_lt_of_pos _ hd⟩
theorem own_nc (x : Int32) : nar .char ((x &&& 255).toUInt32.toUInt16.toUInt32.toInt32) = x &&& 255 := by
  show ((x &&& 255).toUInt32.toUInt16.toUInt32.toInt32).toUInt32.toUInt16.toUInt32.toInt32 = _
  rw [i2c_mask, i2c_mask]
theorem own_ncm (x : Int32) : nar .char (x &&& 255) = x &&& 255 := i2c_mask x
theorem own_bb (b : Int32) : nar .byte (b.toInt8.toInt32) = b.toInt8.toInt32 := by
  show b.toInt8.toInt32.toInt8.toInt32 = _
  have h1 := c_i2b b
  have h2 := c_i2b b.toInt8.toInt32
  exact Int32.toInt_inj.mp (by omega)
theorem own_neA {Z : State} {h : Heap} {a b : Addr} {C : String} {k : Nat} {a0 : Array Value} {kb : ClassId} {ty : FieldType} {n : Int32} {vs : List Value} {dv : Value} (E : Exa Z h a C) (wi : (Jvm.Cond.instantiable C k).before a0 Z = true) (F : Arv Z h b kb ty n vs dv) : a ≠ b := by
  obtain ⟨c, A, -⟩ := F; exact ne_arr E wi A
theorem own_r255 (x : Int32) : ¬ (x &&& 255) < (0 : Int32) ∧ ¬ (255 : Int32) < (x &&& 255) := by
  have e := c_mask x 255 8 (by decide) (by decide)
  have z0 : (0 : Int32).toInt = 0 := rfl
  have z1 : (255 : Int32).toInt = 255 := rfl
  have z2 : ((2 ^ 8 : Nat) : Int) = 256 := rfl
  constructor <;> rw [Int32.lt_iff_toInt_lt] <;> omega
theorem own_c255 (x : Int32) : ¬ (255 : Int32) < nar .char ((x &&& 255).toUInt32.toUInt16.toUInt32.toInt32) := by rw [own_nc]; exact (own_r255 x).2
theorem own_eqI {x y : Int32} (h : x.toInt = y.toInt) : x = y := Int32.toInt_inj.mp h
/-- own_E where String constants may be met: the tables may have been warmed widely; EL: the constants whose texts are held -/
def own_W (p : Program) (e : Env) (below : List Frame) (s : State) (k n : Nat) (Z : State) (EL : List (String × Nat)) (hs : Heap) (P : Option Value → Heap → List Loc → Prop) (T : State) (g : JFrame) : Prop :=
  ∃ s₂ o, Steps p.tables e below (T.setTop g) s₂ ∧ s₂.status = .running ∧ Ended s₂ below o ∧ ∃ v L, o = .returned v ∧ P v s₂.heap L ∧ CHr Z EL s.vm hs s₂.vm s₂.heap ∧ ReturnedEndW s o s₂ L k n
section OwnW
variable {p : Program} {l : Launch} {e : Env} {R : Room} {s : State} {m : MethodId} {args : Array Value} {below : List Frame} {meth : Method} {c : Code} {T T' : State} {locs : List Loc} {cells slots : Nat} {k n : Nat} {P : Option Value → Heap → List Loc → Prop} {g g' : JFrame} {Z : State} {EL : List (String × Nat)} {vm0 : Vm} {k0 : Nat} {a0 : Array Value} {hs : Heap}
theorem own_W0 (hh : s.heap = hs) (E : own_W p e below s k n Z EL hs P T g) : ∃ s₂ o, Steps p.tables e below (T.setTop g) s₂ ∧ s₂.status = .running ∧ Ended s₂ below o ∧ ∃ v L, o = .returned v ∧ P v s₂.heap L ∧ CHr Z EL s.vm s.heap s₂.vm s₂.heap ∧ ReturnedEndW s o s₂ L k n := by
  subst hh; exact E
theorem own_hZ (hZ : Z.Warmed39 s.vm) (hS : s.Since vm0 k0) : Z.Warmed39 (s.setVm vm0).vm := State.Warmed39.trans (t := s) hZ hS.1
theorem own_hown {own : String} {cc : ClassId} (h : s.vm.findClass own = some cc) (hS : s.Since vm0 k0) : (s.setVm vm0).vm.findClass own = some cc := by
  rw [show (s.setVm vm0).vm = vm0 from rfl, hS.1.alike.findClass]; exact h
theorem own_stW (h : ∀ t, Steps p.tables e below (T'.setTop g') t → Steps p.tables e below (T.setTop g) t) (E : own_W p e below s k n Z EL hs P T' g') : own_W p e below s k n Z EL hs P T g := by
  obtain ⟨s₂, o, h1, r⟩ := E; exact ⟨s₂, o, h _ h1, r⟩
theorem own_endW (X : Stand p l e R (s.setVm vm0) m args below meth c T locs cells slots) (hZ : Z.Warmed39 vm0) (hS : s.Since vm0 k0) (hk0 : k0 ≤ T.heap.size) (hEL : EW Z a0 EL) (A : CHr Z EL s.vm hs vm0 T.heap) {v : Option Value} (hv : meth.sig.returnType = none → v = none) (hlk : meth.locks = false) (hk : cells ≤ k) (hn : slots ≤ n) (hP : P v T.heap locs)
    (h : ∀ fs : List Frame, (∀ (f : JFrame) (acts : List Action), f.method = m → f.locked = none → f.entered = [] → (doReturn e (T.setTop f) acts v).1 = T.setFrames fs) → Steps p.tables e below (T.setTop g) (T.setFrames fs)) : own_W p e below s k n Z EL hs P T g := by
  obtain ⟨fs, hr, hrun, hended, r1, r2, r3, r4⟩ := X.leaveW hS hk0 (v := v) hv hlk
  exact ⟨_, _, h fs hr, hrun, hended, _, _, rfl, hP, A.trans (show CHr Z EL vm0 T.heap T.vm T.heap from CHv.at X hZ hEL A.1), r1, r2, r3, r4.mono hk hn⟩
theorem own_retVW (X : Stand p l e R (s.setVm vm0) m args below meth c T locs cells slots) (hZ : Z.Warmed39 vm0) (hS : s.Since vm0 k0) (hk0 : k0 ≤ T.heap.size) (hEL : EW Z a0 EL) (A : CHr Z EL s.vm hs vm0 T.heap) (hx : p.tables.exec = Jvm.exec) (hret : meth.sig.returnType = none) (hlk : meth.locks = false) {pc : Nat} {Ls : Array Slot} (hd : decode c.code pc = .ok (.return_, 1)) (hk : cells ≤ k) (hn : slots ≤ n) (hP : P none T.heap locs) : own_W p e below s k n Z EL hs P T (mkF m pc Ls []) :=
  own_endW X hZ hS hk0 hEL A (fun _ => rfl) hlk hk hn hP fun _ hr => X.returnOut hx hret hd hr
theorem own_retNW (X : Stand p l e R (s.setVm vm0) m args below meth c T locs cells slots) (hZ : Z.Warmed39 vm0) (hS : s.Since vm0 k0) (hk0 : k0 ≤ T.heap.size) (hEL : EW Z a0 EL) (A : CHr Z EL s.vm hs vm0 T.heap) (hx : p.tables.exec = Jvm.exec) {t : FieldType} (hret : meth.sig.returnType = some t) (ht : t = .boolean ∨ t = .byte ∨ t = .char ∨ t = .short) (hlk : meth.locks = false) {pc : Nat} {Ls : Array Slot} {z : Int32} {rest : List Value} (hd : decode c.code pc = .ok (.ireturn, 1)) (hk : cells ≤ k) (hn : slots ≤ n) (hP : P (some (.int (nar t z))) T.heap locs) : own_W p e below s k n Z EL hs P T (mkF m pc Ls (.int z :: rest)) :=
  own_endW X hZ hS hk0 hEL A (fun h => by rw [hret] at h; cases h) hlk hk hn hP fun _ hr => retN X hx hret ht hd hr
theorem own_retIW (X : Stand p l e R (s.setVm vm0) m args below meth c T locs cells slots) (hZ : Z.Warmed39 vm0) (hS : s.Since vm0 k0) (hk0 : k0 ≤ T.heap.size) (hEL : EW Z a0 EL) (A : CHr Z EL s.vm hs vm0 T.heap) (hx : p.tables.exec = Jvm.exec) (hret : meth.sig.returnType = some .int) (hlk : meth.locks = false) {pc : Nat} {Ls : Array Slot} {z : Int32} {rest : List Value} (hd : decode c.code pc = .ok (.ireturn, 1)) (hk : cells ≤ k) (hn : slots ≤ n) (hP : P (some (.int z)) T.heap locs) : own_W p e below s k n Z EL hs P T (mkF m pc Ls (.int z :: rest)) :=
  own_endW X hZ hS hk0 hEL A (fun h => by rw [hret] at h; cases h) hlk hk hn hP fun _ hr => retOut X hx hret rfl (Or.inl ⟨rfl, Or.inl rfl, z, rfl⟩) hd hr
theorem own_retAW (X : Stand p l e R (s.setVm vm0) m args below meth c T locs cells slots) (hZ : Z.Warmed39 vm0) (hS : s.Since vm0 k0) (hk0 : k0 ≤ T.heap.size) (hEL : EW Z a0 EL) (A : CHr Z EL s.vm hs vm0 T.heap) (hx : p.tables.exec = Jvm.exec) {t : FieldType} (hret : meth.sig.returnType = some t) (ht : t.isReference = true) {w : Value} (hw : w.isRef = true) (hlk : meth.locks = false) {pc : Nat} {Ls : Array Slot} {rest : List Value} (hd : decode c.code pc = .ok (.areturn, 1)) (hk : cells ≤ k) (hn : slots ≤ n) (hP : P (some w) T.heap locs) : own_W p e below s k n Z EL hs P T (mkF m pc Ls (w :: rest)) :=
  own_endW X hZ hS hk0 hEL A (fun h => by rw [hret] at h; cases h) hlk hk hn hP fun _ hr => retOut X hx hret (own_narR ht) (Or.inr (Or.inr (Or.inr (Or.inr ⟨rfl, ht, hw⟩)))) hd hr
/-- who pays a callee of ours that may meet String constants: 'sf', the objects that are none of them -/
theorem own_backW {y : MethodName} {bytes : ByteArray} {maxL : Nat} {ret : Option FieldType} {rm : Room} {len W : Nat} {as' : Array Value} {Q : Option Value → Heap → List Loc → Prop} {h : Heap} {sf : List Addr}
    (hM : MetFree l y (head1 [Jvm.Cond.code y bytes maxL ret] rm) (fun a U => a = as' ∧ Z.Warmed39 U.vm ∧ U.heap = h ∧ CHv Z EL U.vm h ∧ ∀ x ∈ sf, Safe Z EL U.vm h x) (fun _ _ _ _ _ => True) (fun _ U o U' => ∃ v L, o = .returned v ∧ Q v U'.heap L ∧ CHr Z EL U.vm U.heap U'.vm U'.heap ∧ ReturnedEndW U o U' L rm.cells rm.slots))
    (hZ : Z.Warmed39 (s.setVm vm0).vm) (wc : (Jvm.Cond.code y bytes maxL ret).before a0 Z = true) (wz : (Jvm.Cond.initialized y.cls).before a0 Z = true) (hf : rm.frames + 1 ≤ R.frames) (hl : W + (maxL + 11) + rm.locals ≤ R.locals) (hEL : EW Z a0 EL) (H : CHv Z EL vm0 h) (S : ∀ x ∈ sf, Safe Z EL vm0 h x) (St : ∀ x ∈ sf, x < h.size) :
    BackS l R p e below (s.setVm vm0) args y len W (fun A a => a = as' ∧ A.U.heap = h ∧ A.cells + rm.cells ≤ R.cells ∧ A.slots + rm.slots ≤ R.slots)
      (fun A _ v B => ∃ L, Q v B.U.heap L ∧ B.locs = A.locs ++ L ∧ B.cells = A.cells + rm.cells ∧ B.slots = A.slots + rm.slots ∧ CHr Z EL vm0 h B.U.vm B.U.heap) := by
  have hZ' : Z.Warmed39 vm0 := hZ
  refine BackS.of_freeW (bytes := bytes) (maxL := maxL) (ret := ret) (E := fun _ first o t L k n => k = rm.cells ∧ n = rm.slots ∧ (∃ v, o = .returned v ∧ Q v t.heap L) ∧ CHr Z EL first.vm first.heap t.vm t.heap) hM hf hl ?_ ?_ (fun _ _ _ _ _ _ _ _ _ => trivial) ?_ ?_
  · intro m meth c A a Y hp
    have hU : Z.Warmed39 A.U.vm := wtrans (s := s.setVm vm0) hZ Y.warmed
    refine ⟨?_, mv hU wc, mv hU wz, hp.2.2.1, hp.2.2.2⟩
    show (Jvm.Cond.and _ .tt).before a A.U = true
    rw [Cond.before_and, mv hU wc]; rfl
  · intro m meth c A a g mk Y hp
    have K := CHv.at Y hZ' hEL H
    exact ⟨hp.1, wtrans (s := s.setVm vm0) hZ Y.warmed, hp.2.1, K.1, fun x hx => K.safe (St x hx) (S x hx)⟩
  · rintro _ _ _ _ ⟨v, L, h1, h2, h3, h4⟩
    exact ⟨L, _, _, h4, rfl, rfl, ⟨v, h1, h2⟩, h3⟩
  · rintro m meth c A a g mk v t L k n Y hp _ _ ⟨e1, e2, ⟨v', e3, e4⟩, e5⟩
    cases e3; subst e1 e2
    refine ⟨L, e4, rfl, rfl, rfl, (CHv.at Y hZ' hEL H).trans ?_⟩
    rw [← hp.2.1]; exact e5
theorem own_callSW {W : Nat} {rm : Room} {as' : Array Value} {Q : Option Value → Heap → List Loc → Prop} {h : Heap} {c' s' : Nat} (X : Stand p l e R (s.setVm vm0) m args below meth c T locs cells slots) (hx : p.tables.exec = Jvm.exec) {own : String} {index : Nat} {y : MethodName} {bytes : ByteArray} {maxL : Nat} {ret : Option FieldType} (hown : (s.setVm vm0).vm.findClass own = some m.cls) (hlink : (Jvm.Cond.methodLink own index y).before args (s.setVm vm0) = true) (hstat : (Jvm.Cond.static y).before args (s.setVm vm0) = true) (hinit : (Jvm.Cond.initialized y.cls).before args (s.setVm vm0) = true) (hcode : (Jvm.Cond.code y bytes maxL ret).before args (s.setVm vm0) = true) (hy : y.cls ≠ "java/lang/invoke/MethodHandle" ∧ y.cls ≠ "java/lang/invoke/VarHandle") (hK : BackS l R p e below (s.setVm vm0) args y 3 W (fun A a => a = as' ∧ A.U.heap = h ∧ A.cells + rm.cells ≤ R.cells ∧ A.slots + rm.slots ≤ R.slots) (fun A _ v B => ∃ L, Q v B.U.heap L ∧ B.locs = A.locs ++ L ∧ B.cells = A.cells + rm.cells ∧ B.slots = A.slots + rm.slots ∧ CHr Z EL vm0 h B.U.vm B.U.heap)) {g : JFrame} (hg : g.method = m) (hsize : g.locals.size = c.maxLocals) {argsL rest : List Value} (hlen : ∀ sig, parseMethodDescriptor y.desc = some sig → argsL.length = sig.parameters.length) (hstack : g.stack = argsL.reverse ++ rest) (hW : 2 * g.monitorRoom + (rest.map fun v => v.category).sum ≤ W) (hdg : decode c.code g.pc = .ok (.invokestatic index, 3)) (ha : argsL.toArray = as') (eT : T.heap = h) (hc : cells + rm.cells ≤ R.cells) (hs' : slots + rm.slots ≤ R.slots) (h1 : cells + rm.cells = c') (h2 : slots + rm.slots = s') (hS : s.Since vm0 k0) (hk : k0 ≤ h.size) :
    ∃ (v : Option Value) (T' : State) (L : List Loc), Stand p l e R (s.setVm T'.vm) m args below meth c T' (locs ++ L) c' s' ∧ s.Since T'.vm T'.heap.size ∧ Q v T'.heap L ∧ CHr Z EL vm0 h T'.vm T'.heap ∧ ∀ t, Steps p.tables e below (T'.setTop { g with pc := g.pc + 3, stack := v.toList ++ rest }) t → Steps p.tables e below (T.setTop g) t := by
  subst h1 h2
  obtain ⟨v, vm₁, ⟨T', L', k', n'⟩, -, X', hS2, hgr, ⟨L, hQ, h3, h4, h5, ch⟩, st⟩ := callSS X hx hown hlink hstat hinit hcode hy hK hg hsize hlen hstack hW hdg (fun _ _ => ⟨ha, eT, hc, hs'⟩)
  dsimp only [Pt.U, Pt.locs, Pt.cells, Pt.slots] at X' hS2 hgr h3 h4 h5 st hQ ch
  subst h3 h4 h5
  exact ⟨v, T', L, X', hS.trans hS2 (Nat.le_trans (eT ▸ hk) hgr), hQ, ch, fun t k => st.trans k⟩
theorem own_callIW {W : Nat} {rm : Room} {as' : Array Value} {Q : Option Value → Heap → List Loc → Prop} {h : Heap} {c' s' : Nat} (X : Stand p l e R (s.setVm vm0) m args below meth c T locs cells slots) (hx : p.tables.exec = Jvm.exec) {own : String} {index : Nat} {y : MethodName} {bytes : ByteArray} {maxL : Nat} (hy1 : y.name = "<init>") (hown : (s.setVm vm0).vm.findClass own = some m.cls) (hlink : (Jvm.Cond.methodLink own index y).before args (s.setVm vm0) = true) (hinst : (Jvm.Cond.instanceMethod y).before args (s.setVm vm0) = true) (hcode : (Jvm.Cond.code y bytes maxL none).before args (s.setVm vm0) = true) (hy : y.cls ≠ "java/lang/invoke/MethodHandle" ∧ y.cls ≠ "java/lang/invoke/VarHandle") (hK : BackS l R p e below (s.setVm vm0) args y 3 W (fun A a => a = as' ∧ A.U.heap = h ∧ A.cells + rm.cells ≤ R.cells ∧ A.slots + rm.slots ≤ R.slots) (fun A _ v B => ∃ L, Q v B.U.heap L ∧ B.locs = A.locs ++ L ∧ B.cells = A.cells + rm.cells ∧ B.slots = A.slots + rm.slots ∧ CHr Z EL vm0 h B.U.vm B.U.heap)) {g : JFrame} (hg : g.method = m) (hsize : g.locals.size = c.maxLocals) {a : Addr} {argsL rest : List Value} (hlen : ∀ sig, parseMethodDescriptor y.desc = some sig → argsL.length = sig.parameters.length) (hstack : g.stack = argsL.reverse ++ .ref a :: rest) (hW : 2 * g.monitorRoom + (rest.map fun v => v.category).sum ≤ W) (hdg : decode c.code g.pc = .ok (.invokespecial index, 3)) (ha : (.ref a :: argsL).toArray = as') (eT : T.heap = h) (hc : cells + rm.cells ≤ R.cells) (hs' : slots + rm.slots ≤ R.slots) (h1 : cells + rm.cells = c') (h2 : slots + rm.slots = s') (hS : s.Since vm0 k0) (hk : k0 ≤ h.size) :
    ∃ (v : Option Value) (T' : State) (L : List Loc), Stand p l e R (s.setVm T'.vm) m args below meth c T' (locs ++ L) c' s' ∧ s.Since T'.vm T'.heap.size ∧ Q v T'.heap L ∧ CHr Z EL vm0 h T'.vm T'.heap ∧ ∀ t, Steps p.tables e below (T'.setTop { g with pc := g.pc + 3, stack := v.toList ++ rest }) t → Steps p.tables e below (T.setTop g) t := by
  subst h1 h2
  obtain ⟨v, vm₁, ⟨T', L', k', n'⟩, -, X', hS2, hgr, ⟨L, hQ, h3, h4, h5, ch⟩, st⟩ := X.specialBackS hx hy1 hown hlink hinst hcode hy hK hg hsize (Steps.refl _) hlen hstack hW hdg (fun _ _ => ⟨ha, eT, hc, hs'⟩)
  dsimp only [Pt.U, Pt.locs, Pt.cells, Pt.slots] at X' hS2 hgr h3 h4 h5 st hQ ch
  subst h3 h4 h5
  exact ⟨v, T', L, X', hS.trans hS2 (Nat.le_trans (eT ▸ hk) hgr), hQ, ch, fun t k => st.trans k⟩
theorem own_callVW {W : Nat} {rm : Room} {as' : Array Value} {Q : Option Value → Heap → List Loc → Prop} {h : Heap} {c' s' : Nat} (X : Stand p l e R (s.setVm vm0) m args below meth c T locs cells slots) (hx : p.tables.exec = Jvm.exec) {own : String} {index : Nat} {C : String} {y z : MethodName} (hown : (s.setVm vm0).vm.findClass own = some m.cls) (hlink : (Jvm.Cond.methodLink own index y).before args (s.setVm vm0) = true) (hdecl : (Jvm.Cond.declares y).before args (s.setVm vm0) = true) (hnf : NotFace (s.setVm vm0) y) (hsel : (Jvm.Cond.selects C y z).before args (s.setVm vm0) = true) (hinst : (Jvm.Cond.instanceMethod z).before args (s.setVm vm0) = true) (hy : y.cls ≠ "java/lang/invoke/MethodHandle" ∧ y.cls ≠ "java/lang/invoke/VarHandle") (hK : BackS l R p e below (s.setVm vm0) args z 3 W (fun A a => a = as' ∧ A.U.heap = h ∧ A.cells + rm.cells ≤ R.cells ∧ A.slots + rm.slots ≤ R.slots) (fun A _ v B => ∃ L, Q v B.U.heap L ∧ B.locs = A.locs ++ L ∧ B.cells = A.cells + rm.cells ∧ B.slots = A.slots + rm.slots ∧ CHr Z EL vm0 h B.U.vm B.U.heap)) {b : Addr} {cB : ClassId} (hcB : (s.setVm vm0).vm.findClass C = some cB) (hrecv : IsOf cB T b) {g : JFrame} (hg : g.method = m) (hsize : g.locals.size = c.maxLocals) {argsL rest : List Value} (hlen : ∀ sig, parseMethodDescriptor y.desc = some sig → argsL.length = sig.parameters.length) (hstack : g.stack = argsL.reverse ++ .ref b :: rest) (hW : 2 * g.monitorRoom + (rest.map fun v => v.category).sum ≤ W) (hdg : decode c.code g.pc = .ok (.invokevirtual index, 3)) (ha : (.ref b :: argsL).toArray = as') (eT : T.heap = h) (hc : cells + rm.cells ≤ R.cells) (hs' : slots + rm.slots ≤ R.slots) (h1 : cells + rm.cells = c') (h2 : slots + rm.slots = s') (hS : s.Since vm0 k0) (hk : k0 ≤ h.size) :
    ∃ (v : Option Value) (T' : State) (L : List Loc), Stand p l e R (s.setVm T'.vm) m args below meth c T' (locs ++ L) c' s' ∧ s.Since T'.vm T'.heap.size ∧ Q v T'.heap L ∧ CHr Z EL vm0 h T'.vm T'.heap ∧ ∀ t, Steps p.tables e below (T'.setTop { g with pc := g.pc + 3, stack := v.toList ++ rest }) t → Steps p.tables e below (T.setTop g) t := by
  subst h1 h2
  obtain ⟨v, vm₁, ⟨T', L', k', n'⟩, -, X', hS2, hgr, ⟨L, hQ, h3, h4, h5, ch⟩, st⟩ := X.virtualBackS hx hown hlink hdecl hnf hsel hinst hy hK hcB hrecv hg hsize (Steps.refl _) hlen hstack hW hdg (fun _ _ => ⟨ha, eT, hc, hs'⟩)
  dsimp only [Pt.U, Pt.locs, Pt.cells, Pt.slots] at X' hS2 hgr h3 h4 h5 st hQ ch
  subst h3 h4 h5
  exact ⟨v, T', L, X', hS.trans hS2 (Nat.le_trans (eT ▸ hk) hgr), hQ, ch, fun t k => st.trans k⟩
end OwnW
/-- a contract in short: what a body leaves, its heap before and its arguments given -/
abbrev own_MF (l : Launch) (y : MethodName) (ws : List Jvm.Cond) (R : Room) (A : Array Value) (Z : State) (h0 : Heap) (Q : Option Value → Heap → List Loc → Prop) : Prop :=
  MetFree l y (head1 ws R) (fun ar_ U => ar_ = A ∧ Z.Warmed39 U.vm ∧ U.heap = h0) (fun _ _ _ _ _ => True) (fun _ U o U' => ∃ v L, o = .returned v ∧ Q v U'.heap L ∧ FrameEnd U o U' L R.cells R.slots)
theorem own_met {l : Launch} {y : MethodName} {ws : List Jvm.Cond} {R : Room} {A : Array Value} {Z : State} {h0 : Heap} {Q : Option Value → Heap → List Loc → Prop} {bytes : ByteArray} {maxL : Nat} {ret : Option FieldType} {own nme : String} (ho : y.cls = own) (hn : y.name = nme) (hpl : plainFor y = true)
    (K : ∀ (p : Program) (e : Env) (s : State) (m : MethodId) (below : List Frame) (meth : Method) (c : Code) (s₁ : State), p.tables.exec = Jvm.exec → c.code = bytes → c.maxLocals = maxL → s.vm.findClass own = some m.cls → meth.name = nme → Stand p l e R s m A below meth c s₁ [] 0 0 → s₁.heap = h0 → meth.sig.returnType = ret → meth.locks = false → Z.Warmed39 s.vm → own_E p e below s R.cells R.slots Q s₁ (entryFrame m A maxL)) :
    own_MF l y (Jvm.Cond.code y bytes maxL ret :: ws) R A Z h0 Q := by
  refine MetFree.of_bodySF hpl hisR ?_
  intro p e s m args below meth c s₁ Bd hml0 hP hK
  obtain ⟨rfl, hZ, hh⟩ := hP
  exact K p e s m below meth c s₁ Bd.exec Bd.bytes hml0 (ho ▸ findClass_of_methodNamed Bd.named) (hn ▸ (name_of_methodNamed Bd.named Bd.method).1) (Stand.of_body Bd) (by rw [← hh, Bd.state]; rfl) Bd.returns Bd.notSynchronized hZ
theorem own_sp {p : Program} {e : Env} {below : List Frame} {s : State} {k n : Nat} {P : Option Value → Heap → List Loc → Prop} {T T' : State} {m : MethodId} {pc q : Nat} {Ls : Array Slot} {S S' : List Value} (h : ∀ t, Steps p.tables e below (T'.setTop (mkF m q Ls S')) t → Steps p.tables e below (T.setTop (mkF m pc Ls S)) t) (E : own_E p e below s k n P T' (mkF m q Ls S')) : own_E p e below s k n P T (mkF m pc Ls S) := own_st h E
theorem wd {Z : State} {a0 : Array Value} (hw : ∀ d ∈ tables_1, d.before a0 Z = true) (i : Nat) {d : Jvm.Cond} (h : tables_1[i]? = some d) : d.before a0 Z = true := hw d (List.mem_of_getElem? h)
section OwnMir
variable {p : Program} {l : Launch} {e : Env} {R : Room} {s : State} {m : MethodId} {args : Array Value} {below : List Frame} {meth : Method} {c : Code} {T : State} {locs : List Loc} {cells slots : Nat} {Z : State} {a0 : Array Value} {h : Heap}
theorem own_NSroot {O K : String} {n : Nat} (w : (Jvm.Cond.noSuperclass O).before a0 Z = true) (wk : (Jvm.Cond.instantiable K n).before a0 Z = true) (hn : O ≠ K) : NS Z O K := by
  obtain ⟨c, k, h1, h2, h3, -, -⟩ := Cond.noSuperclass_spec w
  obtain ⟨t, kt, g1, -⟩ := Cond.instantiable_spec wk
  have ne := ids_ne h1 g1 hn
  refine ⟨c, t, h1, g1, fun fuel => ?_⟩
  cases fuel with
  | zero => rfl
  | succ f => simp [Vm.isSubclassAux, ne, h2, h3]
theorem own_NSno {C S K : String} {n : Nat} (w : (Jvm.Cond.superclass C S).before a0 Z = true) (wk : (Jvm.Cond.instantiable K n).before a0 Z = true) (N : NS Z C K) (hn : C ≠ K) : ∃ c t, Z.vm.findClass C = some c ∧ Z.vm.findClass K = some t ∧ Z.vm.assignable c t = false := by
  obtain ⟨c, t, h0, g0, n3⟩ := N
  obtain ⟨p, k, kp, h1, h2, h3, h4, h5, -, h7⟩ := Cond.superclass_spec h0 w
  obtain ⟨t', k', g1, g2, g5, g7, -⟩ := Cond.instantiable_spec wk
  cases g0.symm.trans g1
  have g8 : k'.isInterface = false := by cases q : k'.isInterface <;> simp [q] at g7 ⊢
  have ne := ids_ne h0 g0 hn
  refine ⟨c, t, h0, g0, ?_⟩
  show Z.vm.assignableAux (255 + 1) c t = false
  simp [Vm.assignableAux, ne, h2, g2, h5, g5, g8, Vm.isSubclass, n3]
/-- the Class object of the class C has been made, at mr -/
def own_Mir (Z : State) (C : String) (mr : Addr) : Prop := ∃ (c : ClassId) (k : Class), Z.vm.findClass C = some c ∧ Z.vm.classes[c]? = some k ∧ k.mirror = some mr
theorem own_ldk (X : Stand p l e R s m args below meth c T locs cells slots) (hx : p.tables.exec = Jvm.exec) (hZ : Z.Warmed39 s.vm) {own C : String} {index : Nat} (hown : s.vm.findClass own = some m.cls) (w : (Jvm.Cond.classLink own index C).before a0 Z = true) (eT : T.heap = h) {mr : Addr} (M : own_Mir Z C mr)
    {g : JFrame} (hg : g.method = m) (hd : decode c.code g.pc = .ok (.ldc index, 2)) : ∃ T', Stand p l e R s m args below meth c T' locs cells slots ∧ T'.heap = h ∧ ∀ target, Steps p.tables e below (T'.setTop { g with pc := g.pc + 2, stack := .ref mr :: g.stack }) target → Steps p.tables e below (T.setTop g) target := by
  obtain ⟨cc, kc, m1, m2, m3⟩ := M
  obtain ⟨k', q, ek⟩ := hZ.alike.2.2 _ _ m2
  have f1 : s.vm.findClass C = some cc := by rw [hZ.alike.findClass]; exact m1
  have hev : (Term.mirror C).eval args s none [] s = some (.ref mr) := by
    have e3 : k'.mirror = some mr := by rw [ek]; exact m3
    simp [Term.eval, f1, q, e3]
  obtain ⟨vm', X', st⟩ := X.ldcMirror hx hown (mvT hZ w) hev hg hd
  exact ⟨_, X', eT, st⟩
abbrev own_gc : MethodName := ⟨"java/lang/Object", "getClass", "()Ljava/lang/Class;"⟩
theorem own_gcls (X : Stand p l e R s m args below meth c T locs cells slots) (hx : p.tables.exec = Jvm.exec) (hZ : Z.Warmed39 s.vm) {own C : String} {index : Nat} {a : Addr} (hown : s.vm.findClass own = some m.cls)
    (w1 : (Jvm.Cond.methodLink own index own_gc).before a0 Z = true) (w2 : (Jvm.Cond.declares own_gc).before a0 Z = true) (w3 : (Jvm.Cond.noSuperclass "java/lang/Object").before a0 Z = true) (w4 : (Jvm.Cond.selects C own_gc own_gc).before a0 Z = true)
    (w5 : (Jvm.Cond.instanceMethod own_gc).before a0 Z = true) (w6 : (Jvm.Cond.native own_gc).before a0 Z = true) (eT : T.heap = h) (E : Exa Z h a C) {mr : Addr} (M : own_Mir Z C mr)
    {g : JFrame} (hg : g.method = m) (hsize : g.locals.size = c.maxLocals) {rest : List Value} (hs : g.stack = .ref a :: rest) (hd : decode c.code g.pc = .ok (.invokevirtual index, 3)) (hf : 1 ≤ R.frames) {W : Nat} (hW : 2 * g.monitorRoom + (rest.map fun v => v.category).sum ≤ W) (hl : W + (nativeFrameWords "java/lang/Object" "getClass" 1 + 11) ≤ R.locals) :
    ∃ T', Stand p l e R s m args below meth c T' locs cells slots ∧ T'.heap = h ∧ ∀ target, Steps p.tables e below (T'.setTop { g with pc := g.pc + 3, stack := .ref mr :: rest }) target → Steps p.tables e below (T.setTop g) target := by
  obtain ⟨cB, kB, i1, i2, i3⟩ := isOf hZ eT E
  obtain ⟨cc, kc, m1, m2, m3⟩ := M
  have i1' := i1
  rw [hZ.alike.findClass] at i1'
  cases i1'.symm.trans m1
  obtain ⟨k', q, ek⟩ := hZ.alike.2.2 _ _ m2
  have nf : NotFace s own_gc := nf_top (args := args) (mvT hZ w3)
  obtain ⟨vm', X', st⟩ := X.getClassOf hx hown (mvT hZ w1) (mvT hZ w2) nf (mvT hZ w4) (mvT hZ w5) (mvT hZ w6) i1 i3 q (by rw [ek]; exact m3) hg hsize hs hd hf (by omega)
  exact ⟨_, X', eT, st⟩
theorem own_exaArv {a : Addr} {k : ClassId} {ty : FieldType} {z : Int32} {vs : List Value} {dv : Value} {C : String} (F : Arv Z h a k ty z vs dv) (hC : Z.vm.findClass C = some k) : Exa Z h a C := by
  obtain ⟨cl, A, q, -⟩ := F
  have hp := A.plain
  obtain ⟨h1, ⟨-, kk, h2, comp, h3⟩, -⟩ := A
  exact ⟨cl, kk, h1, by rw [q]; exact hC, h2, hp, fun z => by rw [h3] at z; cases z⟩
theorem own_insK {h' : Heap} {ws : List Addr} {a : Addr} {C : String} (F : Ins Z h a C true) (K : Keep h h' ws) : Ins Z h' a C true := by
  obtain ⟨cell, t, h1, h2, h3⟩ := F
  obtain ⟨c', q1, q2, q3, -⟩ := K.2.2 _ _ h1
  exact ⟨c', t, q1, h2, by rw [q2, q3]; exact h3⟩
theorem own_kk {a : Addr} {k kO : ClassId} {ty : FieldType} {n : Int32} {C : String} (E : Exa Z h a C) (A : Arr Z h a (newA k ty n) ty) (FC : Z.vm.findClass C = some kO) : kO = k := by
  obtain ⟨cell, k', h1, h2, -⟩ := E
  cases h1.symm.trans A.1
  exact Option.some.inj (FC.symm.trans h2)
theorem own_OV (w : (Jvm.Cond.arrayOver (.object "java/lang/Object")).before a0 Z = true) : ∃ kO, Ovr Z kO "java/lang/Object" ∧ Z.vm.findClass "[Ljava/lang/Object;" = some kO := by
  obtain ⟨comp, c, k, h1, -, h3, h4, h5⟩ := Cond.arrayOver_spec (show (Jvm.Cond.arrayOver (.object "java/lang/Object")).holds a0 Z none Z [] = true from w)
  exact ⟨c, ⟨k, comp, h3, h4, h1⟩, h5⟩
theorem own_callIN {W : Nat} {rm : Room} {as' : Array Value} {Q : Option Value → Heap → List Loc → Prop} {c' s' : Nat} (X : Stand p l e R s m args below meth c T locs cells slots) (hx : p.tables.exec = Jvm.exec) {own host : String} {index : Nat} {y : MethodName} {bytes : ByteArray} {maxL : Nat} (hy1 : y.name = "<init>") (hown : s.vm.findClass own = some m.cls) (hlink : (Jvm.Cond.methodLinkNest own index y host).before args s = true) (hinst : (Jvm.Cond.instanceMethod y).before args s = true) (hcode : (Jvm.Cond.code y bytes maxL none).before args s = true) (hy : y.cls ≠ "java/lang/invoke/MethodHandle" ∧ y.cls ≠ "java/lang/invoke/VarHandle") (hK : Back l R p e below s args y 3 W (fun A a => a = as' ∧ A.U.heap = h ∧ A.cells + rm.cells ≤ R.cells ∧ A.slots + rm.slots ≤ R.slots) (fun A _ v B => ∃ L, Q v B.U.heap L ∧ B.locs = A.locs ++ L ∧ B.cells = A.cells + rm.cells ∧ B.slots = A.slots + rm.slots)) {g : JFrame} (hg : g.method = m) (hsize : g.locals.size = c.maxLocals) {a : Addr} {argsL rest : List Value} (hlen : ∀ sig, parseMethodDescriptor y.desc = some sig → argsL.length = sig.parameters.length) (hstack : g.stack = argsL.reverse ++ .ref a :: rest) (hW : 2 * g.monitorRoom + (rest.map fun v => v.category).sum ≤ W) (hdg : decode c.code g.pc = .ok (.invokespecial index, 3)) (ha : (.ref a :: argsL).toArray = as') (eT : T.heap = h) (hc : cells + rm.cells ≤ R.cells) (hs : slots + rm.slots ≤ R.slots) (h1 : cells + rm.cells = c') (h2 : slots + rm.slots = s') :
    ∃ (v : Option Value) (T' : State) (L : List Loc), Stand p l e R s m args below meth c T' (locs ++ L) c' s' ∧ Q v T'.heap L ∧ ∀ t, Steps p.tables e below (T'.setTop { g with pc := g.pc + 3, stack := v.toList ++ rest }) t → Steps p.tables e below (T.setTop g) t := by
  subst h1 h2
  obtain ⟨v, vm₁, ⟨T', L', k', n'⟩, -, X', ⟨L, hQ, h3, h4, h5⟩, st⟩ := X.specialBackNest hx hy1 hown hlink hinst hcode hy hK hg hsize (Steps.refl _) hlen hstack hW hdg (fun _ _ => ⟨ha, eT, hc, hs⟩)
  dsimp only [Pt.U, Pt.locs, Pt.cells, Pt.slots] at X' h3 h4 h5 st hQ
  subst h3 h4 h5
  exact ⟨v, T', L, X', hQ, fun t k => st.trans k⟩
end OwnMir
theorem own_len0 {Z : State} {args : Array Value} {a : Addr} {cl : Cell} {t : Term} {ty : FieldType} {z : Int32} (ev : t.eval args Z none [] Z = some (.ref a)) (A : Arr Z Z.heap a cl ty) (hl : (Jvm.Cond.eq (Term.length t) (Term.int z)).value args Z none Z [] = some true) : cl.slots.size.toInt32 = z := by
  have hat : Z.arrayAt? a = some cl := A.fin (Vm.Alike.refl _)
  by_cases q : cl.slots.size < 2 ^ 31
  · have e1 := len_f ev hat q
    exact gotT (Cond.eq_ints e1 rfl) hl
  · exfalso
    have e1 : (Term.length t).eval args Z none [] Z = none := by simp [Term.eval, ev, hat, q]
    obtain ⟨x, y, q1, -⟩ := cmp_v (Or.inl hl)
    rw [e1] at q1; cases q1
theorem own_int0 {args : Array Value} {Z : State} {t : Term} {k : Int32} (h : (Jvm.Cond.eq t (Term.int k)).value args Z none Z [] = some true) : t.eval args Z none [] Z = some (.int k) := by
  cases hv : t.eval args Z none [] Z with
  | none => simp [Cond.value, Term.eval, hv] at h
  | some x => cases x <;> simp [Cond.value, Term.eval, hv] at h; subst h; rfl

abbrev own_m0 : MethodName := ⟨"java/lang/String", "<init>", "([CIILjava/lang/Void;)V"⟩
abbrev own_m1 : MethodName := ⟨"java/lang/String", "<init>", "([C)V"⟩
abbrev own_m2 : MethodName := ⟨"java/lang/StringUTF16", "compress", "([CI[BII)I"⟩
abbrev own_m3 : MethodName := ⟨"java/lang/StringUTF16", "compress", "([CII)[B"⟩
abbrev own_m4 : MethodName := ⟨"java/lang/StringUTF16", "coderFromArrayLen", "([BI)B"⟩
abbrev own_m5 : MethodName := ⟨"com/example/rights_leak_checker/rightsleakchecker/takegrant/BridgeFromPinLaw", "str", "(I)Ljava/lang/String;"⟩
abbrev own_m6 : MethodName := ⟨"java/util/AbstractCollection", "<init>", "()V"⟩
abbrev own_m7 : MethodName := ⟨"java/util/AbstractList", "<init>", "()V"⟩
abbrev own_m8 : MethodName := ⟨"java/util/ArrayList", "<init>", "()V"⟩
abbrev own_m9 : MethodName := ⟨"java/lang/Math", "max", "(II)I"⟩
abbrev own_m10 : MethodName := ⟨"java/util/ArrayList", "grow", "(I)[Ljava/lang/Object;"⟩
abbrev own_m11 : MethodName := ⟨"java/util/ArrayList", "grow", "()[Ljava/lang/Object;"⟩
abbrev own_m12 : MethodName := ⟨"java/util/ArrayList", "add", "(Ljava/lang/Object;[Ljava/lang/Object;I)V"⟩
abbrev own_m13 : MethodName := ⟨"java/util/ArrayList", "add", "(Ljava/lang/Object;)Z"⟩
abbrev own_m14 : MethodName := ⟨"java/util/ArrayList", "size", "()I"⟩
abbrev own_m15 : MethodName := ⟨"java/util/ImmutableCollections$AbstractImmutableCollection", "<init>", "()V"⟩
abbrev own_m16 : MethodName := ⟨"java/util/ImmutableCollections$AbstractImmutableList", "<init>", "()V"⟩
abbrev own_m17 : MethodName := ⟨"java/util/Objects", "requireNonNull", "(Ljava/lang/Object;)Ljava/lang/Object;"⟩
abbrev own_m18 : MethodName := ⟨"java/lang/Math", "min", "(II)I"⟩
abbrev own_m19 : MethodName := ⟨"java/util/ArrayList", "isEmpty", "()Z"⟩
abbrev own_m20 : MethodName := ⟨"java/util/ImmutableCollections$List12", "<init>", "(Ljava/lang/Object;Ljava/lang/Object;)V"⟩
abbrev own_m21 : MethodName := ⟨"java/util/ImmutableCollections$List12", "<init>", "(Ljava/lang/Object;)V"⟩
abbrev own_m22 : MethodName := ⟨"java/util/ImmutableCollections$ListN", "<init>", "([Ljava/lang/Object;Z)V"⟩
abbrev own_m23 : MethodName := ⟨"java/util/Arrays", "copyOf", "([Ljava/lang/Object;ILjava/lang/Class;)[Ljava/lang/Object;"⟩
abbrev own_m24 : MethodName := ⟨"java/util/Arrays", "copyOf", "([Ljava/lang/Object;I)[Ljava/lang/Object;"⟩
abbrev own_m25 : MethodName := ⟨"java/util/ArrayList", "toArray", "()[Ljava/lang/Object;"⟩
abbrev own_m26 : MethodName := ⟨"java/util/List", "of", "([Ljava/lang/Object;)Ljava/util/List;"⟩
abbrev own_m27 : MethodName := ⟨"java/util/Collection", "isEmpty", "()Z"⟩
abbrev own_m28 : MethodName := ⟨"java/util/Collection", "toArray", "()[Ljava/lang/Object;"⟩
abbrev own_m29 : MethodName := ⟨"java/util/ImmutableCollections", "listCopy", "(Ljava/util/Collection;)Ljava/util/List;"⟩
abbrev own_m30 : MethodName := ⟨"java/util/List", "copyOf", "(Ljava/util/Collection;)Ljava/util/List;"⟩
abbrev own_m31 : MethodName := ⟨"java/util/ImmutableCollections", "listFromArray", "([Ljava/lang/Object;)Ljava/util/List;"⟩
abbrev own_m32 : MethodName := ⟨"com/example/rights_leak_checker/rightsleakchecker/takegrant/BridgeFromPinLaw", "letter", "(I)Lcom/example/rights_leak_checker/rightsleakchecker/takegrant/Bridge$Letter;"⟩
abbrev own_m33 : MethodName := ⟨"java/util/List", "size", "()I"⟩
abbrev own_m34 : MethodName := ⟨"com/example/rights_leak_checker/rightsleakchecker/takegrant/Bridge", "<init>", "(Ljava/util/List;Ljava/util/List;)V"⟩
abbrev own_m35 : MethodName := ⟨"java/util/ImmutableCollections$List12", "get", "(I)Ljava/lang/Object;"⟩
abbrev own_m36 : MethodName := ⟨"java/util/List", "get", "(I)Ljava/lang/Object;"⟩
abbrev own_m37 : MethodName := ⟨"com/example/rights_leak_checker/rightsleakchecker/takegrant/Bridge", "from", "()Ljava/lang/String;"⟩
abbrev own_m38 : MethodName := ⟨"java/util/ImmutableCollections$ListN", "get", "(I)Ljava/lang/Object;"⟩
abbrev own_m39 : MethodName := ⟨"java/lang/String", "equals", "(Ljava/lang/Object;)Z"⟩
abbrev own_m40 : MethodName := ⟨"java/util/List", "add", "(Ljava/lang/Object;)Z"⟩
theorem own_wS {Z : State} {a0 : Array Value} (hw : ∀ d ∈ tables_1, d.before a0 Z = true) : ∀ a ∈ Bundle.stringAtoms, a.before a0 Z = true := by
  intro d hd
  simp only [Bundle.stringAtoms, Bundle.sN, List.mem_cons, List.not_mem_nil, or_false] at hd
  rcases hd with rfl | rfl | rfl | rfl | rfl | rfl | rfl
  · exact (wd hw 6 rfl)
  · exact (wd hw 5 rfl)
  · exact (wd hw 19 rfl)
  · exact (wd hw 20 rfl)
  · exact (wd hw 21 rfl)
  · exact (wd hw 22 rfl)
  · exact (wd hw 23 rfl)
theorem own_EW {Z : State} {a0 : Array Value} (hw : ∀ d ∈ tables_1, d.before a0 Z = true) : EW Z a0 consts_1 := (EW.cons (wd hw 18 rfl) (by decide) EW.nil)
theorem d3_0 : decode jdk_42_method_149_code 0 = .ok (.aload_n 0, 1) := by decide +kernel
theorem d3_1 : decode jdk_42_method_149_code 1 = .ok (.invokespecial 1, 3) := by decide +kernel
theorem d3_4 : decode jdk_42_method_149_code 4 = .ok (.iload_n 3, 1) := by decide +kernel
theorem d3_5 : decode jdk_42_method_149_code 5 = .ok (.ifCond .ne 22, 3) := by decide +kernel
theorem d3_8 : decode jdk_42_method_149_code 8 = .ok (.aload_n 0, 1) := by decide +kernel
theorem d3_9 : decode jdk_42_method_149_code 9 = .ok (.ldc 7, 2) := by decide +kernel
theorem d3_11 : decode jdk_42_method_149_code 11 = .ok (.getfield 9, 3) := by decide +kernel
theorem d3_14 : decode jdk_42_method_149_code 14 = .ok (.putfield 9, 3) := by decide +kernel
theorem d3_17 : decode jdk_42_method_149_code 17 = .ok (.aload_n 0, 1) := by decide +kernel
theorem d3_18 : decode jdk_42_method_149_code 18 = .ok (.ldc 7, 2) := by decide +kernel
theorem d3_20 : decode jdk_42_method_149_code 20 = .ok (.getfield 15, 3) := by decide +kernel
theorem d3_23 : decode jdk_42_method_149_code 23 = .ok (.putfield 15, 3) := by decide +kernel
theorem d3_26 : decode jdk_42_method_149_code 26 = .ok (.return_, 1) := by decide +kernel
theorem pn_0 : plainName "java/lang/String" = true := by first | (simp [plainName, overriddenIn]; done) | decide +kernel
theorem ef_ini4_0 (m : MethodId) (x0 : Addr) (x1 : Addr) (x2 : Int32) (x3 : Int32) : entryFrame m #[(.ref x0), (.ref x1), (.int x2), (.int x3), .null] 6 = mkF m 0 #[rv x0, rv x1, iv x2, iv x3, .val .null, .unset] [] := by first | (simp [entryFrame, mkF, argsToLocals, Value.category]; done) | rfl
def Q_ini4_0 (Z : State) (a : Addr) (va : Addr) (kc : ClassId) (h0 : Heap) (n0 : Nat) (v : Option Value) (h : Heap) (L : List Loc) : Prop := ∃ (t : Addr) (kb : ClassId), (v = none) ∧ (Fr n0 L) ∧ (Keep h0 h [a]) ∧ (Exa Z h a "java/lang/String") ∧ (Fld Z h a "java/lang/String" "coder" "B" (.int (0 : Int32))) ∧ (Fld Z h a "java/lang/String" "value" "[B" (.ref t)) ∧ (Arv Z h t kb .byte (0 : Int32) [] (.int (0 : Int32)))
set_option maxRecDepth 65536 in
set_option maxHeartbeats 40000000 in
theorem rm_ini4_0 (l : Launch) (Z : State) (a0 : Array Value) (hw : ∀ d ∈ tables_1, d.before a0 Z = true) (ws : List Jvm.Cond) (a : Addr) (va : Addr) (kc : ClassId) (h0 : Heap) (n0 : Nat) (O0 : Old Z n0 h0) (EA : Exa Z h0 a "java/lang/String") (FV : Fld Z h0 a "java/lang/String" "value" "[B" .null) (FC : Fld Z h0 a "java/lang/String" "coder" "B" (.int (0 : Int32))) (fa : n0 ≤ a) (VA : Arv Z h0 va kc .char (0 : Int32) [] (.int (0 : Int32))) :
    MetFree l own_m0 (head1 (Jvm.Cond.code own_m0 jdk_42_method_149_code 6 none :: ws) ({ frames := 1, cells := 4, slots := 8, locals := 12 } : Room)) (fun ar_ U => ar_ = #[(.ref a), (.ref va), (.int (0 : Int32)), (.int (0 : Int32)), .null] ∧ Z.Warmed39 U.vm ∧ U.heap = h0 ∧ CHv Z consts_1 U.vm h0 ∧ ∀ x ∈ ([a] : List Addr), Safe Z consts_1 U.vm h0 x) (fun _ _ _ _ _ => True) (fun _ U o U' => ∃ v L, o = .returned v ∧ Q_ini4_0 Z a va kc h0 n0 v U'.heap L ∧ CHr Z consts_1 U.vm U.heap U'.vm U'.heap ∧ ReturnedEndW U o U' L ({ frames := 1, cells := 4, slots := 8, locals := 12 } : Room).cells ({ frames := 1, cells := 4, slots := 8, locals := 12 } : Room).slots) := by
  refine MetFree.of_bodySF (plainFor_of_name pn_0) hisR ?_
  intro p e s m args below meth c s₁ Bd hml0 hP hK
  obtain ⟨rfl, hZ, hh, CH0, SF0⟩ := hP
  have hx := Bd.exec
  have hby := Bd.bytes
  have hml : c.maxLocals = 6 := hml0
  have hown : s.vm.findClass "java/lang/String" = some m.cls := findClass_of_methodNamed Bd.named
  have hnm := (name_of_methodNamed Bd.named Bd.method).1
  have X0 : Stand p l e ({ frames := 1, cells := 4, slots := 8, locals := 12 } : Room) (s.setVm s.vm) m #[(.ref a), (.ref va), (.int (0 : Int32)), (.int (0 : Int32)), .null] below meth c s₁ [] 0 0 := Stand.of_body Bd
  have e0 : s₁.heap = h0 := by rw [← hh, Bd.state]; rfl
  have N0 := Fr.nil n0
  have hret := Bd.returns
  have hlk : meth.locks = false := Bd.notSynchronized
  have hEL := own_EW hw
  have hZs := hZ
  have howns := hown
  have hS0 : s.Since s.vm s.heap.size := (State.WarmedH.refl s).since _
  have hk0 : s.heap.size ≤ h0.size := Nat.le_of_eq (by rw [hh])
  have CR0 := CHr.refl CH0
  have sf_a := SF0 _ (List.mem_of_getElem? (i := 0) rfl)
  refine own_W0 hh ?_
  show own_W p e below s ({ frames := 1, cells := 4, slots := 8, locals := 12 } : Room).cells ({ frames := 1, cells := 4, slots := 8, locals := 12 } : Room).slots Z consts_1 h0 (Q_ini4_0 Z a va kc h0 n0) s₁ (entryFrame m #[(.ref a), (.ref va), (.int (0 : Int32)), (.int (0 : Int32)), .null] 6)
  rw [ef_ini4_0 m a va (0 : Int32) (0 : Int32)]
  refine own_stW (T' := s₁) (g' := (mkF m 1 #[rv a, rv va, iv (0 : Int32), iv (0 : Int32), .val .null, .unset] [(.ref a)])) (fun _ k_ => XS.aloadN X0.here hx rfl (hb hby d3_0) rfl rfl  k_) ?_
  obtain ⟨T1, X1, e1, st1⟩ := initO X0 hx hZ hown (wd hw 15 rfl) (wd hw 16 rfl) (wd hw 17 rfl) e0 (g := (mkF m 1 #[rv a, rv va, iv (0 : Int32), iv (0 : Int32), .val .null, .unset] [(.ref a)])) rfl (by rw [hml]; rfl) rfl (hb hby d3_1) (by decide) (W := 0) (by show 2 * 0 + _ ≤ _; exact Nat.le_of_eq rfl) (by decide)
  refine own_stW (T' := T1) (g' := (mkF m 4 #[rv a, rv va, iv (0 : Int32), iv (0 : Int32), .val .null, .unset] [])) st1 ?_
  clear st1
  refine own_stW (T' := T1) (g' := (mkF m 5 #[rv a, rv va, iv (0 : Int32), iv (0 : Int32), .val .null, .unset] [(.int (0 : Int32))])) (fun _ k_ => XS.iloadN X1.here hx rfl (hb hby d3_4) rfl  k_) ?_
  refine own_stW (T' := T1) (g' := (mkF m 8 #[rv a, rv va, iv (0 : Int32), iv (0 : Int32), .val .null, .unset] [])) (fun _ k_ => XS.ifNo X1.here hx rfl (hb hby d3_5) rfl ((if0 _ _).trans (teq (rfl : (0 : Int32) = (0 : Int32))).2) k_) ?_
  refine own_stW (T' := T1) (g' := (mkF m 9 #[rv a, rv va, iv (0 : Int32), iv (0 : Int32), .val .null, .unset] [(.ref a)])) (fun _ k_ => XS.aloadN X1.here hx rfl (hb hby d3_8) rfl rfl  k_) ?_
  obtain ⟨a2, T2, h2, k2, b2, kb2, X2, e2, E2, hS2, hk2, hZ2, hown2, A2, C2, V2, R2, la2, lb2, ch2, Lt2, nl2, st2⟩ := ldcCH X1 hx hZ hown (wd hw 18 rfl) (own_wS hw) e1 hS0 hk0 hEL (List.mem_of_getElem? (i := 0) rfl) CR0.1 (vs := []) (z := (0 : Int32)) ⟨by decide, by decide⟩ (by decide) (by decide) (g := (mkF m 9 #[rv a, rv va, iv (0 : Int32), iv (0 : Int32), .val .null, .unset] [(.ref a)])) rfl (hb hby d3_9) (n := 0) (by decide) (by decide) (by decide) (by decide)
  have CR3 := CR0.trans ch2
  have sf4 : Safe Z consts_1 T2.vm h2 a := ch2.safe EA.lt sf_a
  refine own_stW (T' := T2) (g' := (mkF m 11 #[rv a, rv va, iv (0 : Int32), iv (0 : Int32), .val .null, .unset] [(.ref a2), (.ref a)])) st2 ?_
  clear st2
  obtain ⟨T5, X5, e5, st5⟩ := getF X2 hx hZ2 hown2 (host := "") (Or.inl (wd hw 24 rfl)) Via.refl e2 V2 (g := (mkF m 11 #[rv a, rv va, iv (0 : Int32), iv (0 : Int32), .val .null, .unset] [(.ref a2), (.ref a)])) rfl rfl (hb hby d3_11)
  refine own_stW (T' := T5) (g' := (mkF m 14 #[rv a, rv va, iv (0 : Int32), iv (0 : Int32), .val .null, .unset] [(.ref b2), (.ref a)])) st5 ?_
  clear st5
  have f6 := EA.ext E2
  have f7 := FV.ext E2
  obtain ⟨T8, h8, X8, e8, W8, st8⟩ := putF X5 hx hZ2 hown2 (host := "") (Or.inl (wd hw 24 rfl)) Via.refl e5 f7 f6 (Or.inr ⟨(wd hw 20 rfl), rfl, hnm⟩) (wd hw 5 rfl) (ty := (.array .byte)) (by decide) rfl rfl (g := (mkF m 14 #[rv a, rv va, iv (0 : Int32), iv (0 : Int32), .val .null, .unset] [(.ref b2), (.ref a)])) rfl rfl (hb hby d3_14)
  have CR9 := CR3.trans (CHr.wr W8 sf4 CR3.1)
  have sf10 : Safe Z consts_1 T2.vm h8 a := Safe.wr W8 sf4 CR3.1 sf4
  have Fw8 : Fld Z h8 a "java/lang/String" "value" "[B" (.ref b2) := Fld.same W8 f7
  have N8 := Fr.snoc X8 N0 fa
  refine own_stW (T' := T8) (g' := (mkF m 17 #[rv a, rv va, iv (0 : Int32), iv (0 : Int32), .val .null, .unset] [])) st8 ?_
  clear st8
  refine own_stW (T' := T8) (g' := (mkF m 18 #[rv a, rv va, iv (0 : Int32), iv (0 : Int32), .val .null, .unset] [(.ref a)])) (fun _ k_ => XS.aloadN X8.here hx rfl (hb hby d3_17) rfl rfl  k_) ?_
  obtain ⟨a11, T11, h11, k11, b11, kb11, X11, e11, E11, hS11, hk11, hZ11, hown11, A11, C11, V11, R11, la11, lb11, ch11, Lt11, nl11, st11⟩ := ldcCH X8 hx hZ2 hown2 (wd hw 18 rfl) (own_wS hw) e8 hS2 (Nat.le_trans hk2 (Nat.le_of_eq (Wr.size W8).symm)) hEL (List.mem_of_getElem? (i := 0) rfl) CR9.1 (vs := []) (z := (0 : Int32)) ⟨by decide, by decide⟩ (by decide) (by decide) (g := (mkF m 18 #[rv a, rv va, iv (0 : Int32), iv (0 : Int32), .val .null, .unset] [(.ref a)])) rfl (hb hby d3_18) (n := 0) (by decide) (by decide) (by decide) (by decide)
  have CR12 := CR9.trans ch11
  have sf13 : Safe Z consts_1 T11.vm h11 a := ch11.safe (Nat.lt_of_lt_of_le (Nat.lt_of_lt_of_le EA.lt E2.1) (Nat.le_of_eq (Wr.size W8).symm)) sf10
  refine own_stW (T' := T11) (g' := (mkF m 20 #[rv a, rv va, iv (0 : Int32), iv (0 : Int32), .val .null, .unset] [(.ref a11), (.ref a)])) st11 ?_
  clear st11
  obtain ⟨T14, X14, e14, st14⟩ := getF X11 hx hZ11 hown11 (host := "") (Or.inl (wd hw 25 rfl)) Via.refl e11 C11 (g := (mkF m 20 #[rv a, rv va, iv (0 : Int32), iv (0 : Int32), .val .null, .unset] [(.ref a11), (.ref a)])) rfl rfl (hb hby d3_20)
  refine own_stW (T' := T14) (g' := (mkF m 23 #[rv a, rv va, iv (0 : Int32), iv (0 : Int32), .val .null, .unset] [(.int (0 : Int32)), (.ref a)])) st14 ?_
  clear st14
  have f15 := f6.wr W8
  have f16 := f15.ext E11
  have f17 := FC.ext E2
  have f18 := f17.other W8 (Or.inr (slot_ne (Or.inr (wd hw 21 rfl)) (Or.inr (wd hw 20 rfl)) (by decide) (t := .byte) (t' := (.array .byte)) (by decide) (by decide)))
  have f19 := f18.ext E11
  obtain ⟨T20, h20, X20, e20, W20, st20⟩ := putFN X14 hx hZ11 hown11 (wd hw 25 rfl) Via.refl e14 f19 f16 (Or.inr ⟨(wd hw 21 rfl), rfl, hnm⟩) (wd hw 5 rfl) (ty := .byte) (v' := (.int (0 : Int32))) (by decide) rfl (by decide) (g := (mkF m 23 #[rv a, rv va, iv (0 : Int32), iv (0 : Int32), .val .null, .unset] [(.int (0 : Int32)), (.ref a)])) rfl rfl (hb hby d3_23)
  have CR21 := CR12.trans (CHr.wr W20 sf13 CR12.1)
  have sf22 : Safe Z consts_1 T11.vm h20 a := Safe.wr W20 sf13 CR12.1 sf13
  have Fw20 : Fld Z h20 a "java/lang/String" "coder" "B" (.int (0 : Int32)) := Fld.same W20 f19
  have N20 := Fr.snoc X20 N8 fa
  refine own_stW (T' := T20) (g' := (mkF m 26 #[rv a, rv va, iv (0 : Int32), iv (0 : Int32), .val .null, .unset] [])) st20 ?_
  clear st20
  have f23 := (Keep.refl h0 [a]).ext E2
  have f24 := f23.wr W8 (Or.inl (List.mem_of_getElem? (i := 0) rfl))
  have f25 := f24.ext E11
  have f26 := f25.wr W20 (Or.inl (List.mem_of_getElem? (i := 0) rfl))
  have f27 := f16.wr W20
  have f28 := Fw8.ext E11
  have f29 := f28.other W20 (Or.inr (slot_ne (Or.inr (wd hw 20 rfl)) (Or.inr (wd hw 21 rfl)) (by decide) (t := (.array .byte)) (t' := .byte) (by decide) (by decide)))
  have f30 := R2.other W8 (Ne.symm (nl2 _ sf4).2)
  have f31 := f30.ext E11
  have f32 := f31.other W20 (Ne.symm (nl2 _ sf4).2)
  exact own_retVW X20 hZ11 hS11 (by rw [e20]; exact (Nat.le_trans hk11 (Nat.le_of_eq (Wr.size W20).symm))) hEL (by rw [e20]; exact CR21) hx hret hlk (hb hby d3_26) (by decide) (by decide) (by rw [e20]; exact ⟨b2, kb2, rfl, N20, f26, f27, Fw20, f29, f32⟩)
theorem d2_0 : decode jdk_42_method_3_code 0 = .ok (.aload_n 0, 1) := by decide +kernel
theorem d2_1 : decode jdk_42_method_3_code 1 = .ok (.aload_n 1, 1) := by decide +kernel
theorem d2_2 : decode jdk_42_method_3_code 2 = .ok (.iconst 0, 1) := by decide +kernel
theorem d2_3 : decode jdk_42_method_3_code 3 = .ok (.aload_n 1, 1) := by decide +kernel
theorem d2_4 : decode jdk_42_method_3_code 4 = .ok (.arraylength, 1) := by decide +kernel
theorem d2_5 : decode jdk_42_method_3_code 5 = .ok (.aconst_null, 1) := by decide +kernel
theorem d2_6 : decode jdk_42_method_3_code 6 = .ok (.invokespecial 27, 3) := by decide +kernel
theorem d2_9 : decode jdk_42_method_3_code 9 = .ok (.return_, 1) := by decide +kernel
theorem pd___CIILjava_lang_Void__V : parseMethodDescriptor "([CIILjava/lang/Void;)V" = some ⟨[(.array .char), .int, .int, (.object "java/lang/Void")], none⟩ := by decide +kernel
theorem ef_ini1_0 (m : MethodId) (x0 : Addr) (x1 : Addr) : entryFrame m #[(.ref x0), (.ref x1)] 2 = mkF m 0 #[rv x0, rv x1] [] := by first | (simp [entryFrame, mkF, argsToLocals, Value.category]; done) | rfl
def Q_ini1_0 (Z : State) (a : Addr) (va : Addr) (kc : ClassId) (h0 : Heap) (n0 : Nat) (v : Option Value) (h : Heap) (L : List Loc) : Prop := ∃ (t : Addr) (kb : ClassId), (v = none) ∧ (Fr n0 L) ∧ (Keep h0 h [a]) ∧ (Exa Z h a "java/lang/String") ∧ (Fld Z h a "java/lang/String" "coder" "B" (.int (0 : Int32))) ∧ (Fld Z h a "java/lang/String" "value" "[B" (.ref t)) ∧ (Arv Z h t kb .byte (0 : Int32) [] (.int (0 : Int32)))
set_option maxRecDepth 65536 in
set_option maxHeartbeats 40000000 in
theorem rm_ini1_0 (l : Launch) (Z : State) (a0 : Array Value) (hw : ∀ d ∈ tables_1, d.before a0 Z = true) (ws : List Jvm.Cond) (a : Addr) (va : Addr) (kc : ClassId) (h0 : Heap) (n0 : Nat) (O0 : Old Z n0 h0) (EA : Exa Z h0 a "java/lang/String") (FV : Fld Z h0 a "java/lang/String" "value" "[B" .null) (FC : Fld Z h0 a "java/lang/String" "coder" "B" (.int (0 : Int32))) (fa : n0 ≤ a) (VA : Arv Z h0 va kc .char (0 : Int32) [] (.int (0 : Int32))) :
    MetFree l own_m1 (head1 (Jvm.Cond.code own_m1 jdk_42_method_3_code 2 none :: ws) ({ frames := 2, cells := 4, slots := 8, locals := 29 } : Room)) (fun ar_ U => ar_ = #[(.ref a), (.ref va)] ∧ Z.Warmed39 U.vm ∧ U.heap = h0 ∧ CHv Z consts_1 U.vm h0 ∧ ∀ x ∈ ([a] : List Addr), Safe Z consts_1 U.vm h0 x) (fun _ _ _ _ _ => True) (fun _ U o U' => ∃ v L, o = .returned v ∧ Q_ini1_0 Z a va kc h0 n0 v U'.heap L ∧ CHr Z consts_1 U.vm U.heap U'.vm U'.heap ∧ ReturnedEndW U o U' L ({ frames := 2, cells := 4, slots := 8, locals := 29 } : Room).cells ({ frames := 2, cells := 4, slots := 8, locals := 29 } : Room).slots) := by
  refine MetFree.of_bodySF (plainFor_of_name pn_0) hisR ?_
  intro p e s m args below meth c s₁ Bd hml0 hP hK
  obtain ⟨rfl, hZ, hh, CH0, SF0⟩ := hP
  have hx := Bd.exec
  have hby := Bd.bytes
  have hml : c.maxLocals = 2 := hml0
  have hown : s.vm.findClass "java/lang/String" = some m.cls := findClass_of_methodNamed Bd.named
  have hnm := (name_of_methodNamed Bd.named Bd.method).1
  have X0 : Stand p l e ({ frames := 2, cells := 4, slots := 8, locals := 29 } : Room) (s.setVm s.vm) m #[(.ref a), (.ref va)] below meth c s₁ [] 0 0 := Stand.of_body Bd
  have e0 : s₁.heap = h0 := by rw [← hh, Bd.state]; rfl
  have N0 := Fr.nil n0
  have hret := Bd.returns
  have hlk : meth.locks = false := Bd.notSynchronized
  have hEL := own_EW hw
  have hZs := hZ
  have howns := hown
  have hS0 : s.Since s.vm s.heap.size := (State.WarmedH.refl s).since _
  have hk0 : s.heap.size ≤ h0.size := Nat.le_of_eq (by rw [hh])
  have CR0 := CHr.refl CH0
  have sf_a := SF0 _ (List.mem_of_getElem? (i := 0) rfl)
  refine own_W0 hh ?_
  show own_W p e below s ({ frames := 2, cells := 4, slots := 8, locals := 29 } : Room).cells ({ frames := 2, cells := 4, slots := 8, locals := 29 } : Room).slots Z consts_1 h0 (Q_ini1_0 Z a va kc h0 n0) s₁ (entryFrame m #[(.ref a), (.ref va)] 2)
  rw [ef_ini1_0 m a va]
  refine own_stW (T' := s₁) (g' := (mkF m 1 #[rv a, rv va] [(.ref a)])) (fun _ k_ => XS.aloadN X0.here hx rfl (hb hby d2_0) rfl rfl  k_) ?_
  refine own_stW (T' := s₁) (g' := (mkF m 2 #[rv a, rv va] [(.ref va), (.ref a)])) (fun _ k_ => XS.aloadN X0.here hx rfl (hb hby d2_1) rfl rfl  k_) ?_
  refine own_stW (T' := s₁) (g' := (mkF m 3 #[rv a, rv va] [(.int (0 : Int32)), (.ref va), (.ref a)])) (fun _ k_ => XS.iconst X0.here hx rfl (hb hby d2_2) k_) ?_
  refine own_stW (T' := s₁) (g' := (mkF m 4 #[rv a, rv va] [(.ref va), (.int (0 : Int32)), (.ref va), (.ref a)])) (fun _ k_ => XS.aloadN X0.here hx rfl (hb hby d2_3) rfl rfl  k_) ?_
  obtain ⟨cl1, Ar1, -, S1, N1, -, -⟩ := id VA
  refine own_stW (T' := s₁) (g' := (mkF m 5 #[rv a, rv va] [(.int (0 : Int32)), (.int (0 : Int32)), (.ref va), (.ref a)])) (fun t_ k_ => X0.arraylength hx (by rw [e0]; exact Ar1.1) (State.isArrayOf_alike hZ.alike Ar1.2.1) (g := (mkF m 4 #[rv a, rv va] [(.ref va), (.int (0 : Int32)), (.ref va), (.ref a)])) rfl rfl (hb hby d2_4) _ (by rw [len_of S1 N1]; exact k_)) ?_
  refine own_stW (T' := s₁) (g' := (mkF m 6 #[rv a, rv va] [.null, (.int (0 : Int32)), (.int (0 : Int32)), (.ref va), (.ref a)])) (fun _ k_ => XS.aconstNull X0.here hx rfl (hb hby d2_5) k_) ?_
  obtain ⟨_, T2, L2, X2, hS2, hQ2, ch2, st2⟩ := own_callIW X0 hx (y := own_m0) rfl hown (mvT hZ (wd hw 11 rfl)) (mvT hZ (wd hw 12 rfl)) (mvT hZ (wd hw 14 rfl)) (by decide) (own_backW (W := 0) (rm_ini4_0 l Z a0 hw [] a va kc h0 n0 O0 EA FV FC fa VA) hZ (wd hw 14 rfl) (wd hw 6 rfl) (by decide) (by decide) hEL CR0.1 (sfS sf_a sf0) (allS EA.lt all0)) (g := (mkF m 6 #[rv a, rv va] [.null, (.int (0 : Int32)), (.int (0 : Int32)), (.ref va), (.ref a)])) rfl (by rw [hml]; rfl) (a := a) (argsL := [(.ref va), (.int (0 : Int32)), (.int (0 : Int32)), .null]) (rest := []) (lenOf pd___CIILjava_lang_Void__V rfl) rfl (by show 2 * 0 + _ ≤ _; exact Nat.le_of_eq rfl) (hb hby d2_6) rfl e0 (by decide) (by decide) (c' := 4) (s' := 8) rfl rfl hS0 hk0
  obtain ⟨t2, kb2, rfl, Nq2, K2, fq2_0, fq2_1, fq2_2, fq2_3⟩ := hQ2
  have N2 := Fr.app N0 Nq2
  have CR3 := CR0.trans ch2
  have sf4 : Safe Z consts_1 T2.vm T2.heap a := ch2.safe EA.lt sf_a
  have hZ2 : Z.Warmed39 (s.setVm T2.vm).vm := own_hZ hZs hS2
  have hown2 : (s.setVm T2.vm).vm.findClass "java/lang/String" = some m.cls := own_hown howns hS2
  refine own_stW (T' := T2) (g' := (mkF m 9 #[rv a, rv va] [])) st2 ?_
  clear st2
  have f5 := (Keep.refl h0 [a]).trans K2 (allS (Or.inl (List.mem_of_getElem? (i := 0) rfl)) all0)
  exact own_retVW X2 hZ2 hS2 (Nat.le_refl _) hEL CR3 hx hret hlk (hb hby d2_9) (by decide) (by decide) ⟨t2, kb2, rfl, N2, f5, fq2_0, fq2_1, fq2_2, fq2_3⟩
theorem d36_0 : decode jdk_52_method_21_code 0 = .ok (.iconst 0, 1) := by decide +kernel
theorem d36_1 : decode jdk_52_method_21_code 1 = .ok (.istore 5, 2) := by decide +kernel
theorem d36_3 : decode jdk_52_method_21_code 3 = .ok (.iload 5, 2) := by decide +kernel
theorem d36_5 : decode jdk_52_method_21_code 5 = .ok (.iload 4, 2) := by decide +kernel
theorem d36_7 : decode jdk_52_method_21_code 7 = .ok (.if_icmp .ge 37, 3) := by decide +kernel
theorem d36_10 : decode jdk_52_method_21_code 10 = .ok (.aload_n 0, 1) := by decide +kernel
theorem d36_11 : decode jdk_52_method_21_code 11 = .ok (.iload_n 1, 1) := by decide +kernel
theorem d36_12 : decode jdk_52_method_21_code 12 = .ok (.caload, 1) := by decide +kernel
theorem d36_13 : decode jdk_52_method_21_code 13 = .ok (.istore 6, 2) := by decide +kernel
theorem d36_15 : decode jdk_52_method_21_code 15 = .ok (.iload 6, 2) := by decide +kernel
theorem d36_17 : decode jdk_52_method_21_code 17 = .ok (.sipush 255, 3) := by decide +kernel
theorem d36_20 : decode jdk_52_method_21_code 20 = .ok (.if_icmp .le 6, 3) := by decide +kernel
theorem d36_26 : decode jdk_52_method_21_code 26 = .ok (.aload_n 2, 1) := by decide +kernel
theorem d36_27 : decode jdk_52_method_21_code 27 = .ok (.iload_n 3, 1) := by decide +kernel
theorem d36_28 : decode jdk_52_method_21_code 28 = .ok (.iload 6, 2) := by decide +kernel
theorem d36_30 : decode jdk_52_method_21_code 30 = .ok (.i2b, 1) := by decide +kernel
theorem d36_31 : decode jdk_52_method_21_code 31 = .ok (.bastore, 1) := by decide +kernel
theorem d36_32 : decode jdk_52_method_21_code 32 = .ok (.iinc 1 1, 3) := by decide +kernel
theorem d36_35 : decode jdk_52_method_21_code 35 = .ok (.iinc 3 1, 3) := by decide +kernel
theorem d36_38 : decode jdk_52_method_21_code 38 = .ok (.iinc 5 1, 3) := by decide +kernel
theorem d36_41 : decode jdk_52_method_21_code 41 = .ok (.goto (-38), 3) := by decide +kernel
theorem d36_44 : decode jdk_52_method_21_code 44 = .ok (.iload 4, 2) := by decide +kernel
theorem d36_46 : decode jdk_52_method_21_code 46 = .ok (.ireturn, 1) := by decide +kernel
theorem pn_1 : plainName "java/lang/StringUTF16" = true := by first | (simp [plainName, overriddenIn]; done) | decide +kernel
theorem ef_cmp5_1 (m : MethodId) (x0 : Addr) (x1 : Int32) (x2 : Addr) (x3 : Int32) (x4 : Int32) : entryFrame m #[(.ref x0), (.int x1), (.ref x2), (.int x3), (.int x4)] 7 = mkF m 0 #[rv x0, iv x1, rv x2, iv x3, iv x4, .unset, .unset] [] := by first | (simp [entryFrame, mkF, argsToLocals, Value.category]; done) | rfl
def Q_cmp5_1 (Z : State) (va : Addr) (da : Addr) (kc : ClassId) (kd : ClassId) (c0 : Int32) (h0 : Heap) (n0 : Nat) (v : Option Value) (h : Heap) (L : List Loc) : Prop := (v = some (.int (1 : Int32))) ∧ (Fr n0 L) ∧ (Keep h0 h [da]) ∧ (Arv Z h da kd .byte (1 : Int32) [(.int (c0.toInt8.toInt32))] (.int (0 : Int32)))
set_option maxRecDepth 65536 in
set_option maxHeartbeats 40000000 in
theorem rm_cmp5_1 (l : Launch) (Z : State) (a0 : Array Value) (hw : ∀ d ∈ tables_1, d.before a0 Z = true) (ws : List Jvm.Cond) (va : Addr) (da : Addr) (kc : ClassId) (kd : ClassId) (c0 : Int32) (h0 : Heap) (n0 : Nat) (O0 : Old Z n0 h0) (VA : Arv Z h0 va kc .char (1 : Int32) [(.int c0)] (.int (0 : Int32))) (VD : Arv Z h0 da kd .byte (1 : Int32) [(.int (0 : Int32))] (.int (0 : Int32))) (nad : va ≠ da) (fda : n0 ≤ da) (hp0 : ¬ (255 : Int32) < c0) :
    own_MF l own_m2 (Jvm.Cond.code own_m2 jdk_52_method_21_code 7 (some .int) :: ws) ({ frames := 0, cells := 0, slots := 0, locals := 0 } : Room) #[(.ref va), (.int (0 : Int32)), (.ref da), (.int (0 : Int32)), (.int (1 : Int32))] Z h0 (Q_cmp5_1 Z va da kc kd c0 h0 n0) := by
  refine own_met (own := "java/lang/StringUTF16") (nme := "compress") rfl rfl (plainFor_of_name pn_1) ?_
  intro p e s m below meth c s₁ hx hby hml hown hnm X0 e0 hret hlk hZ
  have N0 := Fr.nil n0
  rw [ef_cmp5_1 m va (0 : Int32) da (0 : Int32) (1 : Int32)]
  refine own_st (T' := s₁) (g' := (mkF m 1 #[rv va, iv (0 : Int32), rv da, iv (0 : Int32), iv (1 : Int32), .unset, .unset] [(.int (0 : Int32))])) (fun _ k_ => XS.iconst X0.here hx rfl (hb hby d36_0) k_) ?_
  refine own_st (T' := s₁) (g' := (mkF m 3 #[rv va, iv (0 : Int32), rv da, iv (0 : Int32), iv (1 : Int32), iv (0 : Int32), .unset] [])) (fun _ k_ => XS.istore X0.here hx rfl (hb hby d36_1) rfl (l' := #[rv va, iv (0 : Int32), rv da, iv (0 : Int32), iv (1 : Int32), iv (0 : Int32), .unset]) rfl k_) ?_
  refine own_st (T' := s₁) (g' := (mkF m 5 #[rv va, iv (0 : Int32), rv da, iv (0 : Int32), iv (1 : Int32), iv (0 : Int32), .unset] [(.int (0 : Int32))])) (fun _ k_ => XS.iload X0.here hx rfl (hb hby d36_3) rfl  k_) ?_
  refine own_st (T' := s₁) (g' := (mkF m 7 #[rv va, iv (0 : Int32), rv da, iv (0 : Int32), iv (1 : Int32), iv (0 : Int32), .unset] [(.int (1 : Int32)), (.int (0 : Int32))])) (fun _ k_ => XS.iload X0.here hx rfl (hb hby d36_5) rfl  k_) ?_
  refine own_st (T' := s₁) (g' := (mkF m 10 #[rv va, iv (0 : Int32), rv da, iv (0 : Int32), iv (1 : Int32), iv (0 : Int32), .unset] [])) (fun _ k_ => XS.icmpNo X0.here hx rfl (hb hby d36_7) rfl (tlt (by decide : (0 : Int32) < (1 : Int32))).2.1 k_) ?_
  refine own_st (T' := s₁) (g' := (mkF m 11 #[rv va, iv (0 : Int32), rv da, iv (0 : Int32), iv (1 : Int32), iv (0 : Int32), .unset] [(.ref va)])) (fun _ k_ => XS.aloadN X0.here hx rfl (hb hby d36_10) rfl rfl  k_) ?_
  refine own_st (T' := s₁) (g' := (mkF m 12 #[rv va, iv (0 : Int32), rv da, iv (0 : Int32), iv (1 : Int32), iv (0 : Int32), .unset] [(.int (0 : Int32)), (.ref va)])) (fun _ k_ => XS.iloadN X0.here hx rfl (hb hby d36_11) rfl  k_) ?_
  obtain ⟨cl1, Ar1, q1, S1, N1, H1, G1⟩ := id VA
  have hin1 : ¬ ((0 : Int32) < 0 ∨ cl1.slots.size ≤ ((0 : Int32)).toNatClampNeg) := inb_of S1 ⟨by decide, by decide⟩
  refine own_st (T' := s₁) (g' := (mkF m 13 #[rv va, iv (0 : Int32), rv da, iv (0 : Int32), iv (1 : Int32), iv (0 : Int32), .unset] [(.int c0)])) (X0.caload hx (j := (0 : Int32)) (v := (.int c0)) (by rw [e0]; exact Ar1.1) (State.isArrayOf_alike hZ.alike Ar1.2.1) Ar1.2.2 hin1 (H1.at hin1 rfl) (g := (mkF m 12 #[rv va, iv (0 : Int32), rv da, iv (0 : Int32), iv (1 : Int32), iv (0 : Int32), .unset] [(.int (0 : Int32)), (.ref va)])) rfl rfl (hb hby d36_12)) ?_
  clear hin1 G1 H1 N1 S1 q1 Ar1 cl1
  refine own_st (T' := s₁) (g' := (mkF m 15 #[rv va, iv (0 : Int32), rv da, iv (0 : Int32), iv (1 : Int32), iv (0 : Int32), iv c0] [])) (fun _ k_ => XS.istore X0.here hx rfl (hb hby d36_13) rfl (l' := #[rv va, iv (0 : Int32), rv da, iv (0 : Int32), iv (1 : Int32), iv (0 : Int32), iv c0]) rfl k_) ?_
  refine own_st (T' := s₁) (g' := (mkF m 17 #[rv va, iv (0 : Int32), rv da, iv (0 : Int32), iv (1 : Int32), iv (0 : Int32), iv c0] [(.int c0)])) (fun _ k_ => XS.iload X0.here hx rfl (hb hby d36_15) rfl  k_) ?_
  refine own_st (T' := s₁) (g' := (mkF m 20 #[rv va, iv (0 : Int32), rv da, iv (0 : Int32), iv (1 : Int32), iv (0 : Int32), iv c0] [(.int (255 : Int32)), (.int c0)])) (fun _ k_ => XS.sipush X0.here hx rfl (hb hby d36_17) k_) ?_
  refine own_st (T' := s₁) (g' := (mkF m 26 #[rv va, iv (0 : Int32), rv da, iv (0 : Int32), iv (1 : Int32), iv (0 : Int32), iv c0] [])) (fun _ k_ => XS.icmpYes X0.here hx rfl (pc0 := 20) (pc' := 26) rfl (hb hby d36_20) rfl (flt (hp0 : ¬ ((255 : Int32) < c0))).2.2.2 (by decide) (by decide) k_) ?_
  refine own_st (T' := s₁) (g' := (mkF m 27 #[rv va, iv (0 : Int32), rv da, iv (0 : Int32), iv (1 : Int32), iv (0 : Int32), iv c0] [(.ref da)])) (fun _ k_ => XS.aloadN X0.here hx rfl (hb hby d36_26) rfl rfl  k_) ?_
  refine own_st (T' := s₁) (g' := (mkF m 28 #[rv va, iv (0 : Int32), rv da, iv (0 : Int32), iv (1 : Int32), iv (0 : Int32), iv c0] [(.int (0 : Int32)), (.ref da)])) (fun _ k_ => XS.iloadN X0.here hx rfl (hb hby d36_27) rfl  k_) ?_
  refine own_st (T' := s₁) (g' := (mkF m 30 #[rv va, iv (0 : Int32), rv da, iv (0 : Int32), iv (1 : Int32), iv (0 : Int32), iv c0] [(.int c0), (.int (0 : Int32)), (.ref da)])) (fun _ k_ => XS.iload X0.here hx rfl (hb hby d36_28) rfl  k_) ?_
  refine own_st (T' := s₁) (g' := (mkF m 31 #[rv va, iv (0 : Int32), rv da, iv (0 : Int32), iv (1 : Int32), iv (0 : Int32), iv c0] [(.int (c0.toInt8.toInt32)), (.int (0 : Int32)), (.ref da)])) (fun _ k_ => XS.i2b X0.here hx rfl (hb hby d36_30) rfl k_) ?_
  obtain ⟨cl2, Ar2, q2, S2, N2, H2, G2⟩ := id VD
  have hin2 : ¬ ((0 : Int32) < 0 ∨ cl2.slots.size ≤ ((0 : Int32)).toNatClampNeg) := inb_of S2 ⟨by decide, by decide⟩
  obtain ⟨T3, h3, X3, e3, W3, st3⟩ := stB X0 hx hZ e0 Ar2 (j := (0 : Int32)) hin2 (g := (mkF m 31 #[rv va, iv (0 : Int32), rv da, iv (0 : Int32), iv (1 : Int32), iv (0 : Int32), iv c0] [(.int (c0.toInt8.toInt32)), (.int (0 : Int32)), (.ref da)])) rfl rfl (hb hby d36_31)
  have V3 : Arv Z h3 da kd .byte (1 : Int32) [(.int (nar .byte (c0.toInt8.toInt32)))] (.int (0 : Int32)) := Arv.set Ar2 q2 S2 N2 H2 G2 (fits_nar_byte _) W3 0 rfl (Nat.le_of_ble_eq_true rfl)
  have Vn3 : Arv Z h3 da kd .byte (1 : Int32) [(.int (c0.toInt8.toInt32))] (.int (0 : Int32)) := by simpa only [own_bb] using V3
  have Nx3 := Fr.snoc X3 N0 fda
  refine own_st (T' := T3) (g' := (mkF m 32 #[rv va, iv (0 : Int32), rv da, iv (0 : Int32), iv (1 : Int32), iv (0 : Int32), iv c0] [])) st3 ?_
  clear hin2 G2 H2 N2 S2 q2 Ar2 cl2 st3
  refine own_st (T' := T3) (g' := (mkF m 35 #[rv va, iv (1 : Int32), rv da, iv (0 : Int32), iv (1 : Int32), iv (0 : Int32), iv c0] [])) (fun _ k_ => XS.iinc X3.here hx rfl (hb hby d36_32) rfl (l' := #[rv va, iv (1 : Int32), rv da, iv (0 : Int32), iv (1 : Int32), iv (0 : Int32), iv c0]) rfl k_) ?_
  refine own_st (T' := T3) (g' := (mkF m 38 #[rv va, iv (1 : Int32), rv da, iv (1 : Int32), iv (1 : Int32), iv (0 : Int32), iv c0] [])) (fun _ k_ => XS.iinc X3.here hx rfl (hb hby d36_35) rfl (l' := #[rv va, iv (1 : Int32), rv da, iv (1 : Int32), iv (1 : Int32), iv (0 : Int32), iv c0]) rfl k_) ?_
  refine own_st (T' := T3) (g' := (mkF m 41 #[rv va, iv (1 : Int32), rv da, iv (1 : Int32), iv (1 : Int32), iv (1 : Int32), iv c0] [])) (fun _ k_ => XS.iinc X3.here hx rfl (hb hby d36_38) rfl (l' := #[rv va, iv (1 : Int32), rv da, iv (1 : Int32), iv (1 : Int32), iv (1 : Int32), iv c0]) rfl k_) ?_
  refine own_st (T' := T3) (g' := (mkF m 3 #[rv va, iv (1 : Int32), rv da, iv (1 : Int32), iv (1 : Int32), iv (1 : Int32), iv c0] [])) (fun _ k_ => XS.goto X3.here hx rfl (pc0 := 41) (pc' := 3) rfl (hb hby d36_41) (by decide) (by decide) k_) ?_
  refine own_st (T' := T3) (g' := (mkF m 5 #[rv va, iv (1 : Int32), rv da, iv (1 : Int32), iv (1 : Int32), iv (1 : Int32), iv c0] [(.int (1 : Int32))])) (fun _ k_ => XS.iload X3.here hx rfl (hb hby d36_3) rfl  k_) ?_
  refine own_st (T' := T3) (g' := (mkF m 7 #[rv va, iv (1 : Int32), rv da, iv (1 : Int32), iv (1 : Int32), iv (1 : Int32), iv c0] [(.int (1 : Int32)), (.int (1 : Int32))])) (fun _ k_ => XS.iload X3.here hx rfl (hb hby d36_5) rfl  k_) ?_
  refine own_st (T' := T3) (g' := (mkF m 44 #[rv va, iv (1 : Int32), rv da, iv (1 : Int32), iv (1 : Int32), iv (1 : Int32), iv c0] [])) (fun _ k_ => XS.icmpYes X3.here hx rfl (pc0 := 7) (pc' := 44) rfl (hb hby d36_7) rfl (flt (by decide : ¬ ((1 : Int32) < (1 : Int32)))).2.1 (by decide) (by decide) k_) ?_
  refine own_st (T' := T3) (g' := (mkF m 46 #[rv va, iv (1 : Int32), rv da, iv (1 : Int32), iv (1 : Int32), iv (1 : Int32), iv c0] [(.int (1 : Int32))])) (fun _ k_ => XS.iload X3.here hx rfl (hb hby d36_44) rfl  k_) ?_
  have f4 := (Keep.refl h0 [da]).wr W3 (Or.inl (List.mem_of_getElem? (i := 0) rfl))
  exact own_retI X3 hx hret hlk (hb hby d36_46) (by decide) (by decide) (by rw [e3]; exact ⟨rfl, Nx3, f4, Vn3⟩)
theorem d35_0 : decode jdk_52_method_16_code 0 = .ok (.iload_n 2, 1) := by decide +kernel
theorem d35_1 : decode jdk_52_method_16_code 1 = .ok (.newarray .byte, 2) := by decide +kernel
theorem d35_3 : decode jdk_52_method_16_code 3 = .ok (.astore_n 3, 1) := by decide +kernel
theorem d35_4 : decode jdk_52_method_16_code 4 = .ok (.aload_n 0, 1) := by decide +kernel
theorem d35_5 : decode jdk_52_method_16_code 5 = .ok (.iload_n 1, 1) := by decide +kernel
theorem d35_6 : decode jdk_52_method_16_code 6 = .ok (.aload_n 3, 1) := by decide +kernel
theorem d35_7 : decode jdk_52_method_16_code 7 = .ok (.iconst 0, 1) := by decide +kernel
theorem d35_8 : decode jdk_52_method_16_code 8 = .ok (.iload_n 2, 1) := by decide +kernel
theorem d35_9 : decode jdk_52_method_16_code 9 = .ok (.invokestatic 115, 3) := by decide +kernel
theorem d35_12 : decode jdk_52_method_16_code 12 = .ok (.istore 4, 2) := by decide +kernel
theorem d35_14 : decode jdk_52_method_16_code 14 = .ok (.iload 4, 2) := by decide +kernel
theorem d35_16 : decode jdk_52_method_16_code 16 = .ok (.iload_n 2, 1) := by decide +kernel
theorem d35_17 : decode jdk_52_method_16_code 17 = .ok (.if_icmp .eq 40, 3) := by decide +kernel
theorem d35_57 : decode jdk_52_method_16_code 57 = .ok (.aload_n 3, 1) := by decide +kernel
theorem d35_58 : decode jdk_52_method_16_code 58 = .ok (.areturn, 1) := by decide +kernel
theorem pd___CI_BII_I : parseMethodDescriptor "([CI[BII)I" = some ⟨[(.array .char), .int, (.array .byte), .int, .int], some .int⟩ := by decide +kernel
theorem ef_cmp3_1 (m : MethodId) (x0 : Addr) (x1 : Int32) (x2 : Int32) : entryFrame m #[(.ref x0), (.int x1), (.int x2)] 6 = mkF m 0 #[rv x0, iv x1, iv x2, .unset, .unset, .unset] [] := by first | (simp [entryFrame, mkF, argsToLocals, Value.category]; done) | rfl
def Q_cmp3_1 (Z : State) (va : Addr) (kc : ClassId) (c0 : Int32) (h0 : Heap) (n0 : Nat) (v : Option Value) (h : Heap) (L : List Loc) : Prop := ∃ (t : Addr) (kb : ClassId), (v = some (.ref t)) ∧ (Fr n0 L) ∧ (Keep h0 h []) ∧ (Arv Z h t kb .byte (1 : Int32) [(.int (c0.toInt8.toInt32))] (.int (0 : Int32))) ∧ (h0.size ≤ t)
set_option maxRecDepth 65536 in
set_option maxHeartbeats 40000000 in
theorem rm_cmp3_1 (l : Launch) (Z : State) (a0 : Array Value) (hw : ∀ d ∈ tables_1, d.before a0 Z = true) (ws : List Jvm.Cond) (va : Addr) (kc : ClassId) (c0 : Int32) (h0 : Heap) (n0 : Nat) (O0 : Old Z n0 h0) (VA : Arv Z h0 va kc .char (1 : Int32) [(.int c0)] (.int (0 : Int32))) (hp0 : ¬ (255 : Int32) < c0) :
    own_MF l own_m3 (Jvm.Cond.code own_m3 jdk_52_method_16_code 6 (some (.array .byte)) :: ws) ({ frames := 1, cells := 1, slots := 1, locals := 18 } : Room) #[(.ref va), (.int (0 : Int32)), (.int (1 : Int32))] Z h0 (Q_cmp3_1 Z va kc c0 h0 n0) := by
  refine own_met (own := "java/lang/StringUTF16") (nme := "compress") rfl rfl (plainFor_of_name pn_1) ?_
  intro p e s m below meth c s₁ hx hby hml hown hnm X0 e0 hret hlk hZ
  have N0 := Fr.nil n0
  rw [ef_cmp3_1 m va (0 : Int32) (1 : Int32)]
  refine own_st (T' := s₁) (g' := (mkF m 1 #[rv va, iv (0 : Int32), iv (1 : Int32), .unset, .unset, .unset] [(.int (1 : Int32))])) (fun _ k_ => XS.iloadN X0.here hx rfl (hb hby d35_0) rfl  k_) ?_
  obtain ⟨T1, h1, k1, X1, e1, E1, A1, st1⟩ := newP X0 hx hZ (wd hw 19 rfl) e0 (g := (mkF m 1 #[rv va, iv (0 : Int32), iv (1 : Int32), .unset, .unset, .unset] [(.int (1 : Int32))])) rfl (hb hby d35_1) rfl (by decide) (cap := 1) (by decide) (by decide) (by decide) (by decide)
  obtain ⟨b1, g1⟩ : ∃ z, z = h0.size := ⟨_, rfl⟩
  rw [← g1] at A1 st1
  have fr1 : n0 ≤ b1 := Nat.le_trans (own_z O0) (Nat.le_of_eq g1.symm)
  have sz1 : h0.size ≤ b1 := Nat.le_trans (Keep.refl h0 []).1 (Nat.le_of_eq g1.symm)
  have V1 : Arv Z h1 b1 k1 .byte (1 : Int32) [(.int (0 : Int32))] (.int (0 : Int32)) := (Arv.new A1 (by decide)).pad (pad_rep [] (.int (0 : Int32)) 1)
  refine own_st (T' := T1) (g' := (mkF m 3 #[rv va, iv (0 : Int32), iv (1 : Int32), .unset, .unset, .unset] [(.ref b1)])) st1 ?_
  clear st1
  refine own_st (T' := T1) (g' := (mkF m 4 #[rv va, iv (0 : Int32), iv (1 : Int32), rv b1, .unset, .unset] [])) (fun _ k_ => XS.astoreN X1.here hx rfl (hb hby d35_3) rfl rfl (l' := #[rv va, iv (0 : Int32), iv (1 : Int32), rv b1, .unset, .unset]) rfl k_) ?_
  refine own_st (T' := T1) (g' := (mkF m 5 #[rv va, iv (0 : Int32), iv (1 : Int32), rv b1, .unset, .unset] [(.ref va)])) (fun _ k_ => XS.aloadN X1.here hx rfl (hb hby d35_4) rfl rfl  k_) ?_
  refine own_st (T' := T1) (g' := (mkF m 6 #[rv va, iv (0 : Int32), iv (1 : Int32), rv b1, .unset, .unset] [(.int (0 : Int32)), (.ref va)])) (fun _ k_ => XS.iloadN X1.here hx rfl (hb hby d35_5) rfl  k_) ?_
  refine own_st (T' := T1) (g' := (mkF m 7 #[rv va, iv (0 : Int32), iv (1 : Int32), rv b1, .unset, .unset] [(.ref b1), (.int (0 : Int32)), (.ref va)])) (fun _ k_ => XS.aloadN X1.here hx rfl (hb hby d35_6) rfl rfl  k_) ?_
  refine own_st (T' := T1) (g' := (mkF m 8 #[rv va, iv (0 : Int32), iv (1 : Int32), rv b1, .unset, .unset] [(.int (0 : Int32)), (.ref b1), (.int (0 : Int32)), (.ref va)])) (fun _ k_ => XS.iconst X1.here hx rfl (hb hby d35_7) k_) ?_
  refine own_st (T' := T1) (g' := (mkF m 9 #[rv va, iv (0 : Int32), iv (1 : Int32), rv b1, .unset, .unset] [(.int (1 : Int32)), (.int (0 : Int32)), (.ref b1), (.int (0 : Int32)), (.ref va)])) (fun _ k_ => XS.iloadN X1.here hx rfl (hb hby d35_8) rfl  k_) ?_
  have f2 := VA.ext E1
  have ne3 : va ≠ b1 := Nat.ne_of_lt (Nat.lt_of_lt_of_le VA.lt (Nat.le_of_eq g1.symm))
  have f4 := O0.ext E1
  obtain ⟨_, T5, L5, X5, hQ5, st5⟩ := own_callS X1 hx (y := own_m2) hown (mvT hZ (wd hw 252 rfl)) (mvT hZ (wd hw 253 rfl)) (mvT hZ (wd hw 250 rfl)) (mvT hZ (wd hw 254 rfl)) (by decide) (backOf (W := 0) (rm_cmp5_1 l Z a0 hw [] va b1 kc k1 c0 h1 n0 f4 f2 V1 ne3 fr1 hp0) hZ (wd hw 254 rfl) (wd hw 250 rfl) (by decide) (by decide)) (g := (mkF m 9 #[rv va, iv (0 : Int32), iv (1 : Int32), rv b1, .unset, .unset] [(.int (1 : Int32)), (.int (0 : Int32)), (.ref b1), (.int (0 : Int32)), (.ref va)])) rfl (by rw [hml]; rfl) (argsL := [(.ref va), (.int (0 : Int32)), (.ref b1), (.int (0 : Int32)), (.int (1 : Int32))]) (rest := []) (lenOf pd___CI_BII_I rfl) rfl (by show 2 * 0 + _ ≤ _; exact Nat.le_of_eq rfl) (hb hby d35_9) rfl e1 (by decide) (by decide) (c' := 1) (s' := 1) rfl rfl
  obtain ⟨rfl, Nq5, K5, fq5_0⟩ := hQ5
  have N5 := Fr.app N0 Nq5
  refine own_st (T' := T5) (g' := (mkF m 12 #[rv va, iv (0 : Int32), iv (1 : Int32), rv b1, .unset, .unset] [(.int (1 : Int32))])) st5 ?_
  clear st5
  refine own_st (T' := T5) (g' := (mkF m 14 #[rv va, iv (0 : Int32), iv (1 : Int32), rv b1, iv (1 : Int32), .unset] [])) (fun _ k_ => XS.istore X5.here hx rfl (hb hby d35_12) rfl (l' := #[rv va, iv (0 : Int32), iv (1 : Int32), rv b1, iv (1 : Int32), .unset]) rfl k_) ?_
  refine own_st (T' := T5) (g' := (mkF m 16 #[rv va, iv (0 : Int32), iv (1 : Int32), rv b1, iv (1 : Int32), .unset] [(.int (1 : Int32))])) (fun _ k_ => XS.iload X5.here hx rfl (hb hby d35_14) rfl  k_) ?_
  refine own_st (T' := T5) (g' := (mkF m 17 #[rv va, iv (0 : Int32), iv (1 : Int32), rv b1, iv (1 : Int32), .unset] [(.int (1 : Int32)), (.int (1 : Int32))])) (fun _ k_ => XS.iloadN X5.here hx rfl (hb hby d35_16) rfl  k_) ?_
  refine own_st (T' := T5) (g' := (mkF m 57 #[rv va, iv (0 : Int32), iv (1 : Int32), rv b1, iv (1 : Int32), .unset] [])) (fun _ k_ => XS.icmpYes X5.here hx rfl (pc0 := 17) (pc' := 57) rfl (hb hby d35_17) rfl (teq (rfl : (1 : Int32) = (1 : Int32))).1 (by decide) (by decide) k_) ?_
  refine own_st (T' := T5) (g' := (mkF m 58 #[rv va, iv (0 : Int32), iv (1 : Int32), rv b1, iv (1 : Int32), .unset] [(.ref b1)])) (fun _ k_ => XS.aloadN X5.here hx rfl (hb hby d35_57) rfl rfl  k_) ?_
  have f6 := (Keep.refl h0 []).ext E1
  have f7 := f6.trans K5 (allS (Or.inr sz1) all0)
  exact own_retA X5 hx hret rfl rfl hlk (hb hby d35_58) (by decide) (by decide) ⟨b1, k1, rfl, N5, f7, fq5_0, sz1⟩
theorem d37_0 : decode jdk_52_method_15_code 0 = .ok (.iload_n 1, 1) := by decide +kernel
theorem d37_1 : decode jdk_52_method_15_code 1 = .ok (.aload_n 0, 1) := by decide +kernel
theorem d37_2 : decode jdk_52_method_15_code 2 = .ok (.arraylength, 1) := by decide +kernel
theorem d37_3 : decode jdk_52_method_15_code 3 = .ok (.isub, 1) := by decide +kernel
theorem d37_4 : decode jdk_52_method_15_code 4 = .ok (.bipush 31, 2) := by decide +kernel
theorem d37_6 : decode jdk_52_method_15_code 6 = .ok (.iushr, 1) := by decide +kernel
theorem d37_7 : decode jdk_52_method_15_code 7 = .ok (.i2b, 1) := by decide +kernel
theorem d37_8 : decode jdk_52_method_15_code 8 = .ok (.ireturn, 1) := by decide +kernel
theorem ef_cdr_1 (m : MethodId) (x0 : Addr) (x1 : Int32) : entryFrame m #[(.ref x0), (.int x1)] 2 = mkF m 0 #[rv x0, iv x1] [] := by first | (simp [entryFrame, mkF, argsToLocals, Value.category]; done) | rfl
def Q_cdr_1 (Z : State) (t : Addr) (kb : ClassId) (vs : List Value) (h0 : Heap) (n0 : Nat) (v : Option Value) (h : Heap) (L : List Loc) : Prop := (v = some (.int (0 : Int32))) ∧ (Fr n0 L) ∧ (h = h0)
set_option maxRecDepth 65536 in
set_option maxHeartbeats 40000000 in
theorem rm_cdr_1 (l : Launch) (Z : State) (a0 : Array Value) (hw : ∀ d ∈ tables_1, d.before a0 Z = true) (ws : List Jvm.Cond) (t : Addr) (kb : ClassId) (vs : List Value) (h0 : Heap) (n0 : Nat) (O0 : Old Z n0 h0) (VT : Arv Z h0 t kb .byte (1 : Int32) vs (.int (0 : Int32))) :
    own_MF l own_m4 (Jvm.Cond.code own_m4 jdk_52_method_15_code 2 (some .byte) :: ws) ({ frames := 0, cells := 0, slots := 0, locals := 0 } : Room) #[(.ref t), (.int (1 : Int32))] Z h0 (Q_cdr_1 Z t kb vs h0 n0) := by
  refine own_met (own := "java/lang/StringUTF16") (nme := "coderFromArrayLen") rfl rfl (plainFor_of_name pn_1) ?_
  intro p e s m below meth c s₁ hx hby hml hown hnm X0 e0 hret hlk hZ
  have N0 := Fr.nil n0
  rw [ef_cdr_1 m t (1 : Int32)]
  refine own_st (T' := s₁) (g' := (mkF m 1 #[rv t, iv (1 : Int32)] [(.int (1 : Int32))])) (fun _ k_ => XS.iloadN X0.here hx rfl (hb hby d37_0) rfl  k_) ?_
  refine own_st (T' := s₁) (g' := (mkF m 2 #[rv t, iv (1 : Int32)] [(.ref t), (.int (1 : Int32))])) (fun _ k_ => XS.aloadN X0.here hx rfl (hb hby d37_1) rfl rfl  k_) ?_
  obtain ⟨cl1, Ar1, -, S1, N1, -, -⟩ := id VT
  refine own_st (T' := s₁) (g' := (mkF m 3 #[rv t, iv (1 : Int32)] [(.int (1 : Int32)), (.int (1 : Int32))])) (fun t_ k_ => X0.arraylength hx (by rw [e0]; exact Ar1.1) (State.isArrayOf_alike hZ.alike Ar1.2.1) (g := (mkF m 2 #[rv t, iv (1 : Int32)] [(.ref t), (.int (1 : Int32))])) rfl rfl (hb hby d37_2) _ (by rw [len_of S1 N1]; exact k_)) ?_
  refine own_st (T' := s₁) (g' := (mkF m 4 #[rv t, iv (1 : Int32)] [(.int (0 : Int32))])) (fun _ k_ => XS.isub X0.here hx rfl (hb hby d37_3) rfl k_) ?_
  refine own_st (T' := s₁) (g' := (mkF m 6 #[rv t, iv (1 : Int32)] [(.int (31 : Int32)), (.int (0 : Int32))])) (fun _ k_ => XS.bipush X0.here hx rfl (hb hby d37_4) k_) ?_
  refine own_st (T' := s₁) (g' := (mkF m 7 #[rv t, iv (1 : Int32)] [(.int (((0 : Int32).toUInt32 >>> ((31 : Int32) &&& 31).toUInt32).toInt32))])) (fun _ k_ => XS.iushr X0.here hx rfl (hb hby d37_6) rfl k_) ?_
  refine own_st (T' := s₁) (g' := (mkF m 8 #[rv t, iv (1 : Int32)] [(.int ((((0 : Int32).toUInt32 >>> ((31 : Int32) &&& 31).toUInt32).toInt32).toInt8.toInt32))])) (fun _ k_ => XS.i2b X0.here hx rfl (hb hby d37_7) rfl k_) ?_
  exact own_retN X0 hx (t := .byte) hret (by simp) hlk (hb hby d37_8) (by decide) (by decide) ⟨(by decide), N0, e0⟩
theorem d3_27 : decode jdk_42_method_149_code 27 = .ok (.getstatic 38, 3) := by decide +kernel
theorem d3_30 : decode jdk_42_method_149_code 30 = .ok (.ifCond .eq 28, 3) := by decide +kernel
theorem d3_33 : decode jdk_42_method_149_code 33 = .ok (.aload_n 1, 1) := by decide +kernel
theorem d3_34 : decode jdk_42_method_149_code 34 = .ok (.iload_n 2, 1) := by decide +kernel
theorem d3_35 : decode jdk_42_method_149_code 35 = .ok (.iload_n 3, 1) := by decide +kernel
theorem d3_36 : decode jdk_42_method_149_code 36 = .ok (.invokestatic 177, 3) := by decide +kernel
theorem d3_39 : decode jdk_42_method_149_code 39 = .ok (.astore 5, 2) := by decide +kernel
theorem d3_41 : decode jdk_42_method_149_code 41 = .ok (.aload_n 0, 1) := by decide +kernel
theorem d3_42 : decode jdk_42_method_149_code 42 = .ok (.aload 5, 2) := by decide +kernel
theorem d3_44 : decode jdk_42_method_149_code 44 = .ok (.iload_n 3, 1) := by decide +kernel
theorem d3_45 : decode jdk_42_method_149_code 45 = .ok (.invokestatic 47, 3) := by decide +kernel
theorem d3_48 : decode jdk_42_method_149_code 48 = .ok (.putfield 15, 3) := by decide +kernel
theorem d3_51 : decode jdk_42_method_149_code 51 = .ok (.aload_n 0, 1) := by decide +kernel
theorem d3_52 : decode jdk_42_method_149_code 52 = .ok (.aload 5, 2) := by decide +kernel
theorem d3_54 : decode jdk_42_method_149_code 54 = .ok (.putfield 9, 3) := by decide +kernel
theorem d3_57 : decode jdk_42_method_149_code 57 = .ok (.return_, 1) := by decide +kernel
theorem pd___CII__B : parseMethodDescriptor "([CII)[B" = some ⟨[(.array .char), .int, .int], some (.array .byte)⟩ := by decide +kernel
theorem pd___BI_B : parseMethodDescriptor "([BI)B" = some ⟨[(.array .byte), .int], some .byte⟩ := by decide +kernel
theorem ef_ini4_1 (m : MethodId) (x0 : Addr) (x1 : Addr) (x2 : Int32) (x3 : Int32) : entryFrame m #[(.ref x0), (.ref x1), (.int x2), (.int x3), .null] 6 = mkF m 0 #[rv x0, rv x1, iv x2, iv x3, .val .null, .unset] [] := by first | (simp [entryFrame, mkF, argsToLocals, Value.category]; done) | rfl
def Q_ini4_1 (Z : State) (a : Addr) (va : Addr) (kc : ClassId) (cz : Int32) (c0 : Int32) (h0 : Heap) (n0 : Nat) (v : Option Value) (h : Heap) (L : List Loc) : Prop := ∃ (t : Addr) (kb : ClassId), (v = none) ∧ (Fr n0 L) ∧ (Keep h0 h [a]) ∧ (Exa Z h a "java/lang/String") ∧ (Fld Z h a "java/lang/String" "coder" "B" (.int (0 : Int32))) ∧ (Fld Z h a "java/lang/String" "value" "[B" (.ref t)) ∧ (Arv Z h t kb .byte (1 : Int32) [(.int (c0.toInt8.toInt32))] (.int (0 : Int32))) ∧ (h0.size ≤ t)
set_option maxRecDepth 65536 in
set_option maxHeartbeats 40000000 in
theorem rm_ini4_1 (l : Launch) (Z : State) (a0 : Array Value) (hw : ∀ d ∈ tables_1, d.before a0 Z = true) (ws : List Jvm.Cond) (a : Addr) (va : Addr) (kc : ClassId) (cz : Int32) (c0 : Int32) (h0 : Heap) (n0 : Nat) (O0 : Old Z n0 h0) (EA : Exa Z h0 a "java/lang/String") (FV : Fld Z h0 a "java/lang/String" "value" "[B" .null) (FC : Fld Z h0 a "java/lang/String" "coder" "B" (.int (0 : Int32))) (fa : n0 ≤ a) (VA : Arv Z h0 va kc .char (1 : Int32) [(.int c0)] (.int (0 : Int32))) (SC : Sta Z Z.heap "java/lang/String" "COMPACT_STRINGS" "Z" (.int cz)) (hcz : ¬ cz = (0 : Int32)) (hp0 : ¬ (255 : Int32) < c0) :
    own_MF l own_m0 (Jvm.Cond.code own_m0 jdk_42_method_149_code 6 none :: ws) ({ frames := 2, cells := 1, slots := 1, locals := 35 } : Room) #[(.ref a), (.ref va), (.int (0 : Int32)), (.int (1 : Int32)), .null] Z h0 (Q_ini4_1 Z a va kc cz c0 h0 n0) := by
  refine own_met (own := "java/lang/String") (nme := "<init>") rfl rfl (plainFor_of_name pn_0) ?_
  intro p e s m below meth c s₁ hx hby hml hown hnm X0 e0 hret hlk hZ
  have N0 := Fr.nil n0
  rw [ef_ini4_1 m a va (0 : Int32) (1 : Int32)]
  refine own_st (T' := s₁) (g' := (mkF m 1 #[rv a, rv va, iv (0 : Int32), iv (1 : Int32), .val .null, .unset] [(.ref a)])) (fun _ k_ => XS.aloadN X0.here hx rfl (hb hby d3_0) rfl rfl  k_) ?_
  obtain ⟨T1, X1, e1, st1⟩ := initO X0 hx hZ hown (wd hw 15 rfl) (wd hw 16 rfl) (wd hw 17 rfl) e0 (g := (mkF m 1 #[rv a, rv va, iv (0 : Int32), iv (1 : Int32), .val .null, .unset] [(.ref a)])) rfl (by rw [hml]; rfl) rfl (hb hby d3_1) (by decide) (W := 0) (by show 2 * 0 + _ ≤ _; exact Nat.le_of_eq rfl) (by decide)
  refine own_st (T' := T1) (g' := (mkF m 4 #[rv a, rv va, iv (0 : Int32), iv (1 : Int32), .val .null, .unset] [])) st1 ?_
  clear st1
  refine own_st (T' := T1) (g' := (mkF m 5 #[rv a, rv va, iv (0 : Int32), iv (1 : Int32), .val .null, .unset] [(.int (1 : Int32))])) (fun _ k_ => XS.iloadN X1.here hx rfl (hb hby d3_4) rfl  k_) ?_
  refine own_st (T' := T1) (g' := (mkF m 27 #[rv a, rv va, iv (0 : Int32), iv (1 : Int32), .val .null, .unset] [])) (fun _ k_ => XS.ifYes X1.here hx rfl (pc0 := 5) (pc' := 27) rfl (hb hby d3_5) rfl ((if0 _ _).trans (feq (by decide : ¬ ((1 : Int32) = (0 : Int32)))).2) (by decide) (by decide) k_) ?_
  obtain ⟨T2, X2, e2, st2⟩ := getS2 X1 hx hZ hown (host := "") (Or.inl (wd hw 247 rfl)) Via.refl e1 (SC.ext O0.2) (g := (mkF m 27 #[rv a, rv va, iv (0 : Int32), iv (1 : Int32), .val .null, .unset] [])) rfl (hb hby d3_27)
  refine own_st (T' := T2) (g' := (mkF m 30 #[rv a, rv va, iv (0 : Int32), iv (1 : Int32), .val .null, .unset] [(.int cz)])) st2 ?_
  clear st2
  refine own_st (T' := T2) (g' := (mkF m 33 #[rv a, rv va, iv (0 : Int32), iv (1 : Int32), .val .null, .unset] [])) (fun _ k_ => XS.ifNo X2.here hx rfl (hb hby d3_30) rfl ((if0 _ _).trans (feq (hcz : ¬ (cz = (0 : Int32)))).1) k_) ?_
  refine own_st (T' := T2) (g' := (mkF m 34 #[rv a, rv va, iv (0 : Int32), iv (1 : Int32), .val .null, .unset] [(.ref va)])) (fun _ k_ => XS.aloadN X2.here hx rfl (hb hby d3_33) rfl rfl  k_) ?_
  refine own_st (T' := T2) (g' := (mkF m 35 #[rv a, rv va, iv (0 : Int32), iv (1 : Int32), .val .null, .unset] [(.int (0 : Int32)), (.ref va)])) (fun _ k_ => XS.iloadN X2.here hx rfl (hb hby d3_34) rfl  k_) ?_
  refine own_st (T' := T2) (g' := (mkF m 36 #[rv a, rv va, iv (0 : Int32), iv (1 : Int32), .val .null, .unset] [(.int (1 : Int32)), (.int (0 : Int32)), (.ref va)])) (fun _ k_ => XS.iloadN X2.here hx rfl (hb hby d3_35) rfl  k_) ?_
  obtain ⟨_, T3, L3, X3, hQ3, st3⟩ := own_callS X2 hx (y := own_m3) hown (mvT hZ (wd hw 248 rfl)) (mvT hZ (wd hw 249 rfl)) (mvT hZ (wd hw 250 rfl)) (mvT hZ (wd hw 251 rfl)) (by decide) (backOf (W := 0) (rm_cmp3_1 l Z a0 hw [] va kc c0 h0 n0 O0 VA hp0) hZ (wd hw 251 rfl) (wd hw 250 rfl) (by decide) (by decide)) (g := (mkF m 36 #[rv a, rv va, iv (0 : Int32), iv (1 : Int32), .val .null, .unset] [(.int (1 : Int32)), (.int (0 : Int32)), (.ref va)])) rfl (by rw [hml]; rfl) (argsL := [(.ref va), (.int (0 : Int32)), (.int (1 : Int32))]) (rest := []) (lenOf pd___CII__B rfl) rfl (by show 2 * 0 + _ ≤ _; exact Nat.le_of_eq rfl) (hb hby d3_36) rfl e2 (by decide) (by decide) (c' := 1) (s' := 1) rfl rfl
  obtain ⟨t3, kb3, rfl, Nq3, K3, fq3_0, xq3_fresh_t⟩ := hQ3
  have N3 := Fr.app N0 Nq3
  refine own_st (T' := T3) (g' := (mkF m 39 #[rv a, rv va, iv (0 : Int32), iv (1 : Int32), .val .null, .unset] [(.ref t3)])) st3 ?_
  clear st3
  refine own_st (T' := T3) (g' := (mkF m 41 #[rv a, rv va, iv (0 : Int32), iv (1 : Int32), .val .null, rv t3] [])) (fun _ k_ => XS.astore X3.here hx rfl (hb hby d3_39) rfl rfl (l' := #[rv a, rv va, iv (0 : Int32), iv (1 : Int32), .val .null, rv t3]) rfl k_) ?_
  refine own_st (T' := T3) (g' := (mkF m 42 #[rv a, rv va, iv (0 : Int32), iv (1 : Int32), .val .null, rv t3] [(.ref a)])) (fun _ k_ => XS.aloadN X3.here hx rfl (hb hby d3_41) rfl rfl  k_) ?_
  refine own_st (T' := T3) (g' := (mkF m 44 #[rv a, rv va, iv (0 : Int32), iv (1 : Int32), .val .null, rv t3] [(.ref t3), (.ref a)])) (fun _ k_ => XS.aload X3.here hx rfl (hb hby d3_42) rfl rfl  k_) ?_
  refine own_st (T' := T3) (g' := (mkF m 45 #[rv a, rv va, iv (0 : Int32), iv (1 : Int32), .val .null, rv t3] [(.int (1 : Int32)), (.ref t3), (.ref a)])) (fun _ k_ => XS.iloadN X3.here hx rfl (hb hby d3_44) rfl  k_) ?_
  have f4 := O0.keep K3 all0
  obtain ⟨_, T5, L5, X5, hQ5, st5⟩ := own_callS X3 hx (y := own_m4) hown (mvT hZ (wd hw 255 rfl)) (mvT hZ (wd hw 256 rfl)) (mvT hZ (wd hw 250 rfl)) (mvT hZ (wd hw 257 rfl)) (by decide) (backOf (W := 1) (rm_cdr_1 l Z a0 hw [] t3 kb3 [(.int (c0.toInt8.toInt32))] T3.heap n0 f4 fq3_0) hZ (wd hw 257 rfl) (wd hw 250 rfl) (by decide) (by decide)) (g := (mkF m 45 #[rv a, rv va, iv (0 : Int32), iv (1 : Int32), .val .null, rv t3] [(.int (1 : Int32)), (.ref t3), (.ref a)])) rfl (by rw [hml]; rfl) (argsL := [(.ref t3), (.int (1 : Int32))]) (rest := [(.ref a)]) (lenOf pd___BI_B rfl) rfl (by show 2 * 0 + _ ≤ _; exact Nat.le_of_eq rfl) (hb hby d3_45) rfl rfl (by decide) (by decide) (c' := 1) (s' := 1) rfl rfl
  obtain ⟨rfl, Nq5, eq5⟩ := hQ5
  have N5 := Fr.app N3 Nq5
  refine own_st (T' := T5) (g' := (mkF m 48 #[rv a, rv va, iv (0 : Int32), iv (1 : Int32), .val .null, rv t3] [(.int (0 : Int32)), (.ref a)])) st5 ?_
  clear st5
  have f6 := EA.keep K3
  have f7 := FC.keep K3 nin0
  obtain ⟨T8, h8, X8, e8, W8, st8⟩ := putFN X5 hx hZ hown (wd hw 25 rfl) Via.refl eq5 f7 f6 (Or.inr ⟨(wd hw 21 rfl), rfl, hnm⟩) (wd hw 5 rfl) (ty := .byte) (v' := (.int (0 : Int32))) (by decide) rfl (by decide) (g := (mkF m 48 #[rv a, rv va, iv (0 : Int32), iv (1 : Int32), .val .null, rv t3] [(.int (0 : Int32)), (.ref a)])) rfl rfl (hb hby d3_48)
  have Fw8 : Fld Z h8 a "java/lang/String" "coder" "B" (.int (0 : Int32)) := Fld.same W8 f7
  have N8 := Fr.snoc X8 N5 fa
  refine own_st (T' := T8) (g' := (mkF m 51 #[rv a, rv va, iv (0 : Int32), iv (1 : Int32), .val .null, rv t3] [])) st8 ?_
  clear st8
  refine own_st (T' := T8) (g' := (mkF m 52 #[rv a, rv va, iv (0 : Int32), iv (1 : Int32), .val .null, rv t3] [(.ref a)])) (fun _ k_ => XS.aloadN X8.here hx rfl (hb hby d3_51) rfl rfl  k_) ?_
  refine own_st (T' := T8) (g' := (mkF m 54 #[rv a, rv va, iv (0 : Int32), iv (1 : Int32), .val .null, rv t3] [(.ref t3), (.ref a)])) (fun _ k_ => XS.aload X8.here hx rfl (hb hby d3_52) rfl rfl  k_) ?_
  have f9 := f6.wr W8
  have f10 := FV.keep K3 nin0
  have f11 := f10.other W8 (Or.inr (slot_ne (Or.inr (wd hw 20 rfl)) (Or.inr (wd hw 21 rfl)) (by decide) (t := (.array .byte)) (t' := .byte) (by decide) (by decide)))
  obtain ⟨T12, h12, X12, e12, W12, st12⟩ := putF X8 hx hZ hown (host := "") (Or.inl (wd hw 24 rfl)) Via.refl e8 f11 f9 (Or.inr ⟨(wd hw 20 rfl), rfl, hnm⟩) (wd hw 5 rfl) (ty := (.array .byte)) (by decide) rfl rfl (g := (mkF m 54 #[rv a, rv va, iv (0 : Int32), iv (1 : Int32), .val .null, rv t3] [(.ref t3), (.ref a)])) rfl rfl (hb hby d3_54)
  have Fw12 : Fld Z h12 a "java/lang/String" "value" "[B" (.ref t3) := Fld.same W12 f11
  have N12 := Fr.snoc X12 N8 fa
  refine own_st (T' := T12) (g' := (mkF m 57 #[rv a, rv va, iv (0 : Int32), iv (1 : Int32), .val .null, rv t3] [])) st12 ?_
  clear st12
  have f13 := (Keep.refl h0 [a]).trans K3 all0
  have f14 := f13.wr W8 (Or.inl (List.mem_of_getElem? (i := 0) rfl))
  have f15 := f14.wr W12 (Or.inl (List.mem_of_getElem? (i := 0) rfl))
  have f16 := f9.wr W12
  have f17 := Fw8.other W12 (Or.inr (slot_ne (Or.inr (wd hw 21 rfl)) (Or.inr (wd hw 20 rfl)) (by decide) (t := .byte) (t' := (.array .byte)) (by decide) (by decide)))
  have ne18 : a ≠ t3 := Nat.ne_of_lt (Nat.lt_of_lt_of_le EA.lt xq3_fresh_t)
  have f19 := fq3_0.other W8 (Ne.symm ne18)
  have f20 := f19.other W12 (Ne.symm ne18)
  exact own_retV X12 hx hret hlk (hb hby d3_57) (by decide) (by decide) (by rw [e12]; exact ⟨t3, kb3, rfl, N12, f15, f16, f17, Fw12, f20, (Nat.le_trans (Keep.refl h0 [a]).1 xq3_fresh_t)⟩)
theorem ef_ini1_1 (m : MethodId) (x0 : Addr) (x1 : Addr) : entryFrame m #[(.ref x0), (.ref x1)] 2 = mkF m 0 #[rv x0, rv x1] [] := by first | (simp [entryFrame, mkF, argsToLocals, Value.category]; done) | rfl
def Q_ini1_1 (Z : State) (a : Addr) (va : Addr) (kc : ClassId) (cz : Int32) (c0 : Int32) (h0 : Heap) (n0 : Nat) (v : Option Value) (h : Heap) (L : List Loc) : Prop := ∃ (t : Addr) (kb : ClassId), (v = none) ∧ (Fr n0 L) ∧ (Keep h0 h [a]) ∧ (Exa Z h a "java/lang/String") ∧ (Fld Z h a "java/lang/String" "coder" "B" (.int (0 : Int32))) ∧ (Fld Z h a "java/lang/String" "value" "[B" (.ref t)) ∧ (Arv Z h t kb .byte (1 : Int32) [(.int (c0.toInt8.toInt32))] (.int (0 : Int32))) ∧ (h0.size ≤ t)
set_option maxRecDepth 65536 in
set_option maxHeartbeats 40000000 in
theorem rm_ini1_1 (l : Launch) (Z : State) (a0 : Array Value) (hw : ∀ d ∈ tables_1, d.before a0 Z = true) (ws : List Jvm.Cond) (a : Addr) (va : Addr) (kc : ClassId) (cz : Int32) (c0 : Int32) (h0 : Heap) (n0 : Nat) (O0 : Old Z n0 h0) (EA : Exa Z h0 a "java/lang/String") (FV : Fld Z h0 a "java/lang/String" "value" "[B" .null) (FC : Fld Z h0 a "java/lang/String" "coder" "B" (.int (0 : Int32))) (fa : n0 ≤ a) (VA : Arv Z h0 va kc .char (1 : Int32) [(.int c0)] (.int (0 : Int32))) (SC : Sta Z Z.heap "java/lang/String" "COMPACT_STRINGS" "Z" (.int cz)) (hcz : ¬ cz = (0 : Int32)) (hp0 : ¬ (255 : Int32) < c0) :
    own_MF l own_m1 (Jvm.Cond.code own_m1 jdk_42_method_3_code 2 none :: ws) ({ frames := 3, cells := 1, slots := 1, locals := 52 } : Room) #[(.ref a), (.ref va)] Z h0 (Q_ini1_1 Z a va kc cz c0 h0 n0) := by
  refine own_met (own := "java/lang/String") (nme := "<init>") rfl rfl (plainFor_of_name pn_0) ?_
  intro p e s m below meth c s₁ hx hby hml hown hnm X0 e0 hret hlk hZ
  have N0 := Fr.nil n0
  rw [ef_ini1_1 m a va]
  refine own_st (T' := s₁) (g' := (mkF m 1 #[rv a, rv va] [(.ref a)])) (fun _ k_ => XS.aloadN X0.here hx rfl (hb hby d2_0) rfl rfl  k_) ?_
  refine own_st (T' := s₁) (g' := (mkF m 2 #[rv a, rv va] [(.ref va), (.ref a)])) (fun _ k_ => XS.aloadN X0.here hx rfl (hb hby d2_1) rfl rfl  k_) ?_
  refine own_st (T' := s₁) (g' := (mkF m 3 #[rv a, rv va] [(.int (0 : Int32)), (.ref va), (.ref a)])) (fun _ k_ => XS.iconst X0.here hx rfl (hb hby d2_2) k_) ?_
  refine own_st (T' := s₁) (g' := (mkF m 4 #[rv a, rv va] [(.ref va), (.int (0 : Int32)), (.ref va), (.ref a)])) (fun _ k_ => XS.aloadN X0.here hx rfl (hb hby d2_3) rfl rfl  k_) ?_
  obtain ⟨cl1, Ar1, -, S1, N1, -, -⟩ := id VA
  refine own_st (T' := s₁) (g' := (mkF m 5 #[rv a, rv va] [(.int (1 : Int32)), (.int (0 : Int32)), (.ref va), (.ref a)])) (fun t_ k_ => X0.arraylength hx (by rw [e0]; exact Ar1.1) (State.isArrayOf_alike hZ.alike Ar1.2.1) (g := (mkF m 4 #[rv a, rv va] [(.ref va), (.int (0 : Int32)), (.ref va), (.ref a)])) rfl rfl (hb hby d2_4) _ (by rw [len_of S1 N1]; exact k_)) ?_
  refine own_st (T' := s₁) (g' := (mkF m 6 #[rv a, rv va] [.null, (.int (1 : Int32)), (.int (0 : Int32)), (.ref va), (.ref a)])) (fun _ k_ => XS.aconstNull X0.here hx rfl (hb hby d2_5) k_) ?_
  obtain ⟨_, T2, L2, X2, hQ2, st2⟩ := own_callI X0 hx (y := own_m0) rfl hown (mvT hZ (wd hw 11 rfl)) (mvT hZ (wd hw 12 rfl)) (mvT hZ (wd hw 14 rfl)) (by decide) (backOf (W := 0) (rm_ini4_1 l Z a0 hw [] a va kc cz c0 h0 n0 O0 EA FV FC fa VA SC hcz hp0) hZ (wd hw 14 rfl) (wd hw 6 rfl) (by decide) (by decide)) (g := (mkF m 6 #[rv a, rv va] [.null, (.int (1 : Int32)), (.int (0 : Int32)), (.ref va), (.ref a)])) rfl (by rw [hml]; rfl) (a := a) (argsL := [(.ref va), (.int (0 : Int32)), (.int (1 : Int32)), .null]) (rest := []) (lenOf pd___CIILjava_lang_Void__V rfl) rfl (by show 2 * 0 + _ ≤ _; exact Nat.le_of_eq rfl) (hb hby d2_6) rfl e0 (by decide) (by decide) (c' := 1) (s' := 1) rfl rfl
  obtain ⟨t2, kb2, rfl, Nq2, K2, fq2_0, fq2_1, fq2_2, fq2_3, xq2_fresh_t⟩ := hQ2
  have N2 := Fr.app N0 Nq2
  refine own_st (T' := T2) (g' := (mkF m 9 #[rv a, rv va] [])) st2 ?_
  clear st2
  have f3 := (Keep.refl h0 [a]).trans K2 (allS (Or.inl (List.mem_of_getElem? (i := 0) rfl)) all0)
  exact own_retV X2 hx hret hlk (hb hby d2_9) (by decide) (by decide) ⟨t2, kb2, rfl, N2, f3, fq2_0, fq2_1, fq2_2, fq2_3, (Nat.le_trans (Keep.refl h0 [a]).1 xq2_fresh_t)⟩
theorem ef_cmp5_2 (m : MethodId) (x0 : Addr) (x1 : Int32) (x2 : Addr) (x3 : Int32) (x4 : Int32) : entryFrame m #[(.ref x0), (.int x1), (.ref x2), (.int x3), (.int x4)] 7 = mkF m 0 #[rv x0, iv x1, rv x2, iv x3, iv x4, .unset, .unset] [] := by first | (simp [entryFrame, mkF, argsToLocals, Value.category]; done) | rfl
def Q_cmp5_2 (Z : State) (va : Addr) (da : Addr) (kc : ClassId) (kd : ClassId) (c0 : Int32) (c1 : Int32) (h0 : Heap) (n0 : Nat) (v : Option Value) (h : Heap) (L : List Loc) : Prop := (v = some (.int (2 : Int32))) ∧ (Fr n0 L) ∧ (Keep h0 h [da]) ∧ (Arv Z h da kd .byte (2 : Int32) [(.int (c0.toInt8.toInt32)), (.int (c1.toInt8.toInt32))] (.int (0 : Int32)))
set_option maxRecDepth 65536 in
set_option maxHeartbeats 40000000 in
theorem rm_cmp5_2 (l : Launch) (Z : State) (a0 : Array Value) (hw : ∀ d ∈ tables_1, d.before a0 Z = true) (ws : List Jvm.Cond) (va : Addr) (da : Addr) (kc : ClassId) (kd : ClassId) (c0 : Int32) (c1 : Int32) (h0 : Heap) (n0 : Nat) (O0 : Old Z n0 h0) (VA : Arv Z h0 va kc .char (2 : Int32) [(.int c0), (.int c1)] (.int (0 : Int32))) (VD : Arv Z h0 da kd .byte (2 : Int32) [(.int (0 : Int32)), (.int (0 : Int32))] (.int (0 : Int32))) (nad : va ≠ da) (fda : n0 ≤ da) (hp0 : ¬ (255 : Int32) < c0) (hp1 : ¬ (255 : Int32) < c1) :
    own_MF l own_m2 (Jvm.Cond.code own_m2 jdk_52_method_21_code 7 (some .int) :: ws) ({ frames := 0, cells := 0, slots := 0, locals := 0 } : Room) #[(.ref va), (.int (0 : Int32)), (.ref da), (.int (0 : Int32)), (.int (2 : Int32))] Z h0 (Q_cmp5_2 Z va da kc kd c0 c1 h0 n0) := by
  refine own_met (own := "java/lang/StringUTF16") (nme := "compress") rfl rfl (plainFor_of_name pn_1) ?_
  intro p e s m below meth c s₁ hx hby hml hown hnm X0 e0 hret hlk hZ
  have N0 := Fr.nil n0
  rw [ef_cmp5_2 m va (0 : Int32) da (0 : Int32) (2 : Int32)]
  refine own_st (T' := s₁) (g' := (mkF m 1 #[rv va, iv (0 : Int32), rv da, iv (0 : Int32), iv (2 : Int32), .unset, .unset] [(.int (0 : Int32))])) (fun _ k_ => XS.iconst X0.here hx rfl (hb hby d36_0) k_) ?_
  refine own_st (T' := s₁) (g' := (mkF m 3 #[rv va, iv (0 : Int32), rv da, iv (0 : Int32), iv (2 : Int32), iv (0 : Int32), .unset] [])) (fun _ k_ => XS.istore X0.here hx rfl (hb hby d36_1) rfl (l' := #[rv va, iv (0 : Int32), rv da, iv (0 : Int32), iv (2 : Int32), iv (0 : Int32), .unset]) rfl k_) ?_
  refine own_st (T' := s₁) (g' := (mkF m 5 #[rv va, iv (0 : Int32), rv da, iv (0 : Int32), iv (2 : Int32), iv (0 : Int32), .unset] [(.int (0 : Int32))])) (fun _ k_ => XS.iload X0.here hx rfl (hb hby d36_3) rfl  k_) ?_
  refine own_st (T' := s₁) (g' := (mkF m 7 #[rv va, iv (0 : Int32), rv da, iv (0 : Int32), iv (2 : Int32), iv (0 : Int32), .unset] [(.int (2 : Int32)), (.int (0 : Int32))])) (fun _ k_ => XS.iload X0.here hx rfl (hb hby d36_5) rfl  k_) ?_
  refine own_st (T' := s₁) (g' := (mkF m 10 #[rv va, iv (0 : Int32), rv da, iv (0 : Int32), iv (2 : Int32), iv (0 : Int32), .unset] [])) (fun _ k_ => XS.icmpNo X0.here hx rfl (hb hby d36_7) rfl (tlt (by decide : (0 : Int32) < (2 : Int32))).2.1 k_) ?_
  refine own_st (T' := s₁) (g' := (mkF m 11 #[rv va, iv (0 : Int32), rv da, iv (0 : Int32), iv (2 : Int32), iv (0 : Int32), .unset] [(.ref va)])) (fun _ k_ => XS.aloadN X0.here hx rfl (hb hby d36_10) rfl rfl  k_) ?_
  refine own_st (T' := s₁) (g' := (mkF m 12 #[rv va, iv (0 : Int32), rv da, iv (0 : Int32), iv (2 : Int32), iv (0 : Int32), .unset] [(.int (0 : Int32)), (.ref va)])) (fun _ k_ => XS.iloadN X0.here hx rfl (hb hby d36_11) rfl  k_) ?_
  obtain ⟨cl1, Ar1, q1, S1, N1, H1, G1⟩ := id VA
  have hin1 : ¬ ((0 : Int32) < 0 ∨ cl1.slots.size ≤ ((0 : Int32)).toNatClampNeg) := inb_of S1 ⟨by decide, by decide⟩
  refine own_st (T' := s₁) (g' := (mkF m 13 #[rv va, iv (0 : Int32), rv da, iv (0 : Int32), iv (2 : Int32), iv (0 : Int32), .unset] [(.int c0)])) (X0.caload hx (j := (0 : Int32)) (v := (.int c0)) (by rw [e0]; exact Ar1.1) (State.isArrayOf_alike hZ.alike Ar1.2.1) Ar1.2.2 hin1 (H1.at hin1 rfl) (g := (mkF m 12 #[rv va, iv (0 : Int32), rv da, iv (0 : Int32), iv (2 : Int32), iv (0 : Int32), .unset] [(.int (0 : Int32)), (.ref va)])) rfl rfl (hb hby d36_12)) ?_
  clear hin1 G1 H1 N1 S1 q1 Ar1 cl1
  refine own_st (T' := s₁) (g' := (mkF m 15 #[rv va, iv (0 : Int32), rv da, iv (0 : Int32), iv (2 : Int32), iv (0 : Int32), iv c0] [])) (fun _ k_ => XS.istore X0.here hx rfl (hb hby d36_13) rfl (l' := #[rv va, iv (0 : Int32), rv da, iv (0 : Int32), iv (2 : Int32), iv (0 : Int32), iv c0]) rfl k_) ?_
  refine own_st (T' := s₁) (g' := (mkF m 17 #[rv va, iv (0 : Int32), rv da, iv (0 : Int32), iv (2 : Int32), iv (0 : Int32), iv c0] [(.int c0)])) (fun _ k_ => XS.iload X0.here hx rfl (hb hby d36_15) rfl  k_) ?_
  refine own_st (T' := s₁) (g' := (mkF m 20 #[rv va, iv (0 : Int32), rv da, iv (0 : Int32), iv (2 : Int32), iv (0 : Int32), iv c0] [(.int (255 : Int32)), (.int c0)])) (fun _ k_ => XS.sipush X0.here hx rfl (hb hby d36_17) k_) ?_
  refine own_st (T' := s₁) (g' := (mkF m 26 #[rv va, iv (0 : Int32), rv da, iv (0 : Int32), iv (2 : Int32), iv (0 : Int32), iv c0] [])) (fun _ k_ => XS.icmpYes X0.here hx rfl (pc0 := 20) (pc' := 26) rfl (hb hby d36_20) rfl (flt (hp0 : ¬ ((255 : Int32) < c0))).2.2.2 (by decide) (by decide) k_) ?_
  refine own_st (T' := s₁) (g' := (mkF m 27 #[rv va, iv (0 : Int32), rv da, iv (0 : Int32), iv (2 : Int32), iv (0 : Int32), iv c0] [(.ref da)])) (fun _ k_ => XS.aloadN X0.here hx rfl (hb hby d36_26) rfl rfl  k_) ?_
  refine own_st (T' := s₁) (g' := (mkF m 28 #[rv va, iv (0 : Int32), rv da, iv (0 : Int32), iv (2 : Int32), iv (0 : Int32), iv c0] [(.int (0 : Int32)), (.ref da)])) (fun _ k_ => XS.iloadN X0.here hx rfl (hb hby d36_27) rfl  k_) ?_
  refine own_st (T' := s₁) (g' := (mkF m 30 #[rv va, iv (0 : Int32), rv da, iv (0 : Int32), iv (2 : Int32), iv (0 : Int32), iv c0] [(.int c0), (.int (0 : Int32)), (.ref da)])) (fun _ k_ => XS.iload X0.here hx rfl (hb hby d36_28) rfl  k_) ?_
  refine own_st (T' := s₁) (g' := (mkF m 31 #[rv va, iv (0 : Int32), rv da, iv (0 : Int32), iv (2 : Int32), iv (0 : Int32), iv c0] [(.int (c0.toInt8.toInt32)), (.int (0 : Int32)), (.ref da)])) (fun _ k_ => XS.i2b X0.here hx rfl (hb hby d36_30) rfl k_) ?_
  obtain ⟨cl2, Ar2, q2, S2, N2, H2, G2⟩ := id VD
  have hin2 : ¬ ((0 : Int32) < 0 ∨ cl2.slots.size ≤ ((0 : Int32)).toNatClampNeg) := inb_of S2 ⟨by decide, by decide⟩
  obtain ⟨T3, h3, X3, e3, W3, st3⟩ := stB X0 hx hZ e0 Ar2 (j := (0 : Int32)) hin2 (g := (mkF m 31 #[rv va, iv (0 : Int32), rv da, iv (0 : Int32), iv (2 : Int32), iv (0 : Int32), iv c0] [(.int (c0.toInt8.toInt32)), (.int (0 : Int32)), (.ref da)])) rfl rfl (hb hby d36_31)
  have V3 : Arv Z h3 da kd .byte (2 : Int32) [(.int (nar .byte (c0.toInt8.toInt32))), (.int (0 : Int32))] (.int (0 : Int32)) := Arv.set Ar2 q2 S2 N2 H2 G2 (fits_nar_byte _) W3 0 rfl (Nat.le_of_ble_eq_true rfl)
  have Vn3 : Arv Z h3 da kd .byte (2 : Int32) [(.int (c0.toInt8.toInt32)), (.int (0 : Int32))] (.int (0 : Int32)) := by simpa only [own_bb] using V3
  have Nx3 := Fr.snoc X3 N0 fda
  refine own_st (T' := T3) (g' := (mkF m 32 #[rv va, iv (0 : Int32), rv da, iv (0 : Int32), iv (2 : Int32), iv (0 : Int32), iv c0] [])) st3 ?_
  clear hin2 G2 H2 N2 S2 q2 Ar2 cl2 st3
  refine own_st (T' := T3) (g' := (mkF m 35 #[rv va, iv (1 : Int32), rv da, iv (0 : Int32), iv (2 : Int32), iv (0 : Int32), iv c0] [])) (fun _ k_ => XS.iinc X3.here hx rfl (hb hby d36_32) rfl (l' := #[rv va, iv (1 : Int32), rv da, iv (0 : Int32), iv (2 : Int32), iv (0 : Int32), iv c0]) rfl k_) ?_
  refine own_st (T' := T3) (g' := (mkF m 38 #[rv va, iv (1 : Int32), rv da, iv (1 : Int32), iv (2 : Int32), iv (0 : Int32), iv c0] [])) (fun _ k_ => XS.iinc X3.here hx rfl (hb hby d36_35) rfl (l' := #[rv va, iv (1 : Int32), rv da, iv (1 : Int32), iv (2 : Int32), iv (0 : Int32), iv c0]) rfl k_) ?_
  refine own_st (T' := T3) (g' := (mkF m 41 #[rv va, iv (1 : Int32), rv da, iv (1 : Int32), iv (2 : Int32), iv (1 : Int32), iv c0] [])) (fun _ k_ => XS.iinc X3.here hx rfl (hb hby d36_38) rfl (l' := #[rv va, iv (1 : Int32), rv da, iv (1 : Int32), iv (2 : Int32), iv (1 : Int32), iv c0]) rfl k_) ?_
  refine own_st (T' := T3) (g' := (mkF m 3 #[rv va, iv (1 : Int32), rv da, iv (1 : Int32), iv (2 : Int32), iv (1 : Int32), iv c0] [])) (fun _ k_ => XS.goto X3.here hx rfl (pc0 := 41) (pc' := 3) rfl (hb hby d36_41) (by decide) (by decide) k_) ?_
  refine own_st (T' := T3) (g' := (mkF m 5 #[rv va, iv (1 : Int32), rv da, iv (1 : Int32), iv (2 : Int32), iv (1 : Int32), iv c0] [(.int (1 : Int32))])) (fun _ k_ => XS.iload X3.here hx rfl (hb hby d36_3) rfl  k_) ?_
  refine own_st (T' := T3) (g' := (mkF m 7 #[rv va, iv (1 : Int32), rv da, iv (1 : Int32), iv (2 : Int32), iv (1 : Int32), iv c0] [(.int (2 : Int32)), (.int (1 : Int32))])) (fun _ k_ => XS.iload X3.here hx rfl (hb hby d36_5) rfl  k_) ?_
  refine own_st (T' := T3) (g' := (mkF m 10 #[rv va, iv (1 : Int32), rv da, iv (1 : Int32), iv (2 : Int32), iv (1 : Int32), iv c0] [])) (fun _ k_ => XS.icmpNo X3.here hx rfl (hb hby d36_7) rfl (tlt (by decide : (1 : Int32) < (2 : Int32))).2.1 k_) ?_
  refine own_st (T' := T3) (g' := (mkF m 11 #[rv va, iv (1 : Int32), rv da, iv (1 : Int32), iv (2 : Int32), iv (1 : Int32), iv c0] [(.ref va)])) (fun _ k_ => XS.aloadN X3.here hx rfl (hb hby d36_10) rfl rfl  k_) ?_
  refine own_st (T' := T3) (g' := (mkF m 12 #[rv va, iv (1 : Int32), rv da, iv (1 : Int32), iv (2 : Int32), iv (1 : Int32), iv c0] [(.int (1 : Int32)), (.ref va)])) (fun _ k_ => XS.iloadN X3.here hx rfl (hb hby d36_11) rfl  k_) ?_
  have f4 := VA.other W3 nad
  obtain ⟨cl5, Ar5, q5, S5, N5, H5, G5⟩ := id f4
  have hin5 : ¬ ((1 : Int32) < 0 ∨ cl5.slots.size ≤ ((1 : Int32)).toNatClampNeg) := inb_of S5 ⟨by decide, by decide⟩
  refine own_st (T' := T3) (g' := (mkF m 13 #[rv va, iv (1 : Int32), rv da, iv (1 : Int32), iv (2 : Int32), iv (1 : Int32), iv c0] [(.int c1)])) (X3.caload hx (j := (1 : Int32)) (v := (.int c1)) (by rw [e3]; exact Ar5.1) (State.isArrayOf_alike hZ.alike Ar5.2.1) Ar5.2.2 hin5 (H5.at hin5 rfl) (g := (mkF m 12 #[rv va, iv (1 : Int32), rv da, iv (1 : Int32), iv (2 : Int32), iv (1 : Int32), iv c0] [(.int (1 : Int32)), (.ref va)])) rfl rfl (hb hby d36_12)) ?_
  clear hin5 G5 H5 N5 S5 q5 Ar5 cl5
  refine own_st (T' := T3) (g' := (mkF m 15 #[rv va, iv (1 : Int32), rv da, iv (1 : Int32), iv (2 : Int32), iv (1 : Int32), iv c1] [])) (fun _ k_ => XS.istore X3.here hx rfl (hb hby d36_13) rfl (l' := #[rv va, iv (1 : Int32), rv da, iv (1 : Int32), iv (2 : Int32), iv (1 : Int32), iv c1]) rfl k_) ?_
  refine own_st (T' := T3) (g' := (mkF m 17 #[rv va, iv (1 : Int32), rv da, iv (1 : Int32), iv (2 : Int32), iv (1 : Int32), iv c1] [(.int c1)])) (fun _ k_ => XS.iload X3.here hx rfl (hb hby d36_15) rfl  k_) ?_
  refine own_st (T' := T3) (g' := (mkF m 20 #[rv va, iv (1 : Int32), rv da, iv (1 : Int32), iv (2 : Int32), iv (1 : Int32), iv c1] [(.int (255 : Int32)), (.int c1)])) (fun _ k_ => XS.sipush X3.here hx rfl (hb hby d36_17) k_) ?_
  refine own_st (T' := T3) (g' := (mkF m 26 #[rv va, iv (1 : Int32), rv da, iv (1 : Int32), iv (2 : Int32), iv (1 : Int32), iv c1] [])) (fun _ k_ => XS.icmpYes X3.here hx rfl (pc0 := 20) (pc' := 26) rfl (hb hby d36_20) rfl (flt (hp1 : ¬ ((255 : Int32) < c1))).2.2.2 (by decide) (by decide) k_) ?_
  refine own_st (T' := T3) (g' := (mkF m 27 #[rv va, iv (1 : Int32), rv da, iv (1 : Int32), iv (2 : Int32), iv (1 : Int32), iv c1] [(.ref da)])) (fun _ k_ => XS.aloadN X3.here hx rfl (hb hby d36_26) rfl rfl  k_) ?_
  refine own_st (T' := T3) (g' := (mkF m 28 #[rv va, iv (1 : Int32), rv da, iv (1 : Int32), iv (2 : Int32), iv (1 : Int32), iv c1] [(.int (1 : Int32)), (.ref da)])) (fun _ k_ => XS.iloadN X3.here hx rfl (hb hby d36_27) rfl  k_) ?_
  refine own_st (T' := T3) (g' := (mkF m 30 #[rv va, iv (1 : Int32), rv da, iv (1 : Int32), iv (2 : Int32), iv (1 : Int32), iv c1] [(.int c1), (.int (1 : Int32)), (.ref da)])) (fun _ k_ => XS.iload X3.here hx rfl (hb hby d36_28) rfl  k_) ?_
  refine own_st (T' := T3) (g' := (mkF m 31 #[rv va, iv (1 : Int32), rv da, iv (1 : Int32), iv (2 : Int32), iv (1 : Int32), iv c1] [(.int (c1.toInt8.toInt32)), (.int (1 : Int32)), (.ref da)])) (fun _ k_ => XS.i2b X3.here hx rfl (hb hby d36_30) rfl k_) ?_
  obtain ⟨cl6, Ar6, q6, S6, N6, H6, G6⟩ := id Vn3
  have hin6 : ¬ ((1 : Int32) < 0 ∨ cl6.slots.size ≤ ((1 : Int32)).toNatClampNeg) := inb_of S6 ⟨by decide, by decide⟩
  obtain ⟨T7, h7, X7, e7, W7, st7⟩ := stB X3 hx hZ e3 Ar6 (j := (1 : Int32)) hin6 (g := (mkF m 31 #[rv va, iv (1 : Int32), rv da, iv (1 : Int32), iv (2 : Int32), iv (1 : Int32), iv c1] [(.int (c1.toInt8.toInt32)), (.int (1 : Int32)), (.ref da)])) rfl rfl (hb hby d36_31)
  have V7 : Arv Z h7 da kd .byte (2 : Int32) [(.int (c0.toInt8.toInt32)), (.int (nar .byte (c1.toInt8.toInt32)))] (.int (0 : Int32)) := Arv.set Ar6 q6 S6 N6 H6 G6 (fits_nar_byte _) W7 1 rfl (Nat.le_of_ble_eq_true rfl)
  have Vn7 : Arv Z h7 da kd .byte (2 : Int32) [(.int (c0.toInt8.toInt32)), (.int (c1.toInt8.toInt32))] (.int (0 : Int32)) := by simpa only [own_bb] using V7
  have Nx7 := Fr.snoc X7 Nx3 fda
  refine own_st (T' := T7) (g' := (mkF m 32 #[rv va, iv (1 : Int32), rv da, iv (1 : Int32), iv (2 : Int32), iv (1 : Int32), iv c1] [])) st7 ?_
  clear hin6 G6 H6 N6 S6 q6 Ar6 cl6 st7
  refine own_st (T' := T7) (g' := (mkF m 35 #[rv va, iv (2 : Int32), rv da, iv (1 : Int32), iv (2 : Int32), iv (1 : Int32), iv c1] [])) (fun _ k_ => XS.iinc X7.here hx rfl (hb hby d36_32) rfl (l' := #[rv va, iv (2 : Int32), rv da, iv (1 : Int32), iv (2 : Int32), iv (1 : Int32), iv c1]) rfl k_) ?_
  refine own_st (T' := T7) (g' := (mkF m 38 #[rv va, iv (2 : Int32), rv da, iv (2 : Int32), iv (2 : Int32), iv (1 : Int32), iv c1] [])) (fun _ k_ => XS.iinc X7.here hx rfl (hb hby d36_35) rfl (l' := #[rv va, iv (2 : Int32), rv da, iv (2 : Int32), iv (2 : Int32), iv (1 : Int32), iv c1]) rfl k_) ?_
  refine own_st (T' := T7) (g' := (mkF m 41 #[rv va, iv (2 : Int32), rv da, iv (2 : Int32), iv (2 : Int32), iv (2 : Int32), iv c1] [])) (fun _ k_ => XS.iinc X7.here hx rfl (hb hby d36_38) rfl (l' := #[rv va, iv (2 : Int32), rv da, iv (2 : Int32), iv (2 : Int32), iv (2 : Int32), iv c1]) rfl k_) ?_
  refine own_st (T' := T7) (g' := (mkF m 3 #[rv va, iv (2 : Int32), rv da, iv (2 : Int32), iv (2 : Int32), iv (2 : Int32), iv c1] [])) (fun _ k_ => XS.goto X7.here hx rfl (pc0 := 41) (pc' := 3) rfl (hb hby d36_41) (by decide) (by decide) k_) ?_
  refine own_st (T' := T7) (g' := (mkF m 5 #[rv va, iv (2 : Int32), rv da, iv (2 : Int32), iv (2 : Int32), iv (2 : Int32), iv c1] [(.int (2 : Int32))])) (fun _ k_ => XS.iload X7.here hx rfl (hb hby d36_3) rfl  k_) ?_
  refine own_st (T' := T7) (g' := (mkF m 7 #[rv va, iv (2 : Int32), rv da, iv (2 : Int32), iv (2 : Int32), iv (2 : Int32), iv c1] [(.int (2 : Int32)), (.int (2 : Int32))])) (fun _ k_ => XS.iload X7.here hx rfl (hb hby d36_5) rfl  k_) ?_
  refine own_st (T' := T7) (g' := (mkF m 44 #[rv va, iv (2 : Int32), rv da, iv (2 : Int32), iv (2 : Int32), iv (2 : Int32), iv c1] [])) (fun _ k_ => XS.icmpYes X7.here hx rfl (pc0 := 7) (pc' := 44) rfl (hb hby d36_7) rfl (flt (by decide : ¬ ((2 : Int32) < (2 : Int32)))).2.1 (by decide) (by decide) k_) ?_
  refine own_st (T' := T7) (g' := (mkF m 46 #[rv va, iv (2 : Int32), rv da, iv (2 : Int32), iv (2 : Int32), iv (2 : Int32), iv c1] [(.int (2 : Int32))])) (fun _ k_ => XS.iload X7.here hx rfl (hb hby d36_44) rfl  k_) ?_
  have f8 := (Keep.refl h0 [da]).wr W3 (Or.inl (List.mem_of_getElem? (i := 0) rfl))
  have f9 := f8.wr W7 (Or.inl (List.mem_of_getElem? (i := 0) rfl))
  exact own_retI X7 hx hret hlk (hb hby d36_46) (by decide) (by decide) (by rw [e7]; exact ⟨rfl, Nx7, f9, Vn7⟩)
theorem ef_cmp3_2 (m : MethodId) (x0 : Addr) (x1 : Int32) (x2 : Int32) : entryFrame m #[(.ref x0), (.int x1), (.int x2)] 6 = mkF m 0 #[rv x0, iv x1, iv x2, .unset, .unset, .unset] [] := by first | (simp [entryFrame, mkF, argsToLocals, Value.category]; done) | rfl
def Q_cmp3_2 (Z : State) (va : Addr) (kc : ClassId) (c0 : Int32) (c1 : Int32) (h0 : Heap) (n0 : Nat) (v : Option Value) (h : Heap) (L : List Loc) : Prop := ∃ (t : Addr) (kb : ClassId), (v = some (.ref t)) ∧ (Fr n0 L) ∧ (Keep h0 h []) ∧ (Arv Z h t kb .byte (2 : Int32) [(.int (c0.toInt8.toInt32)), (.int (c1.toInt8.toInt32))] (.int (0 : Int32))) ∧ (h0.size ≤ t)
set_option maxRecDepth 65536 in
set_option maxHeartbeats 40000000 in
theorem rm_cmp3_2 (l : Launch) (Z : State) (a0 : Array Value) (hw : ∀ d ∈ tables_1, d.before a0 Z = true) (ws : List Jvm.Cond) (va : Addr) (kc : ClassId) (c0 : Int32) (c1 : Int32) (h0 : Heap) (n0 : Nat) (O0 : Old Z n0 h0) (VA : Arv Z h0 va kc .char (2 : Int32) [(.int c0), (.int c1)] (.int (0 : Int32))) (hp0 : ¬ (255 : Int32) < c0) (hp1 : ¬ (255 : Int32) < c1) :
    own_MF l own_m3 (Jvm.Cond.code own_m3 jdk_52_method_16_code 6 (some (.array .byte)) :: ws) ({ frames := 1, cells := 1, slots := 2, locals := 18 } : Room) #[(.ref va), (.int (0 : Int32)), (.int (2 : Int32))] Z h0 (Q_cmp3_2 Z va kc c0 c1 h0 n0) := by
  refine own_met (own := "java/lang/StringUTF16") (nme := "compress") rfl rfl (plainFor_of_name pn_1) ?_
  intro p e s m below meth c s₁ hx hby hml hown hnm X0 e0 hret hlk hZ
  have N0 := Fr.nil n0
  rw [ef_cmp3_2 m va (0 : Int32) (2 : Int32)]
  refine own_st (T' := s₁) (g' := (mkF m 1 #[rv va, iv (0 : Int32), iv (2 : Int32), .unset, .unset, .unset] [(.int (2 : Int32))])) (fun _ k_ => XS.iloadN X0.here hx rfl (hb hby d35_0) rfl  k_) ?_
  obtain ⟨T1, h1, k1, X1, e1, E1, A1, st1⟩ := newP X0 hx hZ (wd hw 19 rfl) e0 (g := (mkF m 1 #[rv va, iv (0 : Int32), iv (2 : Int32), .unset, .unset, .unset] [(.int (2 : Int32))])) rfl (hb hby d35_1) rfl (by decide) (cap := 2) (by decide) (by decide) (by decide) (by decide)
  obtain ⟨b1, g1⟩ : ∃ z, z = h0.size := ⟨_, rfl⟩
  rw [← g1] at A1 st1
  have fr1 : n0 ≤ b1 := Nat.le_trans (own_z O0) (Nat.le_of_eq g1.symm)
  have sz1 : h0.size ≤ b1 := Nat.le_trans (Keep.refl h0 []).1 (Nat.le_of_eq g1.symm)
  have V1 : Arv Z h1 b1 k1 .byte (2 : Int32) [(.int (0 : Int32)), (.int (0 : Int32))] (.int (0 : Int32)) := (Arv.new A1 (by decide)).pad (pad_rep [] (.int (0 : Int32)) 2)
  refine own_st (T' := T1) (g' := (mkF m 3 #[rv va, iv (0 : Int32), iv (2 : Int32), .unset, .unset, .unset] [(.ref b1)])) st1 ?_
  clear st1
  refine own_st (T' := T1) (g' := (mkF m 4 #[rv va, iv (0 : Int32), iv (2 : Int32), rv b1, .unset, .unset] [])) (fun _ k_ => XS.astoreN X1.here hx rfl (hb hby d35_3) rfl rfl (l' := #[rv va, iv (0 : Int32), iv (2 : Int32), rv b1, .unset, .unset]) rfl k_) ?_
  refine own_st (T' := T1) (g' := (mkF m 5 #[rv va, iv (0 : Int32), iv (2 : Int32), rv b1, .unset, .unset] [(.ref va)])) (fun _ k_ => XS.aloadN X1.here hx rfl (hb hby d35_4) rfl rfl  k_) ?_
  refine own_st (T' := T1) (g' := (mkF m 6 #[rv va, iv (0 : Int32), iv (2 : Int32), rv b1, .unset, .unset] [(.int (0 : Int32)), (.ref va)])) (fun _ k_ => XS.iloadN X1.here hx rfl (hb hby d35_5) rfl  k_) ?_
  refine own_st (T' := T1) (g' := (mkF m 7 #[rv va, iv (0 : Int32), iv (2 : Int32), rv b1, .unset, .unset] [(.ref b1), (.int (0 : Int32)), (.ref va)])) (fun _ k_ => XS.aloadN X1.here hx rfl (hb hby d35_6) rfl rfl  k_) ?_
  refine own_st (T' := T1) (g' := (mkF m 8 #[rv va, iv (0 : Int32), iv (2 : Int32), rv b1, .unset, .unset] [(.int (0 : Int32)), (.ref b1), (.int (0 : Int32)), (.ref va)])) (fun _ k_ => XS.iconst X1.here hx rfl (hb hby d35_7) k_) ?_
  refine own_st (T' := T1) (g' := (mkF m 9 #[rv va, iv (0 : Int32), iv (2 : Int32), rv b1, .unset, .unset] [(.int (2 : Int32)), (.int (0 : Int32)), (.ref b1), (.int (0 : Int32)), (.ref va)])) (fun _ k_ => XS.iloadN X1.here hx rfl (hb hby d35_8) rfl  k_) ?_
  have f2 := VA.ext E1
  have ne3 : va ≠ b1 := Nat.ne_of_lt (Nat.lt_of_lt_of_le VA.lt (Nat.le_of_eq g1.symm))
  have f4 := O0.ext E1
  obtain ⟨_, T5, L5, X5, hQ5, st5⟩ := own_callS X1 hx (y := own_m2) hown (mvT hZ (wd hw 252 rfl)) (mvT hZ (wd hw 253 rfl)) (mvT hZ (wd hw 250 rfl)) (mvT hZ (wd hw 254 rfl)) (by decide) (backOf (W := 0) (rm_cmp5_2 l Z a0 hw [] va b1 kc k1 c0 c1 h1 n0 f4 f2 V1 ne3 fr1 hp0 hp1) hZ (wd hw 254 rfl) (wd hw 250 rfl) (by decide) (by decide)) (g := (mkF m 9 #[rv va, iv (0 : Int32), iv (2 : Int32), rv b1, .unset, .unset] [(.int (2 : Int32)), (.int (0 : Int32)), (.ref b1), (.int (0 : Int32)), (.ref va)])) rfl (by rw [hml]; rfl) (argsL := [(.ref va), (.int (0 : Int32)), (.ref b1), (.int (0 : Int32)), (.int (2 : Int32))]) (rest := []) (lenOf pd___CI_BII_I rfl) rfl (by show 2 * 0 + _ ≤ _; exact Nat.le_of_eq rfl) (hb hby d35_9) rfl e1 (by decide) (by decide) (c' := 1) (s' := 2) rfl rfl
  obtain ⟨rfl, Nq5, K5, fq5_0⟩ := hQ5
  have N5 := Fr.app N0 Nq5
  refine own_st (T' := T5) (g' := (mkF m 12 #[rv va, iv (0 : Int32), iv (2 : Int32), rv b1, .unset, .unset] [(.int (2 : Int32))])) st5 ?_
  clear st5
  refine own_st (T' := T5) (g' := (mkF m 14 #[rv va, iv (0 : Int32), iv (2 : Int32), rv b1, iv (2 : Int32), .unset] [])) (fun _ k_ => XS.istore X5.here hx rfl (hb hby d35_12) rfl (l' := #[rv va, iv (0 : Int32), iv (2 : Int32), rv b1, iv (2 : Int32), .unset]) rfl k_) ?_
  refine own_st (T' := T5) (g' := (mkF m 16 #[rv va, iv (0 : Int32), iv (2 : Int32), rv b1, iv (2 : Int32), .unset] [(.int (2 : Int32))])) (fun _ k_ => XS.iload X5.here hx rfl (hb hby d35_14) rfl  k_) ?_
  refine own_st (T' := T5) (g' := (mkF m 17 #[rv va, iv (0 : Int32), iv (2 : Int32), rv b1, iv (2 : Int32), .unset] [(.int (2 : Int32)), (.int (2 : Int32))])) (fun _ k_ => XS.iloadN X5.here hx rfl (hb hby d35_16) rfl  k_) ?_
  refine own_st (T' := T5) (g' := (mkF m 57 #[rv va, iv (0 : Int32), iv (2 : Int32), rv b1, iv (2 : Int32), .unset] [])) (fun _ k_ => XS.icmpYes X5.here hx rfl (pc0 := 17) (pc' := 57) rfl (hb hby d35_17) rfl (teq (rfl : (2 : Int32) = (2 : Int32))).1 (by decide) (by decide) k_) ?_
  refine own_st (T' := T5) (g' := (mkF m 58 #[rv va, iv (0 : Int32), iv (2 : Int32), rv b1, iv (2 : Int32), .unset] [(.ref b1)])) (fun _ k_ => XS.aloadN X5.here hx rfl (hb hby d35_57) rfl rfl  k_) ?_
  have f6 := (Keep.refl h0 []).ext E1
  have f7 := f6.trans K5 (allS (Or.inr sz1) all0)
  exact own_retA X5 hx hret rfl rfl hlk (hb hby d35_58) (by decide) (by decide) ⟨b1, k1, rfl, N5, f7, fq5_0, sz1⟩
theorem ef_cdr_2 (m : MethodId) (x0 : Addr) (x1 : Int32) : entryFrame m #[(.ref x0), (.int x1)] 2 = mkF m 0 #[rv x0, iv x1] [] := by first | (simp [entryFrame, mkF, argsToLocals, Value.category]; done) | rfl
def Q_cdr_2 (Z : State) (t : Addr) (kb : ClassId) (vs : List Value) (h0 : Heap) (n0 : Nat) (v : Option Value) (h : Heap) (L : List Loc) : Prop := (v = some (.int (0 : Int32))) ∧ (Fr n0 L) ∧ (h = h0)
set_option maxRecDepth 65536 in
set_option maxHeartbeats 40000000 in
theorem rm_cdr_2 (l : Launch) (Z : State) (a0 : Array Value) (hw : ∀ d ∈ tables_1, d.before a0 Z = true) (ws : List Jvm.Cond) (t : Addr) (kb : ClassId) (vs : List Value) (h0 : Heap) (n0 : Nat) (O0 : Old Z n0 h0) (VT : Arv Z h0 t kb .byte (2 : Int32) vs (.int (0 : Int32))) :
    own_MF l own_m4 (Jvm.Cond.code own_m4 jdk_52_method_15_code 2 (some .byte) :: ws) ({ frames := 0, cells := 0, slots := 0, locals := 0 } : Room) #[(.ref t), (.int (2 : Int32))] Z h0 (Q_cdr_2 Z t kb vs h0 n0) := by
  refine own_met (own := "java/lang/StringUTF16") (nme := "coderFromArrayLen") rfl rfl (plainFor_of_name pn_1) ?_
  intro p e s m below meth c s₁ hx hby hml hown hnm X0 e0 hret hlk hZ
  have N0 := Fr.nil n0
  rw [ef_cdr_2 m t (2 : Int32)]
  refine own_st (T' := s₁) (g' := (mkF m 1 #[rv t, iv (2 : Int32)] [(.int (2 : Int32))])) (fun _ k_ => XS.iloadN X0.here hx rfl (hb hby d37_0) rfl  k_) ?_
  refine own_st (T' := s₁) (g' := (mkF m 2 #[rv t, iv (2 : Int32)] [(.ref t), (.int (2 : Int32))])) (fun _ k_ => XS.aloadN X0.here hx rfl (hb hby d37_1) rfl rfl  k_) ?_
  obtain ⟨cl1, Ar1, -, S1, N1, -, -⟩ := id VT
  refine own_st (T' := s₁) (g' := (mkF m 3 #[rv t, iv (2 : Int32)] [(.int (2 : Int32)), (.int (2 : Int32))])) (fun t_ k_ => X0.arraylength hx (by rw [e0]; exact Ar1.1) (State.isArrayOf_alike hZ.alike Ar1.2.1) (g := (mkF m 2 #[rv t, iv (2 : Int32)] [(.ref t), (.int (2 : Int32))])) rfl rfl (hb hby d37_2) _ (by rw [len_of S1 N1]; exact k_)) ?_
  refine own_st (T' := s₁) (g' := (mkF m 4 #[rv t, iv (2 : Int32)] [(.int (0 : Int32))])) (fun _ k_ => XS.isub X0.here hx rfl (hb hby d37_3) rfl k_) ?_
  refine own_st (T' := s₁) (g' := (mkF m 6 #[rv t, iv (2 : Int32)] [(.int (31 : Int32)), (.int (0 : Int32))])) (fun _ k_ => XS.bipush X0.here hx rfl (hb hby d37_4) k_) ?_
  refine own_st (T' := s₁) (g' := (mkF m 7 #[rv t, iv (2 : Int32)] [(.int (((0 : Int32).toUInt32 >>> ((31 : Int32) &&& 31).toUInt32).toInt32))])) (fun _ k_ => XS.iushr X0.here hx rfl (hb hby d37_6) rfl k_) ?_
  refine own_st (T' := s₁) (g' := (mkF m 8 #[rv t, iv (2 : Int32)] [(.int ((((0 : Int32).toUInt32 >>> ((31 : Int32) &&& 31).toUInt32).toInt32).toInt8.toInt32))])) (fun _ k_ => XS.i2b X0.here hx rfl (hb hby d37_7) rfl k_) ?_
  exact own_retN X0 hx (t := .byte) hret (by simp) hlk (hb hby d37_8) (by decide) (by decide) ⟨(by decide), N0, e0⟩
theorem ef_ini4_2 (m : MethodId) (x0 : Addr) (x1 : Addr) (x2 : Int32) (x3 : Int32) : entryFrame m #[(.ref x0), (.ref x1), (.int x2), (.int x3), .null] 6 = mkF m 0 #[rv x0, rv x1, iv x2, iv x3, .val .null, .unset] [] := by first | (simp [entryFrame, mkF, argsToLocals, Value.category]; done) | rfl
def Q_ini4_2 (Z : State) (a : Addr) (va : Addr) (kc : ClassId) (cz : Int32) (c0 : Int32) (c1 : Int32) (h0 : Heap) (n0 : Nat) (v : Option Value) (h : Heap) (L : List Loc) : Prop := ∃ (t : Addr) (kb : ClassId), (v = none) ∧ (Fr n0 L) ∧ (Keep h0 h [a]) ∧ (Exa Z h a "java/lang/String") ∧ (Fld Z h a "java/lang/String" "coder" "B" (.int (0 : Int32))) ∧ (Fld Z h a "java/lang/String" "value" "[B" (.ref t)) ∧ (Arv Z h t kb .byte (2 : Int32) [(.int (c0.toInt8.toInt32)), (.int (c1.toInt8.toInt32))] (.int (0 : Int32))) ∧ (h0.size ≤ t)
set_option maxRecDepth 65536 in
set_option maxHeartbeats 40000000 in
theorem rm_ini4_2 (l : Launch) (Z : State) (a0 : Array Value) (hw : ∀ d ∈ tables_1, d.before a0 Z = true) (ws : List Jvm.Cond) (a : Addr) (va : Addr) (kc : ClassId) (cz : Int32) (c0 : Int32) (c1 : Int32) (h0 : Heap) (n0 : Nat) (O0 : Old Z n0 h0) (EA : Exa Z h0 a "java/lang/String") (FV : Fld Z h0 a "java/lang/String" "value" "[B" .null) (FC : Fld Z h0 a "java/lang/String" "coder" "B" (.int (0 : Int32))) (fa : n0 ≤ a) (VA : Arv Z h0 va kc .char (2 : Int32) [(.int c0), (.int c1)] (.int (0 : Int32))) (SC : Sta Z Z.heap "java/lang/String" "COMPACT_STRINGS" "Z" (.int cz)) (hcz : ¬ cz = (0 : Int32)) (hp0 : ¬ (255 : Int32) < c0) (hp1 : ¬ (255 : Int32) < c1) :
    own_MF l own_m0 (Jvm.Cond.code own_m0 jdk_42_method_149_code 6 none :: ws) ({ frames := 2, cells := 1, slots := 2, locals := 35 } : Room) #[(.ref a), (.ref va), (.int (0 : Int32)), (.int (2 : Int32)), .null] Z h0 (Q_ini4_2 Z a va kc cz c0 c1 h0 n0) := by
  refine own_met (own := "java/lang/String") (nme := "<init>") rfl rfl (plainFor_of_name pn_0) ?_
  intro p e s m below meth c s₁ hx hby hml hown hnm X0 e0 hret hlk hZ
  have N0 := Fr.nil n0
  rw [ef_ini4_2 m a va (0 : Int32) (2 : Int32)]
  refine own_st (T' := s₁) (g' := (mkF m 1 #[rv a, rv va, iv (0 : Int32), iv (2 : Int32), .val .null, .unset] [(.ref a)])) (fun _ k_ => XS.aloadN X0.here hx rfl (hb hby d3_0) rfl rfl  k_) ?_
  obtain ⟨T1, X1, e1, st1⟩ := initO X0 hx hZ hown (wd hw 15 rfl) (wd hw 16 rfl) (wd hw 17 rfl) e0 (g := (mkF m 1 #[rv a, rv va, iv (0 : Int32), iv (2 : Int32), .val .null, .unset] [(.ref a)])) rfl (by rw [hml]; rfl) rfl (hb hby d3_1) (by decide) (W := 0) (by show 2 * 0 + _ ≤ _; exact Nat.le_of_eq rfl) (by decide)
  refine own_st (T' := T1) (g' := (mkF m 4 #[rv a, rv va, iv (0 : Int32), iv (2 : Int32), .val .null, .unset] [])) st1 ?_
  clear st1
  refine own_st (T' := T1) (g' := (mkF m 5 #[rv a, rv va, iv (0 : Int32), iv (2 : Int32), .val .null, .unset] [(.int (2 : Int32))])) (fun _ k_ => XS.iloadN X1.here hx rfl (hb hby d3_4) rfl  k_) ?_
  refine own_st (T' := T1) (g' := (mkF m 27 #[rv a, rv va, iv (0 : Int32), iv (2 : Int32), .val .null, .unset] [])) (fun _ k_ => XS.ifYes X1.here hx rfl (pc0 := 5) (pc' := 27) rfl (hb hby d3_5) rfl ((if0 _ _).trans (feq (by decide : ¬ ((2 : Int32) = (0 : Int32)))).2) (by decide) (by decide) k_) ?_
  obtain ⟨T2, X2, e2, st2⟩ := getS2 X1 hx hZ hown (host := "") (Or.inl (wd hw 247 rfl)) Via.refl e1 (SC.ext O0.2) (g := (mkF m 27 #[rv a, rv va, iv (0 : Int32), iv (2 : Int32), .val .null, .unset] [])) rfl (hb hby d3_27)
  refine own_st (T' := T2) (g' := (mkF m 30 #[rv a, rv va, iv (0 : Int32), iv (2 : Int32), .val .null, .unset] [(.int cz)])) st2 ?_
  clear st2
  refine own_st (T' := T2) (g' := (mkF m 33 #[rv a, rv va, iv (0 : Int32), iv (2 : Int32), .val .null, .unset] [])) (fun _ k_ => XS.ifNo X2.here hx rfl (hb hby d3_30) rfl ((if0 _ _).trans (feq (hcz : ¬ (cz = (0 : Int32)))).1) k_) ?_
  refine own_st (T' := T2) (g' := (mkF m 34 #[rv a, rv va, iv (0 : Int32), iv (2 : Int32), .val .null, .unset] [(.ref va)])) (fun _ k_ => XS.aloadN X2.here hx rfl (hb hby d3_33) rfl rfl  k_) ?_
  refine own_st (T' := T2) (g' := (mkF m 35 #[rv a, rv va, iv (0 : Int32), iv (2 : Int32), .val .null, .unset] [(.int (0 : Int32)), (.ref va)])) (fun _ k_ => XS.iloadN X2.here hx rfl (hb hby d3_34) rfl  k_) ?_
  refine own_st (T' := T2) (g' := (mkF m 36 #[rv a, rv va, iv (0 : Int32), iv (2 : Int32), .val .null, .unset] [(.int (2 : Int32)), (.int (0 : Int32)), (.ref va)])) (fun _ k_ => XS.iloadN X2.here hx rfl (hb hby d3_35) rfl  k_) ?_
  obtain ⟨_, T3, L3, X3, hQ3, st3⟩ := own_callS X2 hx (y := own_m3) hown (mvT hZ (wd hw 248 rfl)) (mvT hZ (wd hw 249 rfl)) (mvT hZ (wd hw 250 rfl)) (mvT hZ (wd hw 251 rfl)) (by decide) (backOf (W := 0) (rm_cmp3_2 l Z a0 hw [] va kc c0 c1 h0 n0 O0 VA hp0 hp1) hZ (wd hw 251 rfl) (wd hw 250 rfl) (by decide) (by decide)) (g := (mkF m 36 #[rv a, rv va, iv (0 : Int32), iv (2 : Int32), .val .null, .unset] [(.int (2 : Int32)), (.int (0 : Int32)), (.ref va)])) rfl (by rw [hml]; rfl) (argsL := [(.ref va), (.int (0 : Int32)), (.int (2 : Int32))]) (rest := []) (lenOf pd___CII__B rfl) rfl (by show 2 * 0 + _ ≤ _; exact Nat.le_of_eq rfl) (hb hby d3_36) rfl e2 (by decide) (by decide) (c' := 1) (s' := 2) rfl rfl
  obtain ⟨t3, kb3, rfl, Nq3, K3, fq3_0, xq3_fresh_t⟩ := hQ3
  have N3 := Fr.app N0 Nq3
  refine own_st (T' := T3) (g' := (mkF m 39 #[rv a, rv va, iv (0 : Int32), iv (2 : Int32), .val .null, .unset] [(.ref t3)])) st3 ?_
  clear st3
  refine own_st (T' := T3) (g' := (mkF m 41 #[rv a, rv va, iv (0 : Int32), iv (2 : Int32), .val .null, rv t3] [])) (fun _ k_ => XS.astore X3.here hx rfl (hb hby d3_39) rfl rfl (l' := #[rv a, rv va, iv (0 : Int32), iv (2 : Int32), .val .null, rv t3]) rfl k_) ?_
  refine own_st (T' := T3) (g' := (mkF m 42 #[rv a, rv va, iv (0 : Int32), iv (2 : Int32), .val .null, rv t3] [(.ref a)])) (fun _ k_ => XS.aloadN X3.here hx rfl (hb hby d3_41) rfl rfl  k_) ?_
  refine own_st (T' := T3) (g' := (mkF m 44 #[rv a, rv va, iv (0 : Int32), iv (2 : Int32), .val .null, rv t3] [(.ref t3), (.ref a)])) (fun _ k_ => XS.aload X3.here hx rfl (hb hby d3_42) rfl rfl  k_) ?_
  refine own_st (T' := T3) (g' := (mkF m 45 #[rv a, rv va, iv (0 : Int32), iv (2 : Int32), .val .null, rv t3] [(.int (2 : Int32)), (.ref t3), (.ref a)])) (fun _ k_ => XS.iloadN X3.here hx rfl (hb hby d3_44) rfl  k_) ?_
  have f4 := O0.keep K3 all0
  obtain ⟨_, T5, L5, X5, hQ5, st5⟩ := own_callS X3 hx (y := own_m4) hown (mvT hZ (wd hw 255 rfl)) (mvT hZ (wd hw 256 rfl)) (mvT hZ (wd hw 250 rfl)) (mvT hZ (wd hw 257 rfl)) (by decide) (backOf (W := 1) (rm_cdr_2 l Z a0 hw [] t3 kb3 [(.int (c0.toInt8.toInt32)), (.int (c1.toInt8.toInt32))] T3.heap n0 f4 fq3_0) hZ (wd hw 257 rfl) (wd hw 250 rfl) (by decide) (by decide)) (g := (mkF m 45 #[rv a, rv va, iv (0 : Int32), iv (2 : Int32), .val .null, rv t3] [(.int (2 : Int32)), (.ref t3), (.ref a)])) rfl (by rw [hml]; rfl) (argsL := [(.ref t3), (.int (2 : Int32))]) (rest := [(.ref a)]) (lenOf pd___BI_B rfl) rfl (by show 2 * 0 + _ ≤ _; exact Nat.le_of_eq rfl) (hb hby d3_45) rfl rfl (by decide) (by decide) (c' := 1) (s' := 2) rfl rfl
  obtain ⟨rfl, Nq5, eq5⟩ := hQ5
  have N5 := Fr.app N3 Nq5
  refine own_st (T' := T5) (g' := (mkF m 48 #[rv a, rv va, iv (0 : Int32), iv (2 : Int32), .val .null, rv t3] [(.int (0 : Int32)), (.ref a)])) st5 ?_
  clear st5
  have f6 := EA.keep K3
  have f7 := FC.keep K3 nin0
  obtain ⟨T8, h8, X8, e8, W8, st8⟩ := putFN X5 hx hZ hown (wd hw 25 rfl) Via.refl eq5 f7 f6 (Or.inr ⟨(wd hw 21 rfl), rfl, hnm⟩) (wd hw 5 rfl) (ty := .byte) (v' := (.int (0 : Int32))) (by decide) rfl (by decide) (g := (mkF m 48 #[rv a, rv va, iv (0 : Int32), iv (2 : Int32), .val .null, rv t3] [(.int (0 : Int32)), (.ref a)])) rfl rfl (hb hby d3_48)
  have Fw8 : Fld Z h8 a "java/lang/String" "coder" "B" (.int (0 : Int32)) := Fld.same W8 f7
  have N8 := Fr.snoc X8 N5 fa
  refine own_st (T' := T8) (g' := (mkF m 51 #[rv a, rv va, iv (0 : Int32), iv (2 : Int32), .val .null, rv t3] [])) st8 ?_
  clear st8
  refine own_st (T' := T8) (g' := (mkF m 52 #[rv a, rv va, iv (0 : Int32), iv (2 : Int32), .val .null, rv t3] [(.ref a)])) (fun _ k_ => XS.aloadN X8.here hx rfl (hb hby d3_51) rfl rfl  k_) ?_
  refine own_st (T' := T8) (g' := (mkF m 54 #[rv a, rv va, iv (0 : Int32), iv (2 : Int32), .val .null, rv t3] [(.ref t3), (.ref a)])) (fun _ k_ => XS.aload X8.here hx rfl (hb hby d3_52) rfl rfl  k_) ?_
  have f9 := f6.wr W8
  have f10 := FV.keep K3 nin0
  have f11 := f10.other W8 (Or.inr (slot_ne (Or.inr (wd hw 20 rfl)) (Or.inr (wd hw 21 rfl)) (by decide) (t := (.array .byte)) (t' := .byte) (by decide) (by decide)))
  obtain ⟨T12, h12, X12, e12, W12, st12⟩ := putF X8 hx hZ hown (host := "") (Or.inl (wd hw 24 rfl)) Via.refl e8 f11 f9 (Or.inr ⟨(wd hw 20 rfl), rfl, hnm⟩) (wd hw 5 rfl) (ty := (.array .byte)) (by decide) rfl rfl (g := (mkF m 54 #[rv a, rv va, iv (0 : Int32), iv (2 : Int32), .val .null, rv t3] [(.ref t3), (.ref a)])) rfl rfl (hb hby d3_54)
  have Fw12 : Fld Z h12 a "java/lang/String" "value" "[B" (.ref t3) := Fld.same W12 f11
  have N12 := Fr.snoc X12 N8 fa
  refine own_st (T' := T12) (g' := (mkF m 57 #[rv a, rv va, iv (0 : Int32), iv (2 : Int32), .val .null, rv t3] [])) st12 ?_
  clear st12
  have f13 := (Keep.refl h0 [a]).trans K3 all0
  have f14 := f13.wr W8 (Or.inl (List.mem_of_getElem? (i := 0) rfl))
  have f15 := f14.wr W12 (Or.inl (List.mem_of_getElem? (i := 0) rfl))
  have f16 := f9.wr W12
  have f17 := Fw8.other W12 (Or.inr (slot_ne (Or.inr (wd hw 21 rfl)) (Or.inr (wd hw 20 rfl)) (by decide) (t := .byte) (t' := (.array .byte)) (by decide) (by decide)))
  have ne18 : a ≠ t3 := Nat.ne_of_lt (Nat.lt_of_lt_of_le EA.lt xq3_fresh_t)
  have f19 := fq3_0.other W8 (Ne.symm ne18)
  have f20 := f19.other W12 (Ne.symm ne18)
  exact own_retV X12 hx hret hlk (hb hby d3_57) (by decide) (by decide) (by rw [e12]; exact ⟨t3, kb3, rfl, N12, f15, f16, f17, Fw12, f20, (Nat.le_trans (Keep.refl h0 [a]).1 xq3_fresh_t)⟩)
theorem ef_ini1_2 (m : MethodId) (x0 : Addr) (x1 : Addr) : entryFrame m #[(.ref x0), (.ref x1)] 2 = mkF m 0 #[rv x0, rv x1] [] := by first | (simp [entryFrame, mkF, argsToLocals, Value.category]; done) | rfl
def Q_ini1_2 (Z : State) (a : Addr) (va : Addr) (kc : ClassId) (cz : Int32) (c0 : Int32) (c1 : Int32) (h0 : Heap) (n0 : Nat) (v : Option Value) (h : Heap) (L : List Loc) : Prop := ∃ (t : Addr) (kb : ClassId), (v = none) ∧ (Fr n0 L) ∧ (Keep h0 h [a]) ∧ (Exa Z h a "java/lang/String") ∧ (Fld Z h a "java/lang/String" "coder" "B" (.int (0 : Int32))) ∧ (Fld Z h a "java/lang/String" "value" "[B" (.ref t)) ∧ (Arv Z h t kb .byte (2 : Int32) [(.int (c0.toInt8.toInt32)), (.int (c1.toInt8.toInt32))] (.int (0 : Int32))) ∧ (h0.size ≤ t)
set_option maxRecDepth 65536 in
set_option maxHeartbeats 40000000 in
theorem rm_ini1_2 (l : Launch) (Z : State) (a0 : Array Value) (hw : ∀ d ∈ tables_1, d.before a0 Z = true) (ws : List Jvm.Cond) (a : Addr) (va : Addr) (kc : ClassId) (cz : Int32) (c0 : Int32) (c1 : Int32) (h0 : Heap) (n0 : Nat) (O0 : Old Z n0 h0) (EA : Exa Z h0 a "java/lang/String") (FV : Fld Z h0 a "java/lang/String" "value" "[B" .null) (FC : Fld Z h0 a "java/lang/String" "coder" "B" (.int (0 : Int32))) (fa : n0 ≤ a) (VA : Arv Z h0 va kc .char (2 : Int32) [(.int c0), (.int c1)] (.int (0 : Int32))) (SC : Sta Z Z.heap "java/lang/String" "COMPACT_STRINGS" "Z" (.int cz)) (hcz : ¬ cz = (0 : Int32)) (hp0 : ¬ (255 : Int32) < c0) (hp1 : ¬ (255 : Int32) < c1) :
    own_MF l own_m1 (Jvm.Cond.code own_m1 jdk_42_method_3_code 2 none :: ws) ({ frames := 3, cells := 1, slots := 2, locals := 52 } : Room) #[(.ref a), (.ref va)] Z h0 (Q_ini1_2 Z a va kc cz c0 c1 h0 n0) := by
  refine own_met (own := "java/lang/String") (nme := "<init>") rfl rfl (plainFor_of_name pn_0) ?_
  intro p e s m below meth c s₁ hx hby hml hown hnm X0 e0 hret hlk hZ
  have N0 := Fr.nil n0
  rw [ef_ini1_2 m a va]
  refine own_st (T' := s₁) (g' := (mkF m 1 #[rv a, rv va] [(.ref a)])) (fun _ k_ => XS.aloadN X0.here hx rfl (hb hby d2_0) rfl rfl  k_) ?_
  refine own_st (T' := s₁) (g' := (mkF m 2 #[rv a, rv va] [(.ref va), (.ref a)])) (fun _ k_ => XS.aloadN X0.here hx rfl (hb hby d2_1) rfl rfl  k_) ?_
  refine own_st (T' := s₁) (g' := (mkF m 3 #[rv a, rv va] [(.int (0 : Int32)), (.ref va), (.ref a)])) (fun _ k_ => XS.iconst X0.here hx rfl (hb hby d2_2) k_) ?_
  refine own_st (T' := s₁) (g' := (mkF m 4 #[rv a, rv va] [(.ref va), (.int (0 : Int32)), (.ref va), (.ref a)])) (fun _ k_ => XS.aloadN X0.here hx rfl (hb hby d2_3) rfl rfl  k_) ?_
  obtain ⟨cl1, Ar1, -, S1, N1, -, -⟩ := id VA
  refine own_st (T' := s₁) (g' := (mkF m 5 #[rv a, rv va] [(.int (2 : Int32)), (.int (0 : Int32)), (.ref va), (.ref a)])) (fun t_ k_ => X0.arraylength hx (by rw [e0]; exact Ar1.1) (State.isArrayOf_alike hZ.alike Ar1.2.1) (g := (mkF m 4 #[rv a, rv va] [(.ref va), (.int (0 : Int32)), (.ref va), (.ref a)])) rfl rfl (hb hby d2_4) _ (by rw [len_of S1 N1]; exact k_)) ?_
  refine own_st (T' := s₁) (g' := (mkF m 6 #[rv a, rv va] [.null, (.int (2 : Int32)), (.int (0 : Int32)), (.ref va), (.ref a)])) (fun _ k_ => XS.aconstNull X0.here hx rfl (hb hby d2_5) k_) ?_
  obtain ⟨_, T2, L2, X2, hQ2, st2⟩ := own_callI X0 hx (y := own_m0) rfl hown (mvT hZ (wd hw 11 rfl)) (mvT hZ (wd hw 12 rfl)) (mvT hZ (wd hw 14 rfl)) (by decide) (backOf (W := 0) (rm_ini4_2 l Z a0 hw [] a va kc cz c0 c1 h0 n0 O0 EA FV FC fa VA SC hcz hp0 hp1) hZ (wd hw 14 rfl) (wd hw 6 rfl) (by decide) (by decide)) (g := (mkF m 6 #[rv a, rv va] [.null, (.int (2 : Int32)), (.int (0 : Int32)), (.ref va), (.ref a)])) rfl (by rw [hml]; rfl) (a := a) (argsL := [(.ref va), (.int (0 : Int32)), (.int (2 : Int32)), .null]) (rest := []) (lenOf pd___CIILjava_lang_Void__V rfl) rfl (by show 2 * 0 + _ ≤ _; exact Nat.le_of_eq rfl) (hb hby d2_6) rfl e0 (by decide) (by decide) (c' := 1) (s' := 2) rfl rfl
  obtain ⟨t2, kb2, rfl, Nq2, K2, fq2_0, fq2_1, fq2_2, fq2_3, xq2_fresh_t⟩ := hQ2
  have N2 := Fr.app N0 Nq2
  refine own_st (T' := T2) (g' := (mkF m 9 #[rv a, rv va] [])) st2 ?_
  clear st2
  have f3 := (Keep.refl h0 [a]).trans K2 (allS (Or.inl (List.mem_of_getElem? (i := 0) rfl)) all0)
  exact own_retV X2 hx hret hlk (hb hby d2_9) (by decide) (by decide) ⟨t2, kb2, rfl, N2, f3, fq2_0, fq2_1, fq2_2, fq2_3, (Nat.le_trans (Keep.refl h0 [a]).1 xq2_fresh_t)⟩
theorem ef_cmp5_3 (m : MethodId) (x0 : Addr) (x1 : Int32) (x2 : Addr) (x3 : Int32) (x4 : Int32) : entryFrame m #[(.ref x0), (.int x1), (.ref x2), (.int x3), (.int x4)] 7 = mkF m 0 #[rv x0, iv x1, rv x2, iv x3, iv x4, .unset, .unset] [] := by first | (simp [entryFrame, mkF, argsToLocals, Value.category]; done) | rfl
def Q_cmp5_3 (Z : State) (va : Addr) (da : Addr) (kc : ClassId) (kd : ClassId) (c0 : Int32) (c1 : Int32) (c2 : Int32) (h0 : Heap) (n0 : Nat) (v : Option Value) (h : Heap) (L : List Loc) : Prop := (v = some (.int (3 : Int32))) ∧ (Fr n0 L) ∧ (Keep h0 h [da]) ∧ (Arv Z h da kd .byte (3 : Int32) [(.int (c0.toInt8.toInt32)), (.int (c1.toInt8.toInt32)), (.int (c2.toInt8.toInt32))] (.int (0 : Int32)))
set_option maxRecDepth 65536 in
set_option maxHeartbeats 40000000 in
theorem rm_cmp5_3 (l : Launch) (Z : State) (a0 : Array Value) (hw : ∀ d ∈ tables_1, d.before a0 Z = true) (ws : List Jvm.Cond) (va : Addr) (da : Addr) (kc : ClassId) (kd : ClassId) (c0 : Int32) (c1 : Int32) (c2 : Int32) (h0 : Heap) (n0 : Nat) (O0 : Old Z n0 h0) (VA : Arv Z h0 va kc .char (3 : Int32) [(.int c0), (.int c1), (.int c2)] (.int (0 : Int32))) (VD : Arv Z h0 da kd .byte (3 : Int32) [(.int (0 : Int32)), (.int (0 : Int32)), (.int (0 : Int32))] (.int (0 : Int32))) (nad : va ≠ da) (fda : n0 ≤ da) (hp0 : ¬ (255 : Int32) < c0) (hp1 : ¬ (255 : Int32) < c1) (hp2 : ¬ (255 : Int32) < c2) :
    own_MF l own_m2 (Jvm.Cond.code own_m2 jdk_52_method_21_code 7 (some .int) :: ws) ({ frames := 0, cells := 0, slots := 0, locals := 0 } : Room) #[(.ref va), (.int (0 : Int32)), (.ref da), (.int (0 : Int32)), (.int (3 : Int32))] Z h0 (Q_cmp5_3 Z va da kc kd c0 c1 c2 h0 n0) := by
  refine own_met (own := "java/lang/StringUTF16") (nme := "compress") rfl rfl (plainFor_of_name pn_1) ?_
  intro p e s m below meth c s₁ hx hby hml hown hnm X0 e0 hret hlk hZ
  have N0 := Fr.nil n0
  rw [ef_cmp5_3 m va (0 : Int32) da (0 : Int32) (3 : Int32)]
  refine own_st (T' := s₁) (g' := (mkF m 1 #[rv va, iv (0 : Int32), rv da, iv (0 : Int32), iv (3 : Int32), .unset, .unset] [(.int (0 : Int32))])) (fun _ k_ => XS.iconst X0.here hx rfl (hb hby d36_0) k_) ?_
  refine own_st (T' := s₁) (g' := (mkF m 3 #[rv va, iv (0 : Int32), rv da, iv (0 : Int32), iv (3 : Int32), iv (0 : Int32), .unset] [])) (fun _ k_ => XS.istore X0.here hx rfl (hb hby d36_1) rfl (l' := #[rv va, iv (0 : Int32), rv da, iv (0 : Int32), iv (3 : Int32), iv (0 : Int32), .unset]) rfl k_) ?_
  refine own_st (T' := s₁) (g' := (mkF m 5 #[rv va, iv (0 : Int32), rv da, iv (0 : Int32), iv (3 : Int32), iv (0 : Int32), .unset] [(.int (0 : Int32))])) (fun _ k_ => XS.iload X0.here hx rfl (hb hby d36_3) rfl  k_) ?_
  refine own_st (T' := s₁) (g' := (mkF m 7 #[rv va, iv (0 : Int32), rv da, iv (0 : Int32), iv (3 : Int32), iv (0 : Int32), .unset] [(.int (3 : Int32)), (.int (0 : Int32))])) (fun _ k_ => XS.iload X0.here hx rfl (hb hby d36_5) rfl  k_) ?_
  refine own_st (T' := s₁) (g' := (mkF m 10 #[rv va, iv (0 : Int32), rv da, iv (0 : Int32), iv (3 : Int32), iv (0 : Int32), .unset] [])) (fun _ k_ => XS.icmpNo X0.here hx rfl (hb hby d36_7) rfl (tlt (by decide : (0 : Int32) < (3 : Int32))).2.1 k_) ?_
  refine own_st (T' := s₁) (g' := (mkF m 11 #[rv va, iv (0 : Int32), rv da, iv (0 : Int32), iv (3 : Int32), iv (0 : Int32), .unset] [(.ref va)])) (fun _ k_ => XS.aloadN X0.here hx rfl (hb hby d36_10) rfl rfl  k_) ?_
  refine own_st (T' := s₁) (g' := (mkF m 12 #[rv va, iv (0 : Int32), rv da, iv (0 : Int32), iv (3 : Int32), iv (0 : Int32), .unset] [(.int (0 : Int32)), (.ref va)])) (fun _ k_ => XS.iloadN X0.here hx rfl (hb hby d36_11) rfl  k_) ?_
  obtain ⟨cl1, Ar1, q1, S1, N1, H1, G1⟩ := id VA
  have hin1 : ¬ ((0 : Int32) < 0 ∨ cl1.slots.size ≤ ((0 : Int32)).toNatClampNeg) := inb_of S1 ⟨by decide, by decide⟩
  refine own_st (T' := s₁) (g' := (mkF m 13 #[rv va, iv (0 : Int32), rv da, iv (0 : Int32), iv (3 : Int32), iv (0 : Int32), .unset] [(.int c0)])) (X0.caload hx (j := (0 : Int32)) (v := (.int c0)) (by rw [e0]; exact Ar1.1) (State.isArrayOf_alike hZ.alike Ar1.2.1) Ar1.2.2 hin1 (H1.at hin1 rfl) (g := (mkF m 12 #[rv va, iv (0 : Int32), rv da, iv (0 : Int32), iv (3 : Int32), iv (0 : Int32), .unset] [(.int (0 : Int32)), (.ref va)])) rfl rfl (hb hby d36_12)) ?_
  clear hin1 G1 H1 N1 S1 q1 Ar1 cl1
  refine own_st (T' := s₁) (g' := (mkF m 15 #[rv va, iv (0 : Int32), rv da, iv (0 : Int32), iv (3 : Int32), iv (0 : Int32), iv c0] [])) (fun _ k_ => XS.istore X0.here hx rfl (hb hby d36_13) rfl (l' := #[rv va, iv (0 : Int32), rv da, iv (0 : Int32), iv (3 : Int32), iv (0 : Int32), iv c0]) rfl k_) ?_
  refine own_st (T' := s₁) (g' := (mkF m 17 #[rv va, iv (0 : Int32), rv da, iv (0 : Int32), iv (3 : Int32), iv (0 : Int32), iv c0] [(.int c0)])) (fun _ k_ => XS.iload X0.here hx rfl (hb hby d36_15) rfl  k_) ?_
  refine own_st (T' := s₁) (g' := (mkF m 20 #[rv va, iv (0 : Int32), rv da, iv (0 : Int32), iv (3 : Int32), iv (0 : Int32), iv c0] [(.int (255 : Int32)), (.int c0)])) (fun _ k_ => XS.sipush X0.here hx rfl (hb hby d36_17) k_) ?_
  refine own_st (T' := s₁) (g' := (mkF m 26 #[rv va, iv (0 : Int32), rv da, iv (0 : Int32), iv (3 : Int32), iv (0 : Int32), iv c0] [])) (fun _ k_ => XS.icmpYes X0.here hx rfl (pc0 := 20) (pc' := 26) rfl (hb hby d36_20) rfl (flt (hp0 : ¬ ((255 : Int32) < c0))).2.2.2 (by decide) (by decide) k_) ?_
  refine own_st (T' := s₁) (g' := (mkF m 27 #[rv va, iv (0 : Int32), rv da, iv (0 : Int32), iv (3 : Int32), iv (0 : Int32), iv c0] [(.ref da)])) (fun _ k_ => XS.aloadN X0.here hx rfl (hb hby d36_26) rfl rfl  k_) ?_
  refine own_st (T' := s₁) (g' := (mkF m 28 #[rv va, iv (0 : Int32), rv da, iv (0 : Int32), iv (3 : Int32), iv (0 : Int32), iv c0] [(.int (0 : Int32)), (.ref da)])) (fun _ k_ => XS.iloadN X0.here hx rfl (hb hby d36_27) rfl  k_) ?_
  refine own_st (T' := s₁) (g' := (mkF m 30 #[rv va, iv (0 : Int32), rv da, iv (0 : Int32), iv (3 : Int32), iv (0 : Int32), iv c0] [(.int c0), (.int (0 : Int32)), (.ref da)])) (fun _ k_ => XS.iload X0.here hx rfl (hb hby d36_28) rfl  k_) ?_
  refine own_st (T' := s₁) (g' := (mkF m 31 #[rv va, iv (0 : Int32), rv da, iv (0 : Int32), iv (3 : Int32), iv (0 : Int32), iv c0] [(.int (c0.toInt8.toInt32)), (.int (0 : Int32)), (.ref da)])) (fun _ k_ => XS.i2b X0.here hx rfl (hb hby d36_30) rfl k_) ?_
  obtain ⟨cl2, Ar2, q2, S2, N2, H2, G2⟩ := id VD
  have hin2 : ¬ ((0 : Int32) < 0 ∨ cl2.slots.size ≤ ((0 : Int32)).toNatClampNeg) := inb_of S2 ⟨by decide, by decide⟩
  obtain ⟨T3, h3, X3, e3, W3, st3⟩ := stB X0 hx hZ e0 Ar2 (j := (0 : Int32)) hin2 (g := (mkF m 31 #[rv va, iv (0 : Int32), rv da, iv (0 : Int32), iv (3 : Int32), iv (0 : Int32), iv c0] [(.int (c0.toInt8.toInt32)), (.int (0 : Int32)), (.ref da)])) rfl rfl (hb hby d36_31)
  have V3 : Arv Z h3 da kd .byte (3 : Int32) [(.int (nar .byte (c0.toInt8.toInt32))), (.int (0 : Int32)), (.int (0 : Int32))] (.int (0 : Int32)) := Arv.set Ar2 q2 S2 N2 H2 G2 (fits_nar_byte _) W3 0 rfl (Nat.le_of_ble_eq_true rfl)
  have Vn3 : Arv Z h3 da kd .byte (3 : Int32) [(.int (c0.toInt8.toInt32)), (.int (0 : Int32)), (.int (0 : Int32))] (.int (0 : Int32)) := by simpa only [own_bb] using V3
  have Nx3 := Fr.snoc X3 N0 fda
  refine own_st (T' := T3) (g' := (mkF m 32 #[rv va, iv (0 : Int32), rv da, iv (0 : Int32), iv (3 : Int32), iv (0 : Int32), iv c0] [])) st3 ?_
  clear hin2 G2 H2 N2 S2 q2 Ar2 cl2 st3
  refine own_st (T' := T3) (g' := (mkF m 35 #[rv va, iv (1 : Int32), rv da, iv (0 : Int32), iv (3 : Int32), iv (0 : Int32), iv c0] [])) (fun _ k_ => XS.iinc X3.here hx rfl (hb hby d36_32) rfl (l' := #[rv va, iv (1 : Int32), rv da, iv (0 : Int32), iv (3 : Int32), iv (0 : Int32), iv c0]) rfl k_) ?_
  refine own_st (T' := T3) (g' := (mkF m 38 #[rv va, iv (1 : Int32), rv da, iv (1 : Int32), iv (3 : Int32), iv (0 : Int32), iv c0] [])) (fun _ k_ => XS.iinc X3.here hx rfl (hb hby d36_35) rfl (l' := #[rv va, iv (1 : Int32), rv da, iv (1 : Int32), iv (3 : Int32), iv (0 : Int32), iv c0]) rfl k_) ?_
  refine own_st (T' := T3) (g' := (mkF m 41 #[rv va, iv (1 : Int32), rv da, iv (1 : Int32), iv (3 : Int32), iv (1 : Int32), iv c0] [])) (fun _ k_ => XS.iinc X3.here hx rfl (hb hby d36_38) rfl (l' := #[rv va, iv (1 : Int32), rv da, iv (1 : Int32), iv (3 : Int32), iv (1 : Int32), iv c0]) rfl k_) ?_
  refine own_st (T' := T3) (g' := (mkF m 3 #[rv va, iv (1 : Int32), rv da, iv (1 : Int32), iv (3 : Int32), iv (1 : Int32), iv c0] [])) (fun _ k_ => XS.goto X3.here hx rfl (pc0 := 41) (pc' := 3) rfl (hb hby d36_41) (by decide) (by decide) k_) ?_
  refine own_st (T' := T3) (g' := (mkF m 5 #[rv va, iv (1 : Int32), rv da, iv (1 : Int32), iv (3 : Int32), iv (1 : Int32), iv c0] [(.int (1 : Int32))])) (fun _ k_ => XS.iload X3.here hx rfl (hb hby d36_3) rfl  k_) ?_
  refine own_st (T' := T3) (g' := (mkF m 7 #[rv va, iv (1 : Int32), rv da, iv (1 : Int32), iv (3 : Int32), iv (1 : Int32), iv c0] [(.int (3 : Int32)), (.int (1 : Int32))])) (fun _ k_ => XS.iload X3.here hx rfl (hb hby d36_5) rfl  k_) ?_
  refine own_st (T' := T3) (g' := (mkF m 10 #[rv va, iv (1 : Int32), rv da, iv (1 : Int32), iv (3 : Int32), iv (1 : Int32), iv c0] [])) (fun _ k_ => XS.icmpNo X3.here hx rfl (hb hby d36_7) rfl (tlt (by decide : (1 : Int32) < (3 : Int32))).2.1 k_) ?_
  refine own_st (T' := T3) (g' := (mkF m 11 #[rv va, iv (1 : Int32), rv da, iv (1 : Int32), iv (3 : Int32), iv (1 : Int32), iv c0] [(.ref va)])) (fun _ k_ => XS.aloadN X3.here hx rfl (hb hby d36_10) rfl rfl  k_) ?_
  refine own_st (T' := T3) (g' := (mkF m 12 #[rv va, iv (1 : Int32), rv da, iv (1 : Int32), iv (3 : Int32), iv (1 : Int32), iv c0] [(.int (1 : Int32)), (.ref va)])) (fun _ k_ => XS.iloadN X3.here hx rfl (hb hby d36_11) rfl  k_) ?_
  have f4 := VA.other W3 nad
  obtain ⟨cl5, Ar5, q5, S5, N5, H5, G5⟩ := id f4
  have hin5 : ¬ ((1 : Int32) < 0 ∨ cl5.slots.size ≤ ((1 : Int32)).toNatClampNeg) := inb_of S5 ⟨by decide, by decide⟩
  refine own_st (T' := T3) (g' := (mkF m 13 #[rv va, iv (1 : Int32), rv da, iv (1 : Int32), iv (3 : Int32), iv (1 : Int32), iv c0] [(.int c1)])) (X3.caload hx (j := (1 : Int32)) (v := (.int c1)) (by rw [e3]; exact Ar5.1) (State.isArrayOf_alike hZ.alike Ar5.2.1) Ar5.2.2 hin5 (H5.at hin5 rfl) (g := (mkF m 12 #[rv va, iv (1 : Int32), rv da, iv (1 : Int32), iv (3 : Int32), iv (1 : Int32), iv c0] [(.int (1 : Int32)), (.ref va)])) rfl rfl (hb hby d36_12)) ?_
  clear hin5 G5 H5 N5 S5 q5 Ar5 cl5
  refine own_st (T' := T3) (g' := (mkF m 15 #[rv va, iv (1 : Int32), rv da, iv (1 : Int32), iv (3 : Int32), iv (1 : Int32), iv c1] [])) (fun _ k_ => XS.istore X3.here hx rfl (hb hby d36_13) rfl (l' := #[rv va, iv (1 : Int32), rv da, iv (1 : Int32), iv (3 : Int32), iv (1 : Int32), iv c1]) rfl k_) ?_
  refine own_st (T' := T3) (g' := (mkF m 17 #[rv va, iv (1 : Int32), rv da, iv (1 : Int32), iv (3 : Int32), iv (1 : Int32), iv c1] [(.int c1)])) (fun _ k_ => XS.iload X3.here hx rfl (hb hby d36_15) rfl  k_) ?_
  refine own_st (T' := T3) (g' := (mkF m 20 #[rv va, iv (1 : Int32), rv da, iv (1 : Int32), iv (3 : Int32), iv (1 : Int32), iv c1] [(.int (255 : Int32)), (.int c1)])) (fun _ k_ => XS.sipush X3.here hx rfl (hb hby d36_17) k_) ?_
  refine own_st (T' := T3) (g' := (mkF m 26 #[rv va, iv (1 : Int32), rv da, iv (1 : Int32), iv (3 : Int32), iv (1 : Int32), iv c1] [])) (fun _ k_ => XS.icmpYes X3.here hx rfl (pc0 := 20) (pc' := 26) rfl (hb hby d36_20) rfl (flt (hp1 : ¬ ((255 : Int32) < c1))).2.2.2 (by decide) (by decide) k_) ?_
  refine own_st (T' := T3) (g' := (mkF m 27 #[rv va, iv (1 : Int32), rv da, iv (1 : Int32), iv (3 : Int32), iv (1 : Int32), iv c1] [(.ref da)])) (fun _ k_ => XS.aloadN X3.here hx rfl (hb hby d36_26) rfl rfl  k_) ?_
  refine own_st (T' := T3) (g' := (mkF m 28 #[rv va, iv (1 : Int32), rv da, iv (1 : Int32), iv (3 : Int32), iv (1 : Int32), iv c1] [(.int (1 : Int32)), (.ref da)])) (fun _ k_ => XS.iloadN X3.here hx rfl (hb hby d36_27) rfl  k_) ?_
  refine own_st (T' := T3) (g' := (mkF m 30 #[rv va, iv (1 : Int32), rv da, iv (1 : Int32), iv (3 : Int32), iv (1 : Int32), iv c1] [(.int c1), (.int (1 : Int32)), (.ref da)])) (fun _ k_ => XS.iload X3.here hx rfl (hb hby d36_28) rfl  k_) ?_
  refine own_st (T' := T3) (g' := (mkF m 31 #[rv va, iv (1 : Int32), rv da, iv (1 : Int32), iv (3 : Int32), iv (1 : Int32), iv c1] [(.int (c1.toInt8.toInt32)), (.int (1 : Int32)), (.ref da)])) (fun _ k_ => XS.i2b X3.here hx rfl (hb hby d36_30) rfl k_) ?_
  obtain ⟨cl6, Ar6, q6, S6, N6, H6, G6⟩ := id Vn3
  have hin6 : ¬ ((1 : Int32) < 0 ∨ cl6.slots.size ≤ ((1 : Int32)).toNatClampNeg) := inb_of S6 ⟨by decide, by decide⟩
  obtain ⟨T7, h7, X7, e7, W7, st7⟩ := stB X3 hx hZ e3 Ar6 (j := (1 : Int32)) hin6 (g := (mkF m 31 #[rv va, iv (1 : Int32), rv da, iv (1 : Int32), iv (3 : Int32), iv (1 : Int32), iv c1] [(.int (c1.toInt8.toInt32)), (.int (1 : Int32)), (.ref da)])) rfl rfl (hb hby d36_31)
  have V7 : Arv Z h7 da kd .byte (3 : Int32) [(.int (c0.toInt8.toInt32)), (.int (nar .byte (c1.toInt8.toInt32))), (.int (0 : Int32))] (.int (0 : Int32)) := Arv.set Ar6 q6 S6 N6 H6 G6 (fits_nar_byte _) W7 1 rfl (Nat.le_of_ble_eq_true rfl)
  have Vn7 : Arv Z h7 da kd .byte (3 : Int32) [(.int (c0.toInt8.toInt32)), (.int (c1.toInt8.toInt32)), (.int (0 : Int32))] (.int (0 : Int32)) := by simpa only [own_bb] using V7
  have Nx7 := Fr.snoc X7 Nx3 fda
  refine own_st (T' := T7) (g' := (mkF m 32 #[rv va, iv (1 : Int32), rv da, iv (1 : Int32), iv (3 : Int32), iv (1 : Int32), iv c1] [])) st7 ?_
  clear hin6 G6 H6 N6 S6 q6 Ar6 cl6 st7
  refine own_st (T' := T7) (g' := (mkF m 35 #[rv va, iv (2 : Int32), rv da, iv (1 : Int32), iv (3 : Int32), iv (1 : Int32), iv c1] [])) (fun _ k_ => XS.iinc X7.here hx rfl (hb hby d36_32) rfl (l' := #[rv va, iv (2 : Int32), rv da, iv (1 : Int32), iv (3 : Int32), iv (1 : Int32), iv c1]) rfl k_) ?_
  refine own_st (T' := T7) (g' := (mkF m 38 #[rv va, iv (2 : Int32), rv da, iv (2 : Int32), iv (3 : Int32), iv (1 : Int32), iv c1] [])) (fun _ k_ => XS.iinc X7.here hx rfl (hb hby d36_35) rfl (l' := #[rv va, iv (2 : Int32), rv da, iv (2 : Int32), iv (3 : Int32), iv (1 : Int32), iv c1]) rfl k_) ?_
  refine own_st (T' := T7) (g' := (mkF m 41 #[rv va, iv (2 : Int32), rv da, iv (2 : Int32), iv (3 : Int32), iv (2 : Int32), iv c1] [])) (fun _ k_ => XS.iinc X7.here hx rfl (hb hby d36_38) rfl (l' := #[rv va, iv (2 : Int32), rv da, iv (2 : Int32), iv (3 : Int32), iv (2 : Int32), iv c1]) rfl k_) ?_
  refine own_st (T' := T7) (g' := (mkF m 3 #[rv va, iv (2 : Int32), rv da, iv (2 : Int32), iv (3 : Int32), iv (2 : Int32), iv c1] [])) (fun _ k_ => XS.goto X7.here hx rfl (pc0 := 41) (pc' := 3) rfl (hb hby d36_41) (by decide) (by decide) k_) ?_
  refine own_st (T' := T7) (g' := (mkF m 5 #[rv va, iv (2 : Int32), rv da, iv (2 : Int32), iv (3 : Int32), iv (2 : Int32), iv c1] [(.int (2 : Int32))])) (fun _ k_ => XS.iload X7.here hx rfl (hb hby d36_3) rfl  k_) ?_
  refine own_st (T' := T7) (g' := (mkF m 7 #[rv va, iv (2 : Int32), rv da, iv (2 : Int32), iv (3 : Int32), iv (2 : Int32), iv c1] [(.int (3 : Int32)), (.int (2 : Int32))])) (fun _ k_ => XS.iload X7.here hx rfl (hb hby d36_5) rfl  k_) ?_
  refine own_st (T' := T7) (g' := (mkF m 10 #[rv va, iv (2 : Int32), rv da, iv (2 : Int32), iv (3 : Int32), iv (2 : Int32), iv c1] [])) (fun _ k_ => XS.icmpNo X7.here hx rfl (hb hby d36_7) rfl (tlt (by decide : (2 : Int32) < (3 : Int32))).2.1 k_) ?_
  refine own_st (T' := T7) (g' := (mkF m 11 #[rv va, iv (2 : Int32), rv da, iv (2 : Int32), iv (3 : Int32), iv (2 : Int32), iv c1] [(.ref va)])) (fun _ k_ => XS.aloadN X7.here hx rfl (hb hby d36_10) rfl rfl  k_) ?_
  refine own_st (T' := T7) (g' := (mkF m 12 #[rv va, iv (2 : Int32), rv da, iv (2 : Int32), iv (3 : Int32), iv (2 : Int32), iv c1] [(.int (2 : Int32)), (.ref va)])) (fun _ k_ => XS.iloadN X7.here hx rfl (hb hby d36_11) rfl  k_) ?_
  have f8 := f4.other W7 nad
  obtain ⟨cl9, Ar9, q9, S9, N9, H9, G9⟩ := id f8
  have hin9 : ¬ ((2 : Int32) < 0 ∨ cl9.slots.size ≤ ((2 : Int32)).toNatClampNeg) := inb_of S9 ⟨by decide, by decide⟩
  refine own_st (T' := T7) (g' := (mkF m 13 #[rv va, iv (2 : Int32), rv da, iv (2 : Int32), iv (3 : Int32), iv (2 : Int32), iv c1] [(.int c2)])) (X7.caload hx (j := (2 : Int32)) (v := (.int c2)) (by rw [e7]; exact Ar9.1) (State.isArrayOf_alike hZ.alike Ar9.2.1) Ar9.2.2 hin9 (H9.at hin9 rfl) (g := (mkF m 12 #[rv va, iv (2 : Int32), rv da, iv (2 : Int32), iv (3 : Int32), iv (2 : Int32), iv c1] [(.int (2 : Int32)), (.ref va)])) rfl rfl (hb hby d36_12)) ?_
  clear hin9 G9 H9 N9 S9 q9 Ar9 cl9
  refine own_st (T' := T7) (g' := (mkF m 15 #[rv va, iv (2 : Int32), rv da, iv (2 : Int32), iv (3 : Int32), iv (2 : Int32), iv c2] [])) (fun _ k_ => XS.istore X7.here hx rfl (hb hby d36_13) rfl (l' := #[rv va, iv (2 : Int32), rv da, iv (2 : Int32), iv (3 : Int32), iv (2 : Int32), iv c2]) rfl k_) ?_
  refine own_st (T' := T7) (g' := (mkF m 17 #[rv va, iv (2 : Int32), rv da, iv (2 : Int32), iv (3 : Int32), iv (2 : Int32), iv c2] [(.int c2)])) (fun _ k_ => XS.iload X7.here hx rfl (hb hby d36_15) rfl  k_) ?_
  refine own_st (T' := T7) (g' := (mkF m 20 #[rv va, iv (2 : Int32), rv da, iv (2 : Int32), iv (3 : Int32), iv (2 : Int32), iv c2] [(.int (255 : Int32)), (.int c2)])) (fun _ k_ => XS.sipush X7.here hx rfl (hb hby d36_17) k_) ?_
  refine own_st (T' := T7) (g' := (mkF m 26 #[rv va, iv (2 : Int32), rv da, iv (2 : Int32), iv (3 : Int32), iv (2 : Int32), iv c2] [])) (fun _ k_ => XS.icmpYes X7.here hx rfl (pc0 := 20) (pc' := 26) rfl (hb hby d36_20) rfl (flt (hp2 : ¬ ((255 : Int32) < c2))).2.2.2 (by decide) (by decide) k_) ?_
  refine own_st (T' := T7) (g' := (mkF m 27 #[rv va, iv (2 : Int32), rv da, iv (2 : Int32), iv (3 : Int32), iv (2 : Int32), iv c2] [(.ref da)])) (fun _ k_ => XS.aloadN X7.here hx rfl (hb hby d36_26) rfl rfl  k_) ?_
  refine own_st (T' := T7) (g' := (mkF m 28 #[rv va, iv (2 : Int32), rv da, iv (2 : Int32), iv (3 : Int32), iv (2 : Int32), iv c2] [(.int (2 : Int32)), (.ref da)])) (fun _ k_ => XS.iloadN X7.here hx rfl (hb hby d36_27) rfl  k_) ?_
  refine own_st (T' := T7) (g' := (mkF m 30 #[rv va, iv (2 : Int32), rv da, iv (2 : Int32), iv (3 : Int32), iv (2 : Int32), iv c2] [(.int c2), (.int (2 : Int32)), (.ref da)])) (fun _ k_ => XS.iload X7.here hx rfl (hb hby d36_28) rfl  k_) ?_
  refine own_st (T' := T7) (g' := (mkF m 31 #[rv va, iv (2 : Int32), rv da, iv (2 : Int32), iv (3 : Int32), iv (2 : Int32), iv c2] [(.int (c2.toInt8.toInt32)), (.int (2 : Int32)), (.ref da)])) (fun _ k_ => XS.i2b X7.here hx rfl (hb hby d36_30) rfl k_) ?_
  obtain ⟨cl10, Ar10, q10, S10, N10, H10, G10⟩ := id Vn7
  have hin10 : ¬ ((2 : Int32) < 0 ∨ cl10.slots.size ≤ ((2 : Int32)).toNatClampNeg) := inb_of S10 ⟨by decide, by decide⟩
  obtain ⟨T11, h11, X11, e11, W11, st11⟩ := stB X7 hx hZ e7 Ar10 (j := (2 : Int32)) hin10 (g := (mkF m 31 #[rv va, iv (2 : Int32), rv da, iv (2 : Int32), iv (3 : Int32), iv (2 : Int32), iv c2] [(.int (c2.toInt8.toInt32)), (.int (2 : Int32)), (.ref da)])) rfl rfl (hb hby d36_31)
  have V11 : Arv Z h11 da kd .byte (3 : Int32) [(.int (c0.toInt8.toInt32)), (.int (c1.toInt8.toInt32)), (.int (nar .byte (c2.toInt8.toInt32)))] (.int (0 : Int32)) := Arv.set Ar10 q10 S10 N10 H10 G10 (fits_nar_byte _) W11 2 rfl (Nat.le_of_ble_eq_true rfl)
  have Vn11 : Arv Z h11 da kd .byte (3 : Int32) [(.int (c0.toInt8.toInt32)), (.int (c1.toInt8.toInt32)), (.int (c2.toInt8.toInt32))] (.int (0 : Int32)) := by simpa only [own_bb] using V11
  have Nx11 := Fr.snoc X11 Nx7 fda
  refine own_st (T' := T11) (g' := (mkF m 32 #[rv va, iv (2 : Int32), rv da, iv (2 : Int32), iv (3 : Int32), iv (2 : Int32), iv c2] [])) st11 ?_
  clear hin10 G10 H10 N10 S10 q10 Ar10 cl10 st11
  refine own_st (T' := T11) (g' := (mkF m 35 #[rv va, iv (3 : Int32), rv da, iv (2 : Int32), iv (3 : Int32), iv (2 : Int32), iv c2] [])) (fun _ k_ => XS.iinc X11.here hx rfl (hb hby d36_32) rfl (l' := #[rv va, iv (3 : Int32), rv da, iv (2 : Int32), iv (3 : Int32), iv (2 : Int32), iv c2]) rfl k_) ?_
  refine own_st (T' := T11) (g' := (mkF m 38 #[rv va, iv (3 : Int32), rv da, iv (3 : Int32), iv (3 : Int32), iv (2 : Int32), iv c2] [])) (fun _ k_ => XS.iinc X11.here hx rfl (hb hby d36_35) rfl (l' := #[rv va, iv (3 : Int32), rv da, iv (3 : Int32), iv (3 : Int32), iv (2 : Int32), iv c2]) rfl k_) ?_
  refine own_st (T' := T11) (g' := (mkF m 41 #[rv va, iv (3 : Int32), rv da, iv (3 : Int32), iv (3 : Int32), iv (3 : Int32), iv c2] [])) (fun _ k_ => XS.iinc X11.here hx rfl (hb hby d36_38) rfl (l' := #[rv va, iv (3 : Int32), rv da, iv (3 : Int32), iv (3 : Int32), iv (3 : Int32), iv c2]) rfl k_) ?_
  refine own_st (T' := T11) (g' := (mkF m 3 #[rv va, iv (3 : Int32), rv da, iv (3 : Int32), iv (3 : Int32), iv (3 : Int32), iv c2] [])) (fun _ k_ => XS.goto X11.here hx rfl (pc0 := 41) (pc' := 3) rfl (hb hby d36_41) (by decide) (by decide) k_) ?_
  refine own_st (T' := T11) (g' := (mkF m 5 #[rv va, iv (3 : Int32), rv da, iv (3 : Int32), iv (3 : Int32), iv (3 : Int32), iv c2] [(.int (3 : Int32))])) (fun _ k_ => XS.iload X11.here hx rfl (hb hby d36_3) rfl  k_) ?_
  refine own_st (T' := T11) (g' := (mkF m 7 #[rv va, iv (3 : Int32), rv da, iv (3 : Int32), iv (3 : Int32), iv (3 : Int32), iv c2] [(.int (3 : Int32)), (.int (3 : Int32))])) (fun _ k_ => XS.iload X11.here hx rfl (hb hby d36_5) rfl  k_) ?_
  refine own_st (T' := T11) (g' := (mkF m 44 #[rv va, iv (3 : Int32), rv da, iv (3 : Int32), iv (3 : Int32), iv (3 : Int32), iv c2] [])) (fun _ k_ => XS.icmpYes X11.here hx rfl (pc0 := 7) (pc' := 44) rfl (hb hby d36_7) rfl (flt (by decide : ¬ ((3 : Int32) < (3 : Int32)))).2.1 (by decide) (by decide) k_) ?_
  refine own_st (T' := T11) (g' := (mkF m 46 #[rv va, iv (3 : Int32), rv da, iv (3 : Int32), iv (3 : Int32), iv (3 : Int32), iv c2] [(.int (3 : Int32))])) (fun _ k_ => XS.iload X11.here hx rfl (hb hby d36_44) rfl  k_) ?_
  have f12 := (Keep.refl h0 [da]).wr W3 (Or.inl (List.mem_of_getElem? (i := 0) rfl))
  have f13 := f12.wr W7 (Or.inl (List.mem_of_getElem? (i := 0) rfl))
  have f14 := f13.wr W11 (Or.inl (List.mem_of_getElem? (i := 0) rfl))
  exact own_retI X11 hx hret hlk (hb hby d36_46) (by decide) (by decide) (by rw [e11]; exact ⟨rfl, Nx11, f14, Vn11⟩)
theorem ef_cmp3_3 (m : MethodId) (x0 : Addr) (x1 : Int32) (x2 : Int32) : entryFrame m #[(.ref x0), (.int x1), (.int x2)] 6 = mkF m 0 #[rv x0, iv x1, iv x2, .unset, .unset, .unset] [] := by first | (simp [entryFrame, mkF, argsToLocals, Value.category]; done) | rfl
def Q_cmp3_3 (Z : State) (va : Addr) (kc : ClassId) (c0 : Int32) (c1 : Int32) (c2 : Int32) (h0 : Heap) (n0 : Nat) (v : Option Value) (h : Heap) (L : List Loc) : Prop := ∃ (t : Addr) (kb : ClassId), (v = some (.ref t)) ∧ (Fr n0 L) ∧ (Keep h0 h []) ∧ (Arv Z h t kb .byte (3 : Int32) [(.int (c0.toInt8.toInt32)), (.int (c1.toInt8.toInt32)), (.int (c2.toInt8.toInt32))] (.int (0 : Int32))) ∧ (h0.size ≤ t)
set_option maxRecDepth 65536 in
set_option maxHeartbeats 40000000 in
theorem rm_cmp3_3 (l : Launch) (Z : State) (a0 : Array Value) (hw : ∀ d ∈ tables_1, d.before a0 Z = true) (ws : List Jvm.Cond) (va : Addr) (kc : ClassId) (c0 : Int32) (c1 : Int32) (c2 : Int32) (h0 : Heap) (n0 : Nat) (O0 : Old Z n0 h0) (VA : Arv Z h0 va kc .char (3 : Int32) [(.int c0), (.int c1), (.int c2)] (.int (0 : Int32))) (hp0 : ¬ (255 : Int32) < c0) (hp1 : ¬ (255 : Int32) < c1) (hp2 : ¬ (255 : Int32) < c2) :
    own_MF l own_m3 (Jvm.Cond.code own_m3 jdk_52_method_16_code 6 (some (.array .byte)) :: ws) ({ frames := 1, cells := 1, slots := 3, locals := 18 } : Room) #[(.ref va), (.int (0 : Int32)), (.int (3 : Int32))] Z h0 (Q_cmp3_3 Z va kc c0 c1 c2 h0 n0) := by
  refine own_met (own := "java/lang/StringUTF16") (nme := "compress") rfl rfl (plainFor_of_name pn_1) ?_
  intro p e s m below meth c s₁ hx hby hml hown hnm X0 e0 hret hlk hZ
  have N0 := Fr.nil n0
  rw [ef_cmp3_3 m va (0 : Int32) (3 : Int32)]
  refine own_st (T' := s₁) (g' := (mkF m 1 #[rv va, iv (0 : Int32), iv (3 : Int32), .unset, .unset, .unset] [(.int (3 : Int32))])) (fun _ k_ => XS.iloadN X0.here hx rfl (hb hby d35_0) rfl  k_) ?_
  obtain ⟨T1, h1, k1, X1, e1, E1, A1, st1⟩ := newP X0 hx hZ (wd hw 19 rfl) e0 (g := (mkF m 1 #[rv va, iv (0 : Int32), iv (3 : Int32), .unset, .unset, .unset] [(.int (3 : Int32))])) rfl (hb hby d35_1) rfl (by decide) (cap := 3) (by decide) (by decide) (by decide) (by decide)
  obtain ⟨b1, g1⟩ : ∃ z, z = h0.size := ⟨_, rfl⟩
  rw [← g1] at A1 st1
  have fr1 : n0 ≤ b1 := Nat.le_trans (own_z O0) (Nat.le_of_eq g1.symm)
  have sz1 : h0.size ≤ b1 := Nat.le_trans (Keep.refl h0 []).1 (Nat.le_of_eq g1.symm)
  have V1 : Arv Z h1 b1 k1 .byte (3 : Int32) [(.int (0 : Int32)), (.int (0 : Int32)), (.int (0 : Int32))] (.int (0 : Int32)) := (Arv.new A1 (by decide)).pad (pad_rep [] (.int (0 : Int32)) 3)
  refine own_st (T' := T1) (g' := (mkF m 3 #[rv va, iv (0 : Int32), iv (3 : Int32), .unset, .unset, .unset] [(.ref b1)])) st1 ?_
  clear st1
  refine own_st (T' := T1) (g' := (mkF m 4 #[rv va, iv (0 : Int32), iv (3 : Int32), rv b1, .unset, .unset] [])) (fun _ k_ => XS.astoreN X1.here hx rfl (hb hby d35_3) rfl rfl (l' := #[rv va, iv (0 : Int32), iv (3 : Int32), rv b1, .unset, .unset]) rfl k_) ?_
  refine own_st (T' := T1) (g' := (mkF m 5 #[rv va, iv (0 : Int32), iv (3 : Int32), rv b1, .unset, .unset] [(.ref va)])) (fun _ k_ => XS.aloadN X1.here hx rfl (hb hby d35_4) rfl rfl  k_) ?_
  refine own_st (T' := T1) (g' := (mkF m 6 #[rv va, iv (0 : Int32), iv (3 : Int32), rv b1, .unset, .unset] [(.int (0 : Int32)), (.ref va)])) (fun _ k_ => XS.iloadN X1.here hx rfl (hb hby d35_5) rfl  k_) ?_
  refine own_st (T' := T1) (g' := (mkF m 7 #[rv va, iv (0 : Int32), iv (3 : Int32), rv b1, .unset, .unset] [(.ref b1), (.int (0 : Int32)), (.ref va)])) (fun _ k_ => XS.aloadN X1.here hx rfl (hb hby d35_6) rfl rfl  k_) ?_
  refine own_st (T' := T1) (g' := (mkF m 8 #[rv va, iv (0 : Int32), iv (3 : Int32), rv b1, .unset, .unset] [(.int (0 : Int32)), (.ref b1), (.int (0 : Int32)), (.ref va)])) (fun _ k_ => XS.iconst X1.here hx rfl (hb hby d35_7) k_) ?_
  refine own_st (T' := T1) (g' := (mkF m 9 #[rv va, iv (0 : Int32), iv (3 : Int32), rv b1, .unset, .unset] [(.int (3 : Int32)), (.int (0 : Int32)), (.ref b1), (.int (0 : Int32)), (.ref va)])) (fun _ k_ => XS.iloadN X1.here hx rfl (hb hby d35_8) rfl  k_) ?_
  have f2 := VA.ext E1
  have ne3 : va ≠ b1 := Nat.ne_of_lt (Nat.lt_of_lt_of_le VA.lt (Nat.le_of_eq g1.symm))
  have f4 := O0.ext E1
  obtain ⟨_, T5, L5, X5, hQ5, st5⟩ := own_callS X1 hx (y := own_m2) hown (mvT hZ (wd hw 252 rfl)) (mvT hZ (wd hw 253 rfl)) (mvT hZ (wd hw 250 rfl)) (mvT hZ (wd hw 254 rfl)) (by decide) (backOf (W := 0) (rm_cmp5_3 l Z a0 hw [] va b1 kc k1 c0 c1 c2 h1 n0 f4 f2 V1 ne3 fr1 hp0 hp1 hp2) hZ (wd hw 254 rfl) (wd hw 250 rfl) (by decide) (by decide)) (g := (mkF m 9 #[rv va, iv (0 : Int32), iv (3 : Int32), rv b1, .unset, .unset] [(.int (3 : Int32)), (.int (0 : Int32)), (.ref b1), (.int (0 : Int32)), (.ref va)])) rfl (by rw [hml]; rfl) (argsL := [(.ref va), (.int (0 : Int32)), (.ref b1), (.int (0 : Int32)), (.int (3 : Int32))]) (rest := []) (lenOf pd___CI_BII_I rfl) rfl (by show 2 * 0 + _ ≤ _; exact Nat.le_of_eq rfl) (hb hby d35_9) rfl e1 (by decide) (by decide) (c' := 1) (s' := 3) rfl rfl
  obtain ⟨rfl, Nq5, K5, fq5_0⟩ := hQ5
  have N5 := Fr.app N0 Nq5
  refine own_st (T' := T5) (g' := (mkF m 12 #[rv va, iv (0 : Int32), iv (3 : Int32), rv b1, .unset, .unset] [(.int (3 : Int32))])) st5 ?_
  clear st5
  refine own_st (T' := T5) (g' := (mkF m 14 #[rv va, iv (0 : Int32), iv (3 : Int32), rv b1, iv (3 : Int32), .unset] [])) (fun _ k_ => XS.istore X5.here hx rfl (hb hby d35_12) rfl (l' := #[rv va, iv (0 : Int32), iv (3 : Int32), rv b1, iv (3 : Int32), .unset]) rfl k_) ?_
  refine own_st (T' := T5) (g' := (mkF m 16 #[rv va, iv (0 : Int32), iv (3 : Int32), rv b1, iv (3 : Int32), .unset] [(.int (3 : Int32))])) (fun _ k_ => XS.iload X5.here hx rfl (hb hby d35_14) rfl  k_) ?_
  refine own_st (T' := T5) (g' := (mkF m 17 #[rv va, iv (0 : Int32), iv (3 : Int32), rv b1, iv (3 : Int32), .unset] [(.int (3 : Int32)), (.int (3 : Int32))])) (fun _ k_ => XS.iloadN X5.here hx rfl (hb hby d35_16) rfl  k_) ?_
  refine own_st (T' := T5) (g' := (mkF m 57 #[rv va, iv (0 : Int32), iv (3 : Int32), rv b1, iv (3 : Int32), .unset] [])) (fun _ k_ => XS.icmpYes X5.here hx rfl (pc0 := 17) (pc' := 57) rfl (hb hby d35_17) rfl (teq (rfl : (3 : Int32) = (3 : Int32))).1 (by decide) (by decide) k_) ?_
  refine own_st (T' := T5) (g' := (mkF m 58 #[rv va, iv (0 : Int32), iv (3 : Int32), rv b1, iv (3 : Int32), .unset] [(.ref b1)])) (fun _ k_ => XS.aloadN X5.here hx rfl (hb hby d35_57) rfl rfl  k_) ?_
  have f6 := (Keep.refl h0 []).ext E1
  have f7 := f6.trans K5 (allS (Or.inr sz1) all0)
  exact own_retA X5 hx hret rfl rfl hlk (hb hby d35_58) (by decide) (by decide) ⟨b1, k1, rfl, N5, f7, fq5_0, sz1⟩
theorem ef_cdr_3 (m : MethodId) (x0 : Addr) (x1 : Int32) : entryFrame m #[(.ref x0), (.int x1)] 2 = mkF m 0 #[rv x0, iv x1] [] := by first | (simp [entryFrame, mkF, argsToLocals, Value.category]; done) | rfl
def Q_cdr_3 (Z : State) (t : Addr) (kb : ClassId) (vs : List Value) (h0 : Heap) (n0 : Nat) (v : Option Value) (h : Heap) (L : List Loc) : Prop := (v = some (.int (0 : Int32))) ∧ (Fr n0 L) ∧ (h = h0)
set_option maxRecDepth 65536 in
set_option maxHeartbeats 40000000 in
theorem rm_cdr_3 (l : Launch) (Z : State) (a0 : Array Value) (hw : ∀ d ∈ tables_1, d.before a0 Z = true) (ws : List Jvm.Cond) (t : Addr) (kb : ClassId) (vs : List Value) (h0 : Heap) (n0 : Nat) (O0 : Old Z n0 h0) (VT : Arv Z h0 t kb .byte (3 : Int32) vs (.int (0 : Int32))) :
    own_MF l own_m4 (Jvm.Cond.code own_m4 jdk_52_method_15_code 2 (some .byte) :: ws) ({ frames := 0, cells := 0, slots := 0, locals := 0 } : Room) #[(.ref t), (.int (3 : Int32))] Z h0 (Q_cdr_3 Z t kb vs h0 n0) := by
  refine own_met (own := "java/lang/StringUTF16") (nme := "coderFromArrayLen") rfl rfl (plainFor_of_name pn_1) ?_
  intro p e s m below meth c s₁ hx hby hml hown hnm X0 e0 hret hlk hZ
  have N0 := Fr.nil n0
  rw [ef_cdr_3 m t (3 : Int32)]
  refine own_st (T' := s₁) (g' := (mkF m 1 #[rv t, iv (3 : Int32)] [(.int (3 : Int32))])) (fun _ k_ => XS.iloadN X0.here hx rfl (hb hby d37_0) rfl  k_) ?_
  refine own_st (T' := s₁) (g' := (mkF m 2 #[rv t, iv (3 : Int32)] [(.ref t), (.int (3 : Int32))])) (fun _ k_ => XS.aloadN X0.here hx rfl (hb hby d37_1) rfl rfl  k_) ?_
  obtain ⟨cl1, Ar1, -, S1, N1, -, -⟩ := id VT
  refine own_st (T' := s₁) (g' := (mkF m 3 #[rv t, iv (3 : Int32)] [(.int (3 : Int32)), (.int (3 : Int32))])) (fun t_ k_ => X0.arraylength hx (by rw [e0]; exact Ar1.1) (State.isArrayOf_alike hZ.alike Ar1.2.1) (g := (mkF m 2 #[rv t, iv (3 : Int32)] [(.ref t), (.int (3 : Int32))])) rfl rfl (hb hby d37_2) _ (by rw [len_of S1 N1]; exact k_)) ?_
  refine own_st (T' := s₁) (g' := (mkF m 4 #[rv t, iv (3 : Int32)] [(.int (0 : Int32))])) (fun _ k_ => XS.isub X0.here hx rfl (hb hby d37_3) rfl k_) ?_
  refine own_st (T' := s₁) (g' := (mkF m 6 #[rv t, iv (3 : Int32)] [(.int (31 : Int32)), (.int (0 : Int32))])) (fun _ k_ => XS.bipush X0.here hx rfl (hb hby d37_4) k_) ?_
  refine own_st (T' := s₁) (g' := (mkF m 7 #[rv t, iv (3 : Int32)] [(.int (((0 : Int32).toUInt32 >>> ((31 : Int32) &&& 31).toUInt32).toInt32))])) (fun _ k_ => XS.iushr X0.here hx rfl (hb hby d37_6) rfl k_) ?_
  refine own_st (T' := s₁) (g' := (mkF m 8 #[rv t, iv (3 : Int32)] [(.int ((((0 : Int32).toUInt32 >>> ((31 : Int32) &&& 31).toUInt32).toInt32).toInt8.toInt32))])) (fun _ k_ => XS.i2b X0.here hx rfl (hb hby d37_7) rfl k_) ?_
  exact own_retN X0 hx (t := .byte) hret (by simp) hlk (hb hby d37_8) (by decide) (by decide) ⟨(by decide), N0, e0⟩
theorem ef_ini4_3 (m : MethodId) (x0 : Addr) (x1 : Addr) (x2 : Int32) (x3 : Int32) : entryFrame m #[(.ref x0), (.ref x1), (.int x2), (.int x3), .null] 6 = mkF m 0 #[rv x0, rv x1, iv x2, iv x3, .val .null, .unset] [] := by first | (simp [entryFrame, mkF, argsToLocals, Value.category]; done) | rfl
def Q_ini4_3 (Z : State) (a : Addr) (va : Addr) (kc : ClassId) (cz : Int32) (c0 : Int32) (c1 : Int32) (c2 : Int32) (h0 : Heap) (n0 : Nat) (v : Option Value) (h : Heap) (L : List Loc) : Prop := ∃ (t : Addr) (kb : ClassId), (v = none) ∧ (Fr n0 L) ∧ (Keep h0 h [a]) ∧ (Exa Z h a "java/lang/String") ∧ (Fld Z h a "java/lang/String" "coder" "B" (.int (0 : Int32))) ∧ (Fld Z h a "java/lang/String" "value" "[B" (.ref t)) ∧ (Arv Z h t kb .byte (3 : Int32) [(.int (c0.toInt8.toInt32)), (.int (c1.toInt8.toInt32)), (.int (c2.toInt8.toInt32))] (.int (0 : Int32))) ∧ (h0.size ≤ t)
set_option maxRecDepth 65536 in
set_option maxHeartbeats 40000000 in
theorem rm_ini4_3 (l : Launch) (Z : State) (a0 : Array Value) (hw : ∀ d ∈ tables_1, d.before a0 Z = true) (ws : List Jvm.Cond) (a : Addr) (va : Addr) (kc : ClassId) (cz : Int32) (c0 : Int32) (c1 : Int32) (c2 : Int32) (h0 : Heap) (n0 : Nat) (O0 : Old Z n0 h0) (EA : Exa Z h0 a "java/lang/String") (FV : Fld Z h0 a "java/lang/String" "value" "[B" .null) (FC : Fld Z h0 a "java/lang/String" "coder" "B" (.int (0 : Int32))) (fa : n0 ≤ a) (VA : Arv Z h0 va kc .char (3 : Int32) [(.int c0), (.int c1), (.int c2)] (.int (0 : Int32))) (SC : Sta Z Z.heap "java/lang/String" "COMPACT_STRINGS" "Z" (.int cz)) (hcz : ¬ cz = (0 : Int32)) (hp0 : ¬ (255 : Int32) < c0) (hp1 : ¬ (255 : Int32) < c1) (hp2 : ¬ (255 : Int32) < c2) :
    own_MF l own_m0 (Jvm.Cond.code own_m0 jdk_42_method_149_code 6 none :: ws) ({ frames := 2, cells := 1, slots := 3, locals := 35 } : Room) #[(.ref a), (.ref va), (.int (0 : Int32)), (.int (3 : Int32)), .null] Z h0 (Q_ini4_3 Z a va kc cz c0 c1 c2 h0 n0) := by
  refine own_met (own := "java/lang/String") (nme := "<init>") rfl rfl (plainFor_of_name pn_0) ?_
  intro p e s m below meth c s₁ hx hby hml hown hnm X0 e0 hret hlk hZ
  have N0 := Fr.nil n0
  rw [ef_ini4_3 m a va (0 : Int32) (3 : Int32)]
  refine own_st (T' := s₁) (g' := (mkF m 1 #[rv a, rv va, iv (0 : Int32), iv (3 : Int32), .val .null, .unset] [(.ref a)])) (fun _ k_ => XS.aloadN X0.here hx rfl (hb hby d3_0) rfl rfl  k_) ?_
  obtain ⟨T1, X1, e1, st1⟩ := initO X0 hx hZ hown (wd hw 15 rfl) (wd hw 16 rfl) (wd hw 17 rfl) e0 (g := (mkF m 1 #[rv a, rv va, iv (0 : Int32), iv (3 : Int32), .val .null, .unset] [(.ref a)])) rfl (by rw [hml]; rfl) rfl (hb hby d3_1) (by decide) (W := 0) (by show 2 * 0 + _ ≤ _; exact Nat.le_of_eq rfl) (by decide)
  refine own_st (T' := T1) (g' := (mkF m 4 #[rv a, rv va, iv (0 : Int32), iv (3 : Int32), .val .null, .unset] [])) st1 ?_
  clear st1
  refine own_st (T' := T1) (g' := (mkF m 5 #[rv a, rv va, iv (0 : Int32), iv (3 : Int32), .val .null, .unset] [(.int (3 : Int32))])) (fun _ k_ => XS.iloadN X1.here hx rfl (hb hby d3_4) rfl  k_) ?_
  refine own_st (T' := T1) (g' := (mkF m 27 #[rv a, rv va, iv (0 : Int32), iv (3 : Int32), .val .null, .unset] [])) (fun _ k_ => XS.ifYes X1.here hx rfl (pc0 := 5) (pc' := 27) rfl (hb hby d3_5) rfl ((if0 _ _).trans (feq (by decide : ¬ ((3 : Int32) = (0 : Int32)))).2) (by decide) (by decide) k_) ?_
  obtain ⟨T2, X2, e2, st2⟩ := getS2 X1 hx hZ hown (host := "") (Or.inl (wd hw 247 rfl)) Via.refl e1 (SC.ext O0.2) (g := (mkF m 27 #[rv a, rv va, iv (0 : Int32), iv (3 : Int32), .val .null, .unset] [])) rfl (hb hby d3_27)
  refine own_st (T' := T2) (g' := (mkF m 30 #[rv a, rv va, iv (0 : Int32), iv (3 : Int32), .val .null, .unset] [(.int cz)])) st2 ?_
  clear st2
  refine own_st (T' := T2) (g' := (mkF m 33 #[rv a, rv va, iv (0 : Int32), iv (3 : Int32), .val .null, .unset] [])) (fun _ k_ => XS.ifNo X2.here hx rfl (hb hby d3_30) rfl ((if0 _ _).trans (feq (hcz : ¬ (cz = (0 : Int32)))).1) k_) ?_
  refine own_st (T' := T2) (g' := (mkF m 34 #[rv a, rv va, iv (0 : Int32), iv (3 : Int32), .val .null, .unset] [(.ref va)])) (fun _ k_ => XS.aloadN X2.here hx rfl (hb hby d3_33) rfl rfl  k_) ?_
  refine own_st (T' := T2) (g' := (mkF m 35 #[rv a, rv va, iv (0 : Int32), iv (3 : Int32), .val .null, .unset] [(.int (0 : Int32)), (.ref va)])) (fun _ k_ => XS.iloadN X2.here hx rfl (hb hby d3_34) rfl  k_) ?_
  refine own_st (T' := T2) (g' := (mkF m 36 #[rv a, rv va, iv (0 : Int32), iv (3 : Int32), .val .null, .unset] [(.int (3 : Int32)), (.int (0 : Int32)), (.ref va)])) (fun _ k_ => XS.iloadN X2.here hx rfl (hb hby d3_35) rfl  k_) ?_
  obtain ⟨_, T3, L3, X3, hQ3, st3⟩ := own_callS X2 hx (y := own_m3) hown (mvT hZ (wd hw 248 rfl)) (mvT hZ (wd hw 249 rfl)) (mvT hZ (wd hw 250 rfl)) (mvT hZ (wd hw 251 rfl)) (by decide) (backOf (W := 0) (rm_cmp3_3 l Z a0 hw [] va kc c0 c1 c2 h0 n0 O0 VA hp0 hp1 hp2) hZ (wd hw 251 rfl) (wd hw 250 rfl) (by decide) (by decide)) (g := (mkF m 36 #[rv a, rv va, iv (0 : Int32), iv (3 : Int32), .val .null, .unset] [(.int (3 : Int32)), (.int (0 : Int32)), (.ref va)])) rfl (by rw [hml]; rfl) (argsL := [(.ref va), (.int (0 : Int32)), (.int (3 : Int32))]) (rest := []) (lenOf pd___CII__B rfl) rfl (by show 2 * 0 + _ ≤ _; exact Nat.le_of_eq rfl) (hb hby d3_36) rfl e2 (by decide) (by decide) (c' := 1) (s' := 3) rfl rfl
  obtain ⟨t3, kb3, rfl, Nq3, K3, fq3_0, xq3_fresh_t⟩ := hQ3
  have N3 := Fr.app N0 Nq3
  refine own_st (T' := T3) (g' := (mkF m 39 #[rv a, rv va, iv (0 : Int32), iv (3 : Int32), .val .null, .unset] [(.ref t3)])) st3 ?_
  clear st3
  refine own_st (T' := T3) (g' := (mkF m 41 #[rv a, rv va, iv (0 : Int32), iv (3 : Int32), .val .null, rv t3] [])) (fun _ k_ => XS.astore X3.here hx rfl (hb hby d3_39) rfl rfl (l' := #[rv a, rv va, iv (0 : Int32), iv (3 : Int32), .val .null, rv t3]) rfl k_) ?_
  refine own_st (T' := T3) (g' := (mkF m 42 #[rv a, rv va, iv (0 : Int32), iv (3 : Int32), .val .null, rv t3] [(.ref a)])) (fun _ k_ => XS.aloadN X3.here hx rfl (hb hby d3_41) rfl rfl  k_) ?_
  refine own_st (T' := T3) (g' := (mkF m 44 #[rv a, rv va, iv (0 : Int32), iv (3 : Int32), .val .null, rv t3] [(.ref t3), (.ref a)])) (fun _ k_ => XS.aload X3.here hx rfl (hb hby d3_42) rfl rfl  k_) ?_
  refine own_st (T' := T3) (g' := (mkF m 45 #[rv a, rv va, iv (0 : Int32), iv (3 : Int32), .val .null, rv t3] [(.int (3 : Int32)), (.ref t3), (.ref a)])) (fun _ k_ => XS.iloadN X3.here hx rfl (hb hby d3_44) rfl  k_) ?_
  have f4 := O0.keep K3 all0
  obtain ⟨_, T5, L5, X5, hQ5, st5⟩ := own_callS X3 hx (y := own_m4) hown (mvT hZ (wd hw 255 rfl)) (mvT hZ (wd hw 256 rfl)) (mvT hZ (wd hw 250 rfl)) (mvT hZ (wd hw 257 rfl)) (by decide) (backOf (W := 1) (rm_cdr_3 l Z a0 hw [] t3 kb3 [(.int (c0.toInt8.toInt32)), (.int (c1.toInt8.toInt32)), (.int (c2.toInt8.toInt32))] T3.heap n0 f4 fq3_0) hZ (wd hw 257 rfl) (wd hw 250 rfl) (by decide) (by decide)) (g := (mkF m 45 #[rv a, rv va, iv (0 : Int32), iv (3 : Int32), .val .null, rv t3] [(.int (3 : Int32)), (.ref t3), (.ref a)])) rfl (by rw [hml]; rfl) (argsL := [(.ref t3), (.int (3 : Int32))]) (rest := [(.ref a)]) (lenOf pd___BI_B rfl) rfl (by show 2 * 0 + _ ≤ _; exact Nat.le_of_eq rfl) (hb hby d3_45) rfl rfl (by decide) (by decide) (c' := 1) (s' := 3) rfl rfl
  obtain ⟨rfl, Nq5, eq5⟩ := hQ5
  have N5 := Fr.app N3 Nq5
  refine own_st (T' := T5) (g' := (mkF m 48 #[rv a, rv va, iv (0 : Int32), iv (3 : Int32), .val .null, rv t3] [(.int (0 : Int32)), (.ref a)])) st5 ?_
  clear st5
  have f6 := EA.keep K3
  have f7 := FC.keep K3 nin0
  obtain ⟨T8, h8, X8, e8, W8, st8⟩ := putFN X5 hx hZ hown (wd hw 25 rfl) Via.refl eq5 f7 f6 (Or.inr ⟨(wd hw 21 rfl), rfl, hnm⟩) (wd hw 5 rfl) (ty := .byte) (v' := (.int (0 : Int32))) (by decide) rfl (by decide) (g := (mkF m 48 #[rv a, rv va, iv (0 : Int32), iv (3 : Int32), .val .null, rv t3] [(.int (0 : Int32)), (.ref a)])) rfl rfl (hb hby d3_48)
  have Fw8 : Fld Z h8 a "java/lang/String" "coder" "B" (.int (0 : Int32)) := Fld.same W8 f7
  have N8 := Fr.snoc X8 N5 fa
  refine own_st (T' := T8) (g' := (mkF m 51 #[rv a, rv va, iv (0 : Int32), iv (3 : Int32), .val .null, rv t3] [])) st8 ?_
  clear st8
  refine own_st (T' := T8) (g' := (mkF m 52 #[rv a, rv va, iv (0 : Int32), iv (3 : Int32), .val .null, rv t3] [(.ref a)])) (fun _ k_ => XS.aloadN X8.here hx rfl (hb hby d3_51) rfl rfl  k_) ?_
  refine own_st (T' := T8) (g' := (mkF m 54 #[rv a, rv va, iv (0 : Int32), iv (3 : Int32), .val .null, rv t3] [(.ref t3), (.ref a)])) (fun _ k_ => XS.aload X8.here hx rfl (hb hby d3_52) rfl rfl  k_) ?_
  have f9 := f6.wr W8
  have f10 := FV.keep K3 nin0
  have f11 := f10.other W8 (Or.inr (slot_ne (Or.inr (wd hw 20 rfl)) (Or.inr (wd hw 21 rfl)) (by decide) (t := (.array .byte)) (t' := .byte) (by decide) (by decide)))
  obtain ⟨T12, h12, X12, e12, W12, st12⟩ := putF X8 hx hZ hown (host := "") (Or.inl (wd hw 24 rfl)) Via.refl e8 f11 f9 (Or.inr ⟨(wd hw 20 rfl), rfl, hnm⟩) (wd hw 5 rfl) (ty := (.array .byte)) (by decide) rfl rfl (g := (mkF m 54 #[rv a, rv va, iv (0 : Int32), iv (3 : Int32), .val .null, rv t3] [(.ref t3), (.ref a)])) rfl rfl (hb hby d3_54)
  have Fw12 : Fld Z h12 a "java/lang/String" "value" "[B" (.ref t3) := Fld.same W12 f11
  have N12 := Fr.snoc X12 N8 fa
  refine own_st (T' := T12) (g' := (mkF m 57 #[rv a, rv va, iv (0 : Int32), iv (3 : Int32), .val .null, rv t3] [])) st12 ?_
  clear st12
  have f13 := (Keep.refl h0 [a]).trans K3 all0
  have f14 := f13.wr W8 (Or.inl (List.mem_of_getElem? (i := 0) rfl))
  have f15 := f14.wr W12 (Or.inl (List.mem_of_getElem? (i := 0) rfl))
  have f16 := f9.wr W12
  have f17 := Fw8.other W12 (Or.inr (slot_ne (Or.inr (wd hw 21 rfl)) (Or.inr (wd hw 20 rfl)) (by decide) (t := .byte) (t' := (.array .byte)) (by decide) (by decide)))
  have ne18 : a ≠ t3 := Nat.ne_of_lt (Nat.lt_of_lt_of_le EA.lt xq3_fresh_t)
  have f19 := fq3_0.other W8 (Ne.symm ne18)
  have f20 := f19.other W12 (Ne.symm ne18)
  exact own_retV X12 hx hret hlk (hb hby d3_57) (by decide) (by decide) (by rw [e12]; exact ⟨t3, kb3, rfl, N12, f15, f16, f17, Fw12, f20, (Nat.le_trans (Keep.refl h0 [a]).1 xq3_fresh_t)⟩)
theorem ef_ini1_3 (m : MethodId) (x0 : Addr) (x1 : Addr) : entryFrame m #[(.ref x0), (.ref x1)] 2 = mkF m 0 #[rv x0, rv x1] [] := by first | (simp [entryFrame, mkF, argsToLocals, Value.category]; done) | rfl
def Q_ini1_3 (Z : State) (a : Addr) (va : Addr) (kc : ClassId) (cz : Int32) (c0 : Int32) (c1 : Int32) (c2 : Int32) (h0 : Heap) (n0 : Nat) (v : Option Value) (h : Heap) (L : List Loc) : Prop := ∃ (t : Addr) (kb : ClassId), (v = none) ∧ (Fr n0 L) ∧ (Keep h0 h [a]) ∧ (Exa Z h a "java/lang/String") ∧ (Fld Z h a "java/lang/String" "coder" "B" (.int (0 : Int32))) ∧ (Fld Z h a "java/lang/String" "value" "[B" (.ref t)) ∧ (Arv Z h t kb .byte (3 : Int32) [(.int (c0.toInt8.toInt32)), (.int (c1.toInt8.toInt32)), (.int (c2.toInt8.toInt32))] (.int (0 : Int32))) ∧ (h0.size ≤ t)
set_option maxRecDepth 65536 in
set_option maxHeartbeats 40000000 in
theorem rm_ini1_3 (l : Launch) (Z : State) (a0 : Array Value) (hw : ∀ d ∈ tables_1, d.before a0 Z = true) (ws : List Jvm.Cond) (a : Addr) (va : Addr) (kc : ClassId) (cz : Int32) (c0 : Int32) (c1 : Int32) (c2 : Int32) (h0 : Heap) (n0 : Nat) (O0 : Old Z n0 h0) (EA : Exa Z h0 a "java/lang/String") (FV : Fld Z h0 a "java/lang/String" "value" "[B" .null) (FC : Fld Z h0 a "java/lang/String" "coder" "B" (.int (0 : Int32))) (fa : n0 ≤ a) (VA : Arv Z h0 va kc .char (3 : Int32) [(.int c0), (.int c1), (.int c2)] (.int (0 : Int32))) (SC : Sta Z Z.heap "java/lang/String" "COMPACT_STRINGS" "Z" (.int cz)) (hcz : ¬ cz = (0 : Int32)) (hp0 : ¬ (255 : Int32) < c0) (hp1 : ¬ (255 : Int32) < c1) (hp2 : ¬ (255 : Int32) < c2) :
    own_MF l own_m1 (Jvm.Cond.code own_m1 jdk_42_method_3_code 2 none :: ws) ({ frames := 3, cells := 1, slots := 3, locals := 52 } : Room) #[(.ref a), (.ref va)] Z h0 (Q_ini1_3 Z a va kc cz c0 c1 c2 h0 n0) := by
  refine own_met (own := "java/lang/String") (nme := "<init>") rfl rfl (plainFor_of_name pn_0) ?_
  intro p e s m below meth c s₁ hx hby hml hown hnm X0 e0 hret hlk hZ
  have N0 := Fr.nil n0
  rw [ef_ini1_3 m a va]
  refine own_st (T' := s₁) (g' := (mkF m 1 #[rv a, rv va] [(.ref a)])) (fun _ k_ => XS.aloadN X0.here hx rfl (hb hby d2_0) rfl rfl  k_) ?_
  refine own_st (T' := s₁) (g' := (mkF m 2 #[rv a, rv va] [(.ref va), (.ref a)])) (fun _ k_ => XS.aloadN X0.here hx rfl (hb hby d2_1) rfl rfl  k_) ?_
  refine own_st (T' := s₁) (g' := (mkF m 3 #[rv a, rv va] [(.int (0 : Int32)), (.ref va), (.ref a)])) (fun _ k_ => XS.iconst X0.here hx rfl (hb hby d2_2) k_) ?_
  refine own_st (T' := s₁) (g' := (mkF m 4 #[rv a, rv va] [(.ref va), (.int (0 : Int32)), (.ref va), (.ref a)])) (fun _ k_ => XS.aloadN X0.here hx rfl (hb hby d2_3) rfl rfl  k_) ?_
  obtain ⟨cl1, Ar1, -, S1, N1, -, -⟩ := id VA
  refine own_st (T' := s₁) (g' := (mkF m 5 #[rv a, rv va] [(.int (3 : Int32)), (.int (0 : Int32)), (.ref va), (.ref a)])) (fun t_ k_ => X0.arraylength hx (by rw [e0]; exact Ar1.1) (State.isArrayOf_alike hZ.alike Ar1.2.1) (g := (mkF m 4 #[rv a, rv va] [(.ref va), (.int (0 : Int32)), (.ref va), (.ref a)])) rfl rfl (hb hby d2_4) _ (by rw [len_of S1 N1]; exact k_)) ?_
  refine own_st (T' := s₁) (g' := (mkF m 6 #[rv a, rv va] [.null, (.int (3 : Int32)), (.int (0 : Int32)), (.ref va), (.ref a)])) (fun _ k_ => XS.aconstNull X0.here hx rfl (hb hby d2_5) k_) ?_
  obtain ⟨_, T2, L2, X2, hQ2, st2⟩ := own_callI X0 hx (y := own_m0) rfl hown (mvT hZ (wd hw 11 rfl)) (mvT hZ (wd hw 12 rfl)) (mvT hZ (wd hw 14 rfl)) (by decide) (backOf (W := 0) (rm_ini4_3 l Z a0 hw [] a va kc cz c0 c1 c2 h0 n0 O0 EA FV FC fa VA SC hcz hp0 hp1 hp2) hZ (wd hw 14 rfl) (wd hw 6 rfl) (by decide) (by decide)) (g := (mkF m 6 #[rv a, rv va] [.null, (.int (3 : Int32)), (.int (0 : Int32)), (.ref va), (.ref a)])) rfl (by rw [hml]; rfl) (a := a) (argsL := [(.ref va), (.int (0 : Int32)), (.int (3 : Int32)), .null]) (rest := []) (lenOf pd___CIILjava_lang_Void__V rfl) rfl (by show 2 * 0 + _ ≤ _; exact Nat.le_of_eq rfl) (hb hby d2_6) rfl e0 (by decide) (by decide) (c' := 1) (s' := 3) rfl rfl
  obtain ⟨t2, kb2, rfl, Nq2, K2, fq2_0, fq2_1, fq2_2, fq2_3, xq2_fresh_t⟩ := hQ2
  have N2 := Fr.app N0 Nq2
  refine own_st (T' := T2) (g' := (mkF m 9 #[rv a, rv va] [])) st2 ?_
  clear st2
  have f3 := (Keep.refl h0 [a]).trans K2 (allS (Or.inl (List.mem_of_getElem? (i := 0) rfl)) all0)
  exact own_retV X2 hx hret hlk (hb hby d2_9) (by decide) (by decide) ⟨t2, kb2, rfl, N2, f3, fq2_0, fq2_1, fq2_2, fq2_3, (Nat.le_trans (Keep.refl h0 [a]).1 xq2_fresh_t)⟩
theorem d1_0 : decode method_2_code 0 = .ok (.iload_n 0, 1) := by decide +kernel
theorem d1_1 : decode method_2_code 1 = .ok (.bipush 16, 2) := by decide +kernel
theorem d1_3 : decode method_2_code 3 = .ok (.iushr, 1) := by decide +kernel
theorem d1_4 : decode method_2_code 4 = .ok (.iconst 3, 1) := by decide +kernel
theorem d1_5 : decode method_2_code 5 = .ok (.iand, 1) := by decide +kernel
theorem d1_6 : decode method_2_code 6 = .ok (.istore_n 1, 1) := by decide +kernel
theorem d1_7 : decode method_2_code 7 = .ok (.iload_n 0, 1) := by decide +kernel
theorem d1_8 : decode method_2_code 8 = .ok (.sipush 255, 3) := by decide +kernel
theorem d1_11 : decode method_2_code 11 = .ok (.iand, 1) := by decide +kernel
theorem d1_12 : decode method_2_code 12 = .ok (.i2c, 1) := by decide +kernel
theorem d1_13 : decode method_2_code 13 = .ok (.istore_n 2, 1) := by decide +kernel
theorem d1_14 : decode method_2_code 14 = .ok (.iload_n 0, 1) := by decide +kernel
theorem d1_15 : decode method_2_code 15 = .ok (.bipush 8, 2) := by decide +kernel
theorem d1_17 : decode method_2_code 17 = .ok (.iushr, 1) := by decide +kernel
theorem d1_18 : decode method_2_code 18 = .ok (.sipush 255, 3) := by decide +kernel
theorem d1_21 : decode method_2_code 21 = .ok (.iand, 1) := by decide +kernel
theorem d1_22 : decode method_2_code 22 = .ok (.i2c, 1) := by decide +kernel
theorem d1_23 : decode method_2_code 23 = .ok (.istore_n 3, 1) := by decide +kernel
theorem d1_24 : decode method_2_code 24 = .ok (.iload_n 0, 1) := by decide +kernel
theorem d1_25 : decode method_2_code 25 = .ok (.bipush 24, 2) := by decide +kernel
theorem d1_27 : decode method_2_code 27 = .ok (.iushr, 1) := by decide +kernel
theorem d1_28 : decode method_2_code 28 = .ok (.sipush 255, 3) := by decide +kernel
theorem d1_31 : decode method_2_code 31 = .ok (.iand, 1) := by decide +kernel
theorem d1_32 : decode method_2_code 32 = .ok (.i2c, 1) := by decide +kernel
theorem d1_33 : decode method_2_code 33 = .ok (.istore 4, 2) := by decide +kernel
theorem d1_35 : decode method_2_code 35 = .ok (.iload_n 1, 1) := by decide +kernel
theorem d1_36 : decode method_2_code 36 = .ok (.ifCond .ne 14, 3) := by decide +kernel
theorem d1_39 : decode method_2_code 39 = .ok (.new 7, 3) := by decide +kernel
theorem d1_42 : decode method_2_code 42 = .ok (.dup, 1) := by decide +kernel
theorem d1_43 : decode method_2_code 43 = .ok (.iconst 0, 1) := by decide +kernel
theorem d1_44 : decode method_2_code 44 = .ok (.newarray .char, 2) := by decide +kernel
theorem d1_46 : decode method_2_code 46 = .ok (.invokespecial 9, 3) := by decide +kernel
theorem d1_49 : decode method_2_code 49 = .ok (.areturn, 1) := by decide +kernel
theorem d1_50 : decode method_2_code 50 = .ok (.iload_n 1, 1) := by decide +kernel
theorem d1_51 : decode method_2_code 51 = .ok (.iconst 1, 1) := by decide +kernel
theorem d1_52 : decode method_2_code 52 = .ok (.if_icmp .ne 18, 3) := by decide +kernel
theorem d1_55 : decode method_2_code 55 = .ok (.new 7, 3) := by decide +kernel
theorem d1_58 : decode method_2_code 58 = .ok (.dup, 1) := by decide +kernel
theorem d1_59 : decode method_2_code 59 = .ok (.iconst 1, 1) := by decide +kernel
theorem d1_60 : decode method_2_code 60 = .ok (.newarray .char, 2) := by decide +kernel
theorem d1_62 : decode method_2_code 62 = .ok (.dup, 1) := by decide +kernel
theorem d1_63 : decode method_2_code 63 = .ok (.iconst 0, 1) := by decide +kernel
theorem d1_64 : decode method_2_code 64 = .ok (.iload_n 2, 1) := by decide +kernel
theorem d1_65 : decode method_2_code 65 = .ok (.castore, 1) := by decide +kernel
theorem d1_66 : decode method_2_code 66 = .ok (.invokespecial 9, 3) := by decide +kernel
theorem d1_69 : decode method_2_code 69 = .ok (.areturn, 1) := by decide +kernel
theorem d1_70 : decode method_2_code 70 = .ok (.iload_n 1, 1) := by decide +kernel
theorem d1_71 : decode method_2_code 71 = .ok (.iconst 2, 1) := by decide +kernel
theorem d1_72 : decode method_2_code 72 = .ok (.if_icmp .ne 22, 3) := by decide +kernel
theorem d1_75 : decode method_2_code 75 = .ok (.new 7, 3) := by decide +kernel
theorem d1_78 : decode method_2_code 78 = .ok (.dup, 1) := by decide +kernel
theorem d1_79 : decode method_2_code 79 = .ok (.iconst 2, 1) := by decide +kernel
theorem d1_80 : decode method_2_code 80 = .ok (.newarray .char, 2) := by decide +kernel
theorem d1_82 : decode method_2_code 82 = .ok (.dup, 1) := by decide +kernel
theorem d1_83 : decode method_2_code 83 = .ok (.iconst 0, 1) := by decide +kernel
theorem d1_84 : decode method_2_code 84 = .ok (.iload_n 2, 1) := by decide +kernel
theorem d1_85 : decode method_2_code 85 = .ok (.castore, 1) := by decide +kernel
theorem d1_86 : decode method_2_code 86 = .ok (.dup, 1) := by decide +kernel
theorem d1_87 : decode method_2_code 87 = .ok (.iconst 1, 1) := by decide +kernel
theorem d1_88 : decode method_2_code 88 = .ok (.iload_n 3, 1) := by decide +kernel
theorem d1_89 : decode method_2_code 89 = .ok (.castore, 1) := by decide +kernel
theorem d1_90 : decode method_2_code 90 = .ok (.invokespecial 9, 3) := by decide +kernel
theorem d1_93 : decode method_2_code 93 = .ok (.areturn, 1) := by decide +kernel
theorem d1_94 : decode method_2_code 94 = .ok (.new 7, 3) := by decide +kernel
theorem d1_97 : decode method_2_code 97 = .ok (.dup, 1) := by decide +kernel
theorem d1_98 : decode method_2_code 98 = .ok (.iconst 3, 1) := by decide +kernel
theorem d1_99 : decode method_2_code 99 = .ok (.newarray .char, 2) := by decide +kernel
theorem d1_101 : decode method_2_code 101 = .ok (.dup, 1) := by decide +kernel
theorem d1_102 : decode method_2_code 102 = .ok (.iconst 0, 1) := by decide +kernel
theorem d1_103 : decode method_2_code 103 = .ok (.iload_n 2, 1) := by decide +kernel
theorem d1_104 : decode method_2_code 104 = .ok (.castore, 1) := by decide +kernel
theorem d1_105 : decode method_2_code 105 = .ok (.dup, 1) := by decide +kernel
theorem d1_106 : decode method_2_code 106 = .ok (.iconst 1, 1) := by decide +kernel
theorem d1_107 : decode method_2_code 107 = .ok (.iload_n 3, 1) := by decide +kernel
theorem d1_108 : decode method_2_code 108 = .ok (.castore, 1) := by decide +kernel
theorem d1_109 : decode method_2_code 109 = .ok (.dup, 1) := by decide +kernel
theorem d1_110 : decode method_2_code 110 = .ok (.iconst 2, 1) := by decide +kernel
theorem d1_111 : decode method_2_code 111 = .ok (.iload 4, 2) := by decide +kernel
theorem d1_113 : decode method_2_code 113 = .ok (.castore, 1) := by decide +kernel
theorem d1_114 : decode method_2_code 114 = .ok (.invokespecial 9, 3) := by decide +kernel
theorem d1_117 : decode method_2_code 117 = .ok (.areturn, 1) := by decide +kernel
theorem pd___C_V : parseMethodDescriptor "([C)V" = some ⟨[(.array .char)], none⟩ := by decide +kernel
theorem pn_2 : plainName "com/example/rights_leak_checker/rightsleakchecker/takegrant/BridgeFromPinLaw" = true := by first | (simp [plainName, overriddenIn]; done) | decide +kernel
theorem ef_str (m : MethodId) (x0 : Int32) : entryFrame m #[(.int x0)] 5 = mkF m 0 #[iv x0, .unset, .unset, .unset, .unset] [] := by first | (simp [entryFrame, mkF, argsToLocals, Value.category]; done) | rfl
def Q_str (Z : State) (bits : Int32) (cz : Int32) (h0 : Heap) (n0 : Nat) (v : Option Value) (h : Heap) (L : List Loc) : Prop := ∃ (b : Addr), (v = some (.ref b)) ∧ (Fr n0 L) ∧ (Keep h0 h []) ∧ (Exa Z h b "java/lang/String") ∧ (h0.size ≤ b)
set_option maxRecDepth 65536 in
set_option maxHeartbeats 40000000 in
theorem rm_str (l : Launch) (Z : State) (a0 : Array Value) (hw : ∀ d ∈ tables_1, d.before a0 Z = true) (ws : List Jvm.Cond) (bits : Int32) (cz : Int32) (h0 : Heap) (n0 : Nat) (O0 : Old Z n0 h0) (SC : Sta Z Z.heap "java/lang/String" "COMPACT_STRINGS" "Z" (.int cz)) (hcz : ¬ cz = (0 : Int32)) :
    MetFree l own_m5 (head1 (Jvm.Cond.code own_m5 method_2_code 5 (some (.object "java/lang/String")) :: ws) ({ frames := 4, cells := 6, slots := 12, locals := 66 } : Room)) (fun ar_ U => ar_ = #[(.int bits)] ∧ Z.Warmed39 U.vm ∧ U.heap = h0 ∧ CHv Z consts_1 U.vm h0 ∧ ∀ x ∈ ([] : List Addr), Safe Z consts_1 U.vm h0 x) (fun _ _ _ _ _ => True) (fun _ U o U' => ∃ v L, o = .returned v ∧ Q_str Z bits cz h0 n0 v U'.heap L ∧ CHr Z consts_1 U.vm U.heap U'.vm U'.heap ∧ ReturnedEndW U o U' L ({ frames := 4, cells := 6, slots := 12, locals := 66 } : Room).cells ({ frames := 4, cells := 6, slots := 12, locals := 66 } : Room).slots) := by
  refine MetFree.of_bodySF (plainFor_of_name pn_2) hisR ?_
  intro p e s m args below meth c s₁ Bd hml0 hP hK
  obtain ⟨rfl, hZ, hh, CH0, SF0⟩ := hP
  have hx := Bd.exec
  have hby := Bd.bytes
  have hml : c.maxLocals = 5 := hml0
  have hown : s.vm.findClass "com/example/rights_leak_checker/rightsleakchecker/takegrant/BridgeFromPinLaw" = some m.cls := findClass_of_methodNamed Bd.named
  have hnm := (name_of_methodNamed Bd.named Bd.method).1
  have X0 : Stand p l e ({ frames := 4, cells := 6, slots := 12, locals := 66 } : Room) (s.setVm s.vm) m #[(.int bits)] below meth c s₁ [] 0 0 := Stand.of_body Bd
  have e0 : s₁.heap = h0 := by rw [← hh, Bd.state]; rfl
  have N0 := Fr.nil n0
  have hret := Bd.returns
  have hlk : meth.locks = false := Bd.notSynchronized
  have hEL := own_EW hw
  have hZs := hZ
  have howns := hown
  have hS0 : s.Since s.vm s.heap.size := (State.WarmedH.refl s).since _
  have hk0 : s.heap.size ≤ h0.size := Nat.le_of_eq (by rw [hh])
  have CR0 := CHr.refl CH0
  refine own_W0 hh ?_
  show own_W p e below s ({ frames := 4, cells := 6, slots := 12, locals := 66 } : Room).cells ({ frames := 4, cells := 6, slots := 12, locals := 66 } : Room).slots Z consts_1 h0 (Q_str Z bits cz h0 n0) s₁ (entryFrame m #[(.int bits)] 5)
  rw [ef_str m bits]
  refine own_stW (T' := s₁) (g' := (mkF m 1 #[iv bits, .unset, .unset, .unset, .unset] [(.int bits)])) (fun _ k_ => XS.iloadN X0.here hx rfl (hb hby d1_0) rfl  k_) ?_
  refine own_stW (T' := s₁) (g' := (mkF m 3 #[iv bits, .unset, .unset, .unset, .unset] [(.int (16 : Int32)), (.int bits)])) (fun _ k_ => XS.bipush X0.here hx rfl (hb hby d1_1) k_) ?_
  refine own_stW (T' := s₁) (g' := (mkF m 4 #[iv bits, .unset, .unset, .unset, .unset] [(.int ((bits.toUInt32 >>> ((16 : Int32) &&& 31).toUInt32).toInt32))])) (fun _ k_ => XS.iushr X0.here hx rfl (hb hby d1_3) rfl k_) ?_
  refine own_stW (T' := s₁) (g' := (mkF m 5 #[iv bits, .unset, .unset, .unset, .unset] [(.int (3 : Int32)), (.int ((bits.toUInt32 >>> ((16 : Int32) &&& 31).toUInt32).toInt32))])) (fun _ k_ => XS.iconst X0.here hx rfl (hb hby d1_4) k_) ?_
  refine own_stW (T' := s₁) (g' := (mkF m 6 #[iv bits, .unset, .unset, .unset, .unset] [(.int (((bits.toUInt32 >>> ((16 : Int32) &&& 31).toUInt32).toInt32) &&& (3 : Int32)))])) (fun _ k_ => XS.iand X0.here hx rfl (hb hby d1_5) rfl k_) ?_
  refine own_stW (T' := s₁) (g' := (mkF m 7 #[iv bits, iv (((bits.toUInt32 >>> ((16 : Int32) &&& 31).toUInt32).toInt32) &&& (3 : Int32)), .unset, .unset, .unset] [])) (fun _ k_ => XS.istoreN X0.here hx rfl (hb hby d1_6) rfl (l' := #[iv bits, iv (((bits.toUInt32 >>> ((16 : Int32) &&& 31).toUInt32).toInt32) &&& (3 : Int32)), .unset, .unset, .unset]) rfl k_) ?_
  refine own_stW (T' := s₁) (g' := (mkF m 8 #[iv bits, iv (((bits.toUInt32 >>> ((16 : Int32) &&& 31).toUInt32).toInt32) &&& (3 : Int32)), .unset, .unset, .unset] [(.int bits)])) (fun _ k_ => XS.iloadN X0.here hx rfl (hb hby d1_7) rfl  k_) ?_
  refine own_stW (T' := s₁) (g' := (mkF m 11 #[iv bits, iv (((bits.toUInt32 >>> ((16 : Int32) &&& 31).toUInt32).toInt32) &&& (3 : Int32)), .unset, .unset, .unset] [(.int (255 : Int32)), (.int bits)])) (fun _ k_ => XS.sipush X0.here hx rfl (hb hby d1_8) k_) ?_
  refine own_stW (T' := s₁) (g' := (mkF m 12 #[iv bits, iv (((bits.toUInt32 >>> ((16 : Int32) &&& 31).toUInt32).toInt32) &&& (3 : Int32)), .unset, .unset, .unset] [(.int (bits &&& (255 : Int32)))])) (fun _ k_ => XS.iand X0.here hx rfl (hb hby d1_11) rfl k_) ?_
  refine own_stW (T' := s₁) (g' := (mkF m 13 #[iv bits, iv (((bits.toUInt32 >>> ((16 : Int32) &&& 31).toUInt32).toInt32) &&& (3 : Int32)), .unset, .unset, .unset] [(.int ((bits &&& (255 : Int32)).toUInt32.toUInt16.toUInt32.toInt32))])) (fun _ k_ => XS.i2c X0.here hx rfl (hb hby d1_12) rfl k_) ?_
  refine own_stW (T' := s₁) (g' := (mkF m 14 #[iv bits, iv (((bits.toUInt32 >>> ((16 : Int32) &&& 31).toUInt32).toInt32) &&& (3 : Int32)), iv ((bits &&& (255 : Int32)).toUInt32.toUInt16.toUInt32.toInt32), .unset, .unset] [])) (fun _ k_ => XS.istoreN X0.here hx rfl (hb hby d1_13) rfl (l' := #[iv bits, iv (((bits.toUInt32 >>> ((16 : Int32) &&& 31).toUInt32).toInt32) &&& (3 : Int32)), iv ((bits &&& (255 : Int32)).toUInt32.toUInt16.toUInt32.toInt32), .unset, .unset]) rfl k_) ?_
  refine own_stW (T' := s₁) (g' := (mkF m 15 #[iv bits, iv (((bits.toUInt32 >>> ((16 : Int32) &&& 31).toUInt32).toInt32) &&& (3 : Int32)), iv ((bits &&& (255 : Int32)).toUInt32.toUInt16.toUInt32.toInt32), .unset, .unset] [(.int bits)])) (fun _ k_ => XS.iloadN X0.here hx rfl (hb hby d1_14) rfl  k_) ?_
  refine own_stW (T' := s₁) (g' := (mkF m 17 #[iv bits, iv (((bits.toUInt32 >>> ((16 : Int32) &&& 31).toUInt32).toInt32) &&& (3 : Int32)), iv ((bits &&& (255 : Int32)).toUInt32.toUInt16.toUInt32.toInt32), .unset, .unset] [(.int (8 : Int32)), (.int bits)])) (fun _ k_ => XS.bipush X0.here hx rfl (hb hby d1_15) k_) ?_
  refine own_stW (T' := s₁) (g' := (mkF m 18 #[iv bits, iv (((bits.toUInt32 >>> ((16 : Int32) &&& 31).toUInt32).toInt32) &&& (3 : Int32)), iv ((bits &&& (255 : Int32)).toUInt32.toUInt16.toUInt32.toInt32), .unset, .unset] [(.int ((bits.toUInt32 >>> ((8 : Int32) &&& 31).toUInt32).toInt32))])) (fun _ k_ => XS.iushr X0.here hx rfl (hb hby d1_17) rfl k_) ?_
  refine own_stW (T' := s₁) (g' := (mkF m 21 #[iv bits, iv (((bits.toUInt32 >>> ((16 : Int32) &&& 31).toUInt32).toInt32) &&& (3 : Int32)), iv ((bits &&& (255 : Int32)).toUInt32.toUInt16.toUInt32.toInt32), .unset, .unset] [(.int (255 : Int32)), (.int ((bits.toUInt32 >>> ((8 : Int32) &&& 31).toUInt32).toInt32))])) (fun _ k_ => XS.sipush X0.here hx rfl (hb hby d1_18) k_) ?_
  refine own_stW (T' := s₁) (g' := (mkF m 22 #[iv bits, iv (((bits.toUInt32 >>> ((16 : Int32) &&& 31).toUInt32).toInt32) &&& (3 : Int32)), iv ((bits &&& (255 : Int32)).toUInt32.toUInt16.toUInt32.toInt32), .unset, .unset] [(.int (((bits.toUInt32 >>> ((8 : Int32) &&& 31).toUInt32).toInt32) &&& (255 : Int32)))])) (fun _ k_ => XS.iand X0.here hx rfl (hb hby d1_21) rfl k_) ?_
  refine own_stW (T' := s₁) (g' := (mkF m 23 #[iv bits, iv (((bits.toUInt32 >>> ((16 : Int32) &&& 31).toUInt32).toInt32) &&& (3 : Int32)), iv ((bits &&& (255 : Int32)).toUInt32.toUInt16.toUInt32.toInt32), .unset, .unset] [(.int ((((bits.toUInt32 >>> ((8 : Int32) &&& 31).toUInt32).toInt32) &&& (255 : Int32)).toUInt32.toUInt16.toUInt32.toInt32))])) (fun _ k_ => XS.i2c X0.here hx rfl (hb hby d1_22) rfl k_) ?_
  refine own_stW (T' := s₁) (g' := (mkF m 24 #[iv bits, iv (((bits.toUInt32 >>> ((16 : Int32) &&& 31).toUInt32).toInt32) &&& (3 : Int32)), iv ((bits &&& (255 : Int32)).toUInt32.toUInt16.toUInt32.toInt32), iv ((((bits.toUInt32 >>> ((8 : Int32) &&& 31).toUInt32).toInt32) &&& (255 : Int32)).toUInt32.toUInt16.toUInt32.toInt32), .unset] [])) (fun _ k_ => XS.istoreN X0.here hx rfl (hb hby d1_23) rfl (l' := #[iv bits, iv (((bits.toUInt32 >>> ((16 : Int32) &&& 31).toUInt32).toInt32) &&& (3 : Int32)), iv ((bits &&& (255 : Int32)).toUInt32.toUInt16.toUInt32.toInt32), iv ((((bits.toUInt32 >>> ((8 : Int32) &&& 31).toUInt32).toInt32) &&& (255 : Int32)).toUInt32.toUInt16.toUInt32.toInt32), .unset]) rfl k_) ?_
  refine own_stW (T' := s₁) (g' := (mkF m 25 #[iv bits, iv (((bits.toUInt32 >>> ((16 : Int32) &&& 31).toUInt32).toInt32) &&& (3 : Int32)), iv ((bits &&& (255 : Int32)).toUInt32.toUInt16.toUInt32.toInt32), iv ((((bits.toUInt32 >>> ((8 : Int32) &&& 31).toUInt32).toInt32) &&& (255 : Int32)).toUInt32.toUInt16.toUInt32.toInt32), .unset] [(.int bits)])) (fun _ k_ => XS.iloadN X0.here hx rfl (hb hby d1_24) rfl  k_) ?_
  refine own_stW (T' := s₁) (g' := (mkF m 27 #[iv bits, iv (((bits.toUInt32 >>> ((16 : Int32) &&& 31).toUInt32).toInt32) &&& (3 : Int32)), iv ((bits &&& (255 : Int32)).toUInt32.toUInt16.toUInt32.toInt32), iv ((((bits.toUInt32 >>> ((8 : Int32) &&& 31).toUInt32).toInt32) &&& (255 : Int32)).toUInt32.toUInt16.toUInt32.toInt32), .unset] [(.int (24 : Int32)), (.int bits)])) (fun _ k_ => XS.bipush X0.here hx rfl (hb hby d1_25) k_) ?_
  refine own_stW (T' := s₁) (g' := (mkF m 28 #[iv bits, iv (((bits.toUInt32 >>> ((16 : Int32) &&& 31).toUInt32).toInt32) &&& (3 : Int32)), iv ((bits &&& (255 : Int32)).toUInt32.toUInt16.toUInt32.toInt32), iv ((((bits.toUInt32 >>> ((8 : Int32) &&& 31).toUInt32).toInt32) &&& (255 : Int32)).toUInt32.toUInt16.toUInt32.toInt32), .unset] [(.int ((bits.toUInt32 >>> ((24 : Int32) &&& 31).toUInt32).toInt32))])) (fun _ k_ => XS.iushr X0.here hx rfl (hb hby d1_27) rfl k_) ?_
  refine own_stW (T' := s₁) (g' := (mkF m 31 #[iv bits, iv (((bits.toUInt32 >>> ((16 : Int32) &&& 31).toUInt32).toInt32) &&& (3 : Int32)), iv ((bits &&& (255 : Int32)).toUInt32.toUInt16.toUInt32.toInt32), iv ((((bits.toUInt32 >>> ((8 : Int32) &&& 31).toUInt32).toInt32) &&& (255 : Int32)).toUInt32.toUInt16.toUInt32.toInt32), .unset] [(.int (255 : Int32)), (.int ((bits.toUInt32 >>> ((24 : Int32) &&& 31).toUInt32).toInt32))])) (fun _ k_ => XS.sipush X0.here hx rfl (hb hby d1_28) k_) ?_
  refine own_stW (T' := s₁) (g' := (mkF m 32 #[iv bits, iv (((bits.toUInt32 >>> ((16 : Int32) &&& 31).toUInt32).toInt32) &&& (3 : Int32)), iv ((bits &&& (255 : Int32)).toUInt32.toUInt16.toUInt32.toInt32), iv ((((bits.toUInt32 >>> ((8 : Int32) &&& 31).toUInt32).toInt32) &&& (255 : Int32)).toUInt32.toUInt16.toUInt32.toInt32), .unset] [(.int (((bits.toUInt32 >>> ((24 : Int32) &&& 31).toUInt32).toInt32) &&& (255 : Int32)))])) (fun _ k_ => XS.iand X0.here hx rfl (hb hby d1_31) rfl k_) ?_
  refine own_stW (T' := s₁) (g' := (mkF m 33 #[iv bits, iv (((bits.toUInt32 >>> ((16 : Int32) &&& 31).toUInt32).toInt32) &&& (3 : Int32)), iv ((bits &&& (255 : Int32)).toUInt32.toUInt16.toUInt32.toInt32), iv ((((bits.toUInt32 >>> ((8 : Int32) &&& 31).toUInt32).toInt32) &&& (255 : Int32)).toUInt32.toUInt16.toUInt32.toInt32), .unset] [(.int ((((bits.toUInt32 >>> ((24 : Int32) &&& 31).toUInt32).toInt32) &&& (255 : Int32)).toUInt32.toUInt16.toUInt32.toInt32))])) (fun _ k_ => XS.i2c X0.here hx rfl (hb hby d1_32) rfl k_) ?_
  refine own_stW (T' := s₁) (g' := (mkF m 35 #[iv bits, iv (((bits.toUInt32 >>> ((16 : Int32) &&& 31).toUInt32).toInt32) &&& (3 : Int32)), iv ((bits &&& (255 : Int32)).toUInt32.toUInt16.toUInt32.toInt32), iv ((((bits.toUInt32 >>> ((8 : Int32) &&& 31).toUInt32).toInt32) &&& (255 : Int32)).toUInt32.toUInt16.toUInt32.toInt32), iv ((((bits.toUInt32 >>> ((24 : Int32) &&& 31).toUInt32).toInt32) &&& (255 : Int32)).toUInt32.toUInt16.toUInt32.toInt32)] [])) (fun _ k_ => XS.istore X0.here hx rfl (hb hby d1_33) rfl (l' := #[iv bits, iv (((bits.toUInt32 >>> ((16 : Int32) &&& 31).toUInt32).toInt32) &&& (3 : Int32)), iv ((bits &&& (255 : Int32)).toUInt32.toUInt16.toUInt32.toInt32), iv ((((bits.toUInt32 >>> ((8 : Int32) &&& 31).toUInt32).toInt32) &&& (255 : Int32)).toUInt32.toUInt16.toUInt32.toInt32), iv ((((bits.toUInt32 >>> ((24 : Int32) &&& 31).toUInt32).toInt32) &&& (255 : Int32)).toUInt32.toUInt16.toUInt32.toInt32)]) rfl k_) ?_
  refine own_stW (T' := s₁) (g' := (mkF m 36 #[iv bits, iv (((bits.toUInt32 >>> ((16 : Int32) &&& 31).toUInt32).toInt32) &&& (3 : Int32)), iv ((bits &&& (255 : Int32)).toUInt32.toUInt16.toUInt32.toInt32), iv ((((bits.toUInt32 >>> ((8 : Int32) &&& 31).toUInt32).toInt32) &&& (255 : Int32)).toUInt32.toUInt16.toUInt32.toInt32), iv ((((bits.toUInt32 >>> ((24 : Int32) &&& 31).toUInt32).toInt32) &&& (255 : Int32)).toUInt32.toUInt16.toUInt32.toInt32)] [(.int (((bits.toUInt32 >>> ((16 : Int32) &&& 31).toUInt32).toInt32) &&& (3 : Int32)))])) (fun _ k_ => XS.iloadN X0.here hx rfl (hb hby d1_35) rfl  k_) ?_
  by_cases hc1 : (((bits.toUInt32 >>> ((16 : Int32) &&& 31).toUInt32).toInt32) &&& (3 : Int32)) = (0 : Int32)
  · refine own_stW (T' := s₁) (g' := (mkF m 39 #[iv bits, iv (((bits.toUInt32 >>> ((16 : Int32) &&& 31).toUInt32).toInt32) &&& (3 : Int32)), iv ((bits &&& (255 : Int32)).toUInt32.toUInt16.toUInt32.toInt32), iv ((((bits.toUInt32 >>> ((8 : Int32) &&& 31).toUInt32).toInt32) &&& (255 : Int32)).toUInt32.toUInt16.toUInt32.toInt32), iv ((((bits.toUInt32 >>> ((24 : Int32) &&& 31).toUInt32).toInt32) &&& (255 : Int32)).toUInt32.toUInt16.toUInt32.toInt32)] [])) (fun _ k_ => XS.ifNo X0.here hx rfl (hb hby d1_36) rfl ((if0 _ _).trans (teq hc1).2) k_) ?_
    obtain ⟨T2, h2, X2, e2, E2, A2, D2, -, st2⟩ := newO X0 hx hZ hown (wd hw 4 rfl) (wd hw 5 rfl) (wd hw 6 rfl) e0 (g := (mkF m 39 #[iv bits, iv (((bits.toUInt32 >>> ((16 : Int32) &&& 31).toUInt32).toInt32) &&& (3 : Int32)), iv ((bits &&& (255 : Int32)).toUInt32.toUInt16.toUInt32.toInt32), iv ((((bits.toUInt32 >>> ((8 : Int32) &&& 31).toUInt32).toInt32) &&& (255 : Int32)).toUInt32.toUInt16.toUInt32.toInt32), iv ((((bits.toUInt32 >>> ((24 : Int32) &&& 31).toUInt32).toInt32) &&& (255 : Int32)).toUInt32.toUInt16.toUInt32.toInt32)] [])) rfl (hb hby d1_39) (by decide) (by decide)
    obtain ⟨b2, g2⟩ : ∃ z, z = h0.size := ⟨_, rfl⟩
    rw [← g2] at A2 D2 st2
    have fr2 : n0 ≤ b2 := Nat.le_trans (own_z O0) (Nat.le_of_eq g2.symm)
    have sz2 : h0.size ≤ b2 := Nat.le_trans (Keep.refl h0 []).1 (Nat.le_of_eq g2.symm)
    have CR3 := CR0.trans (CHr.ext E2 CR0.1)
    have sf4 : Safe Z consts_1 s.vm h2 b2 := Safe.ext E2 CR0.1 (Safe.new (Nat.le_of_eq g2.symm))
    have F2_value : Fld Z h2 b2 "java/lang/String" "value" "[B" .null := D2 (Or.inr (wd hw 20 rfl)) (ty := (.array .byte)) (by decide)
    have F2_coder : Fld Z h2 b2 "java/lang/String" "coder" "B" (.int (0 : Int32)) := D2 (Or.inr (wd hw 21 rfl)) (ty := .byte) (by decide)
    refine own_stW (T' := T2) (g' := (mkF m 42 #[iv bits, iv (((bits.toUInt32 >>> ((16 : Int32) &&& 31).toUInt32).toInt32) &&& (3 : Int32)), iv ((bits &&& (255 : Int32)).toUInt32.toUInt16.toUInt32.toInt32), iv ((((bits.toUInt32 >>> ((8 : Int32) &&& 31).toUInt32).toInt32) &&& (255 : Int32)).toUInt32.toUInt16.toUInt32.toInt32), iv ((((bits.toUInt32 >>> ((24 : Int32) &&& 31).toUInt32).toInt32) &&& (255 : Int32)).toUInt32.toUInt16.toUInt32.toInt32)] [(.ref b2)])) st2 ?_
    clear st2
    refine own_stW (T' := T2) (g' := (mkF m 43 #[iv bits, iv (((bits.toUInt32 >>> ((16 : Int32) &&& 31).toUInt32).toInt32) &&& (3 : Int32)), iv ((bits &&& (255 : Int32)).toUInt32.toUInt16.toUInt32.toInt32), iv ((((bits.toUInt32 >>> ((8 : Int32) &&& 31).toUInt32).toInt32) &&& (255 : Int32)).toUInt32.toUInt16.toUInt32.toInt32), iv ((((bits.toUInt32 >>> ((24 : Int32) &&& 31).toUInt32).toInt32) &&& (255 : Int32)).toUInt32.toUInt16.toUInt32.toInt32)] [(.ref b2), (.ref b2)])) (fun _ k_ => XS.dup X2.here hx rfl (hb hby d1_42) rfl rfl k_) ?_
    refine own_stW (T' := T2) (g' := (mkF m 44 #[iv bits, iv (((bits.toUInt32 >>> ((16 : Int32) &&& 31).toUInt32).toInt32) &&& (3 : Int32)), iv ((bits &&& (255 : Int32)).toUInt32.toUInt16.toUInt32.toInt32), iv ((((bits.toUInt32 >>> ((8 : Int32) &&& 31).toUInt32).toInt32) &&& (255 : Int32)).toUInt32.toUInt16.toUInt32.toInt32), iv ((((bits.toUInt32 >>> ((24 : Int32) &&& 31).toUInt32).toInt32) &&& (255 : Int32)).toUInt32.toUInt16.toUInt32.toInt32)] [(.int (0 : Int32)), (.ref b2), (.ref b2)])) (fun _ k_ => XS.iconst X2.here hx rfl (hb hby d1_43) k_) ?_
    have f5 := O0.ext E2
    have f6 := (Keep.refl h0 []).ext E2
    obtain ⟨T7, h7, k7, X7, e7, E7, A7, st7⟩ := newP X2 hx hZ (wd hw 7 rfl) e2 (g := (mkF m 44 #[iv bits, iv (((bits.toUInt32 >>> ((16 : Int32) &&& 31).toUInt32).toInt32) &&& (3 : Int32)), iv ((bits &&& (255 : Int32)).toUInt32.toUInt16.toUInt32.toInt32), iv ((((bits.toUInt32 >>> ((8 : Int32) &&& 31).toUInt32).toInt32) &&& (255 : Int32)).toUInt32.toUInt16.toUInt32.toInt32), iv ((((bits.toUInt32 >>> ((24 : Int32) &&& 31).toUInt32).toInt32) &&& (255 : Int32)).toUInt32.toUInt16.toUInt32.toInt32)] [(.int (0 : Int32)), (.ref b2), (.ref b2)])) rfl (hb hby d1_44) rfl (by decide) (cap := 0) (by decide) (by decide) (by decide) (by decide)
    obtain ⟨b7, g7⟩ : ∃ z, z = h2.size := ⟨_, rfl⟩
    rw [← g7] at A7 st7
    have fr7 : n0 ≤ b7 := Nat.le_trans (own_z f5) (Nat.le_of_eq g7.symm)
    have sz7 : h0.size ≤ b7 := Nat.le_trans f6.1 (Nat.le_of_eq g7.symm)
    have CR8 := CR3.trans (CHr.ext E7 CR3.1)
    have sf9 : Safe Z consts_1 s.vm h7 b2 := Safe.ext E7 CR3.1 sf4
    have V7 : Arv Z h7 b7 k7 .char (0 : Int32) [] (.int (0 : Int32)) := Arv.new A7 (by decide)
    refine own_stW (T' := T7) (g' := (mkF m 46 #[iv bits, iv (((bits.toUInt32 >>> ((16 : Int32) &&& 31).toUInt32).toInt32) &&& (3 : Int32)), iv ((bits &&& (255 : Int32)).toUInt32.toUInt16.toUInt32.toInt32), iv ((((bits.toUInt32 >>> ((8 : Int32) &&& 31).toUInt32).toInt32) &&& (255 : Int32)).toUInt32.toUInt16.toUInt32.toInt32), iv ((((bits.toUInt32 >>> ((24 : Int32) &&& 31).toUInt32).toInt32) &&& (255 : Int32)).toUInt32.toUInt16.toUInt32.toInt32)] [(.ref b7), (.ref b2), (.ref b2)])) st7 ?_
    clear st7
    have f10 := A2.ext E7
    have f11 := F2_value.ext E7
    have f12 := F2_coder.ext E7
    have f13 := f5.ext E7
    obtain ⟨_, T14, L14, X14, hS14, hQ14, ch14, st14⟩ := own_callIW X7 hx (y := own_m1) rfl hown (mvT hZ (wd hw 8 rfl)) (mvT hZ (wd hw 9 rfl)) (mvT hZ (wd hw 10 rfl)) (by decide) (own_backW (W := 1) (rm_ini1_0 l Z a0 hw [] b2 b7 k7 h7 n0 f13 f10 f11 f12 fr2 V7) hZ (wd hw 10 rfl) (wd hw 6 rfl) (by decide) (by decide) hEL CR8.1 (sfS sf9 sf0) (allS (Nat.lt_of_lt_of_le A2.lt E7.1) all0)) (g := (mkF m 46 #[iv bits, iv (((bits.toUInt32 >>> ((16 : Int32) &&& 31).toUInt32).toInt32) &&& (3 : Int32)), iv ((bits &&& (255 : Int32)).toUInt32.toUInt16.toUInt32.toInt32), iv ((((bits.toUInt32 >>> ((8 : Int32) &&& 31).toUInt32).toInt32) &&& (255 : Int32)).toUInt32.toUInt16.toUInt32.toInt32), iv ((((bits.toUInt32 >>> ((24 : Int32) &&& 31).toUInt32).toInt32) &&& (255 : Int32)).toUInt32.toUInt16.toUInt32.toInt32)] [(.ref b7), (.ref b2), (.ref b2)])) rfl (by rw [hml]; rfl) (a := b2) (argsL := [(.ref b7)]) (rest := [(.ref b2)]) (lenOf pd___C_V rfl) rfl (by show 2 * 0 + _ ≤ _; exact Nat.le_of_eq rfl) (hb hby d1_46) rfl e7 (by decide) (by decide) (c' := 6) (s' := 12) rfl rfl hS0 (Nat.le_trans (Nat.le_trans hk0 E2.1) E7.1)
    obtain ⟨t14, kb14, rfl, Nq14, K14, fq14_0, fq14_1, fq14_2, fq14_3⟩ := hQ14
    have N14 := Fr.app N0 Nq14
    have CR15 := CR8.trans ch14
    have sf16 : Safe Z consts_1 T14.vm T14.heap b2 := ch14.safe (Nat.lt_of_lt_of_le A2.lt E7.1) sf9
    have hZ14 : Z.Warmed39 (s.setVm T14.vm).vm := own_hZ hZs hS14
    have hown14 : (s.setVm T14.vm).vm.findClass "com/example/rights_leak_checker/rightsleakchecker/takegrant/BridgeFromPinLaw" = some m.cls := own_hown howns hS14
    refine own_stW (T' := T14) (g' := (mkF m 49 #[iv bits, iv (((bits.toUInt32 >>> ((16 : Int32) &&& 31).toUInt32).toInt32) &&& (3 : Int32)), iv ((bits &&& (255 : Int32)).toUInt32.toUInt16.toUInt32.toInt32), iv ((((bits.toUInt32 >>> ((8 : Int32) &&& 31).toUInt32).toInt32) &&& (255 : Int32)).toUInt32.toUInt16.toUInt32.toInt32), iv ((((bits.toUInt32 >>> ((24 : Int32) &&& 31).toUInt32).toInt32) &&& (255 : Int32)).toUInt32.toUInt16.toUInt32.toInt32)] [(.ref b2)])) st14 ?_
    clear st14
    have f17 := f6.ext E7
    have f18 := f17.trans K14 (allS (Or.inr sz2) all0)
    exact own_retAW X14 hZ14 hS14 (Nat.le_refl _) hEL CR15 hx hret rfl rfl hlk (hb hby d1_49) (by decide) (by decide) ⟨b2, rfl, N14, f18, fq14_0, sz2⟩
  · refine own_stW (T' := s₁) (g' := (mkF m 50 #[iv bits, iv (((bits.toUInt32 >>> ((16 : Int32) &&& 31).toUInt32).toInt32) &&& (3 : Int32)), iv ((bits &&& (255 : Int32)).toUInt32.toUInt16.toUInt32.toInt32), iv ((((bits.toUInt32 >>> ((8 : Int32) &&& 31).toUInt32).toInt32) &&& (255 : Int32)).toUInt32.toUInt16.toUInt32.toInt32), iv ((((bits.toUInt32 >>> ((24 : Int32) &&& 31).toUInt32).toInt32) &&& (255 : Int32)).toUInt32.toUInt16.toUInt32.toInt32)] [])) (fun _ k_ => XS.ifYes X0.here hx rfl (pc0 := 36) (pc' := 50) rfl (hb hby d1_36) rfl ((if0 _ _).trans (feq hc1).2) (by decide) (by decide) k_) ?_
    refine own_stW (T' := s₁) (g' := (mkF m 51 #[iv bits, iv (((bits.toUInt32 >>> ((16 : Int32) &&& 31).toUInt32).toInt32) &&& (3 : Int32)), iv ((bits &&& (255 : Int32)).toUInt32.toUInt16.toUInt32.toInt32), iv ((((bits.toUInt32 >>> ((8 : Int32) &&& 31).toUInt32).toInt32) &&& (255 : Int32)).toUInt32.toUInt16.toUInt32.toInt32), iv ((((bits.toUInt32 >>> ((24 : Int32) &&& 31).toUInt32).toInt32) &&& (255 : Int32)).toUInt32.toUInt16.toUInt32.toInt32)] [(.int (((bits.toUInt32 >>> ((16 : Int32) &&& 31).toUInt32).toInt32) &&& (3 : Int32)))])) (fun _ k_ => XS.iloadN X0.here hx rfl (hb hby d1_50) rfl  k_) ?_
    refine own_stW (T' := s₁) (g' := (mkF m 52 #[iv bits, iv (((bits.toUInt32 >>> ((16 : Int32) &&& 31).toUInt32).toInt32) &&& (3 : Int32)), iv ((bits &&& (255 : Int32)).toUInt32.toUInt16.toUInt32.toInt32), iv ((((bits.toUInt32 >>> ((8 : Int32) &&& 31).toUInt32).toInt32) &&& (255 : Int32)).toUInt32.toUInt16.toUInt32.toInt32), iv ((((bits.toUInt32 >>> ((24 : Int32) &&& 31).toUInt32).toInt32) &&& (255 : Int32)).toUInt32.toUInt16.toUInt32.toInt32)] [(.int (1 : Int32)), (.int (((bits.toUInt32 >>> ((16 : Int32) &&& 31).toUInt32).toInt32) &&& (3 : Int32)))])) (fun _ k_ => XS.iconst X0.here hx rfl (hb hby d1_51) k_) ?_
    by_cases hc19 : (((bits.toUInt32 >>> ((16 : Int32) &&& 31).toUInt32).toInt32) &&& (3 : Int32)) = (1 : Int32)
    · refine own_stW (T' := s₁) (g' := (mkF m 55 #[iv bits, iv (((bits.toUInt32 >>> ((16 : Int32) &&& 31).toUInt32).toInt32) &&& (3 : Int32)), iv ((bits &&& (255 : Int32)).toUInt32.toUInt16.toUInt32.toInt32), iv ((((bits.toUInt32 >>> ((8 : Int32) &&& 31).toUInt32).toInt32) &&& (255 : Int32)).toUInt32.toUInt16.toUInt32.toInt32), iv ((((bits.toUInt32 >>> ((24 : Int32) &&& 31).toUInt32).toInt32) &&& (255 : Int32)).toUInt32.toUInt16.toUInt32.toInt32)] [])) (fun _ k_ => XS.icmpNo X0.here hx rfl (hb hby d1_52) rfl (teq hc19).2 k_) ?_
      obtain ⟨T20, h20, X20, e20, E20, A20, D20, -, st20⟩ := newO X0 hx hZ hown (wd hw 4 rfl) (wd hw 5 rfl) (wd hw 6 rfl) e0 (g := (mkF m 55 #[iv bits, iv (((bits.toUInt32 >>> ((16 : Int32) &&& 31).toUInt32).toInt32) &&& (3 : Int32)), iv ((bits &&& (255 : Int32)).toUInt32.toUInt16.toUInt32.toInt32), iv ((((bits.toUInt32 >>> ((8 : Int32) &&& 31).toUInt32).toInt32) &&& (255 : Int32)).toUInt32.toUInt16.toUInt32.toInt32), iv ((((bits.toUInt32 >>> ((24 : Int32) &&& 31).toUInt32).toInt32) &&& (255 : Int32)).toUInt32.toUInt16.toUInt32.toInt32)] [])) rfl (hb hby d1_55) (by decide) (by decide)
      obtain ⟨b20, g20⟩ : ∃ z, z = h0.size := ⟨_, rfl⟩
      rw [← g20] at A20 D20 st20
      have fr20 : n0 ≤ b20 := Nat.le_trans (own_z O0) (Nat.le_of_eq g20.symm)
      have sz20 : h0.size ≤ b20 := Nat.le_trans (Keep.refl h0 []).1 (Nat.le_of_eq g20.symm)
      have CR21 := CR0.trans (CHr.ext E20 CR0.1)
      have sf22 : Safe Z consts_1 s.vm h20 b20 := Safe.ext E20 CR0.1 (Safe.new (Nat.le_of_eq g20.symm))
      have F20_value : Fld Z h20 b20 "java/lang/String" "value" "[B" .null := D20 (Or.inr (wd hw 20 rfl)) (ty := (.array .byte)) (by decide)
      have F20_coder : Fld Z h20 b20 "java/lang/String" "coder" "B" (.int (0 : Int32)) := D20 (Or.inr (wd hw 21 rfl)) (ty := .byte) (by decide)
      refine own_stW (T' := T20) (g' := (mkF m 58 #[iv bits, iv (((bits.toUInt32 >>> ((16 : Int32) &&& 31).toUInt32).toInt32) &&& (3 : Int32)), iv ((bits &&& (255 : Int32)).toUInt32.toUInt16.toUInt32.toInt32), iv ((((bits.toUInt32 >>> ((8 : Int32) &&& 31).toUInt32).toInt32) &&& (255 : Int32)).toUInt32.toUInt16.toUInt32.toInt32), iv ((((bits.toUInt32 >>> ((24 : Int32) &&& 31).toUInt32).toInt32) &&& (255 : Int32)).toUInt32.toUInt16.toUInt32.toInt32)] [(.ref b20)])) st20 ?_
      clear st20
      refine own_stW (T' := T20) (g' := (mkF m 59 #[iv bits, iv (((bits.toUInt32 >>> ((16 : Int32) &&& 31).toUInt32).toInt32) &&& (3 : Int32)), iv ((bits &&& (255 : Int32)).toUInt32.toUInt16.toUInt32.toInt32), iv ((((bits.toUInt32 >>> ((8 : Int32) &&& 31).toUInt32).toInt32) &&& (255 : Int32)).toUInt32.toUInt16.toUInt32.toInt32), iv ((((bits.toUInt32 >>> ((24 : Int32) &&& 31).toUInt32).toInt32) &&& (255 : Int32)).toUInt32.toUInt16.toUInt32.toInt32)] [(.ref b20), (.ref b20)])) (fun _ k_ => XS.dup X20.here hx rfl (hb hby d1_58) rfl rfl k_) ?_
      refine own_stW (T' := T20) (g' := (mkF m 60 #[iv bits, iv (((bits.toUInt32 >>> ((16 : Int32) &&& 31).toUInt32).toInt32) &&& (3 : Int32)), iv ((bits &&& (255 : Int32)).toUInt32.toUInt16.toUInt32.toInt32), iv ((((bits.toUInt32 >>> ((8 : Int32) &&& 31).toUInt32).toInt32) &&& (255 : Int32)).toUInt32.toUInt16.toUInt32.toInt32), iv ((((bits.toUInt32 >>> ((24 : Int32) &&& 31).toUInt32).toInt32) &&& (255 : Int32)).toUInt32.toUInt16.toUInt32.toInt32)] [(.int (1 : Int32)), (.ref b20), (.ref b20)])) (fun _ k_ => XS.iconst X20.here hx rfl (hb hby d1_59) k_) ?_
      have f23 := O0.ext E20
      have f24 := (Keep.refl h0 []).ext E20
      obtain ⟨T25, h25, k25, X25, e25, E25, A25, st25⟩ := newP X20 hx hZ (wd hw 7 rfl) e20 (g := (mkF m 60 #[iv bits, iv (((bits.toUInt32 >>> ((16 : Int32) &&& 31).toUInt32).toInt32) &&& (3 : Int32)), iv ((bits &&& (255 : Int32)).toUInt32.toUInt16.toUInt32.toInt32), iv ((((bits.toUInt32 >>> ((8 : Int32) &&& 31).toUInt32).toInt32) &&& (255 : Int32)).toUInt32.toUInt16.toUInt32.toInt32), iv ((((bits.toUInt32 >>> ((24 : Int32) &&& 31).toUInt32).toInt32) &&& (255 : Int32)).toUInt32.toUInt16.toUInt32.toInt32)] [(.int (1 : Int32)), (.ref b20), (.ref b20)])) rfl (hb hby d1_60) rfl (by decide) (cap := 1) (by decide) (by decide) (by decide) (by decide)
      obtain ⟨b25, g25⟩ : ∃ z, z = h20.size := ⟨_, rfl⟩
      rw [← g25] at A25 st25
      have fr25 : n0 ≤ b25 := Nat.le_trans (own_z f23) (Nat.le_of_eq g25.symm)
      have sz25 : h0.size ≤ b25 := Nat.le_trans f24.1 (Nat.le_of_eq g25.symm)
      have CR26 := CR21.trans (CHr.ext E25 CR21.1)
      have sf27 : Safe Z consts_1 s.vm h25 b20 := Safe.ext E25 CR21.1 sf22
      have V25 : Arv Z h25 b25 k25 .char (1 : Int32) [(.int (0 : Int32))] (.int (0 : Int32)) := (Arv.new A25 (by decide)).pad (pad_rep [] (.int (0 : Int32)) 1)
      refine own_stW (T' := T25) (g' := (mkF m 62 #[iv bits, iv (((bits.toUInt32 >>> ((16 : Int32) &&& 31).toUInt32).toInt32) &&& (3 : Int32)), iv ((bits &&& (255 : Int32)).toUInt32.toUInt16.toUInt32.toInt32), iv ((((bits.toUInt32 >>> ((8 : Int32) &&& 31).toUInt32).toInt32) &&& (255 : Int32)).toUInt32.toUInt16.toUInt32.toInt32), iv ((((bits.toUInt32 >>> ((24 : Int32) &&& 31).toUInt32).toInt32) &&& (255 : Int32)).toUInt32.toUInt16.toUInt32.toInt32)] [(.ref b25), (.ref b20), (.ref b20)])) st25 ?_
      clear st25
      refine own_stW (T' := T25) (g' := (mkF m 63 #[iv bits, iv (((bits.toUInt32 >>> ((16 : Int32) &&& 31).toUInt32).toInt32) &&& (3 : Int32)), iv ((bits &&& (255 : Int32)).toUInt32.toUInt16.toUInt32.toInt32), iv ((((bits.toUInt32 >>> ((8 : Int32) &&& 31).toUInt32).toInt32) &&& (255 : Int32)).toUInt32.toUInt16.toUInt32.toInt32), iv ((((bits.toUInt32 >>> ((24 : Int32) &&& 31).toUInt32).toInt32) &&& (255 : Int32)).toUInt32.toUInt16.toUInt32.toInt32)] [(.ref b25), (.ref b25), (.ref b20), (.ref b20)])) (fun _ k_ => XS.dup X25.here hx rfl (hb hby d1_62) rfl rfl k_) ?_
      refine own_stW (T' := T25) (g' := (mkF m 64 #[iv bits, iv (((bits.toUInt32 >>> ((16 : Int32) &&& 31).toUInt32).toInt32) &&& (3 : Int32)), iv ((bits &&& (255 : Int32)).toUInt32.toUInt16.toUInt32.toInt32), iv ((((bits.toUInt32 >>> ((8 : Int32) &&& 31).toUInt32).toInt32) &&& (255 : Int32)).toUInt32.toUInt16.toUInt32.toInt32), iv ((((bits.toUInt32 >>> ((24 : Int32) &&& 31).toUInt32).toInt32) &&& (255 : Int32)).toUInt32.toUInt16.toUInt32.toInt32)] [(.int (0 : Int32)), (.ref b25), (.ref b25), (.ref b20), (.ref b20)])) (fun _ k_ => XS.iconst X25.here hx rfl (hb hby d1_63) k_) ?_
      refine own_stW (T' := T25) (g' := (mkF m 65 #[iv bits, iv (((bits.toUInt32 >>> ((16 : Int32) &&& 31).toUInt32).toInt32) &&& (3 : Int32)), iv ((bits &&& (255 : Int32)).toUInt32.toUInt16.toUInt32.toInt32), iv ((((bits.toUInt32 >>> ((8 : Int32) &&& 31).toUInt32).toInt32) &&& (255 : Int32)).toUInt32.toUInt16.toUInt32.toInt32), iv ((((bits.toUInt32 >>> ((24 : Int32) &&& 31).toUInt32).toInt32) &&& (255 : Int32)).toUInt32.toUInt16.toUInt32.toInt32)] [(.int ((bits &&& (255 : Int32)).toUInt32.toUInt16.toUInt32.toInt32)), (.int (0 : Int32)), (.ref b25), (.ref b25), (.ref b20), (.ref b20)])) (fun _ k_ => XS.iloadN X25.here hx rfl (hb hby d1_64) rfl  k_) ?_
      obtain ⟨cl28, Ar28, q28, S28, N28, H28, G28⟩ := id V25
      have hin28 : ¬ ((0 : Int32) < 0 ∨ cl28.slots.size ≤ ((0 : Int32)).toNatClampNeg) := inb_of S28 ⟨by decide, by decide⟩
      obtain ⟨T29, h29, X29, e29, W29, st29⟩ := stC X25 hx hZ e25 Ar28 (j := (0 : Int32)) hin28 (g := (mkF m 65 #[iv bits, iv (((bits.toUInt32 >>> ((16 : Int32) &&& 31).toUInt32).toInt32) &&& (3 : Int32)), iv ((bits &&& (255 : Int32)).toUInt32.toUInt16.toUInt32.toInt32), iv ((((bits.toUInt32 >>> ((8 : Int32) &&& 31).toUInt32).toInt32) &&& (255 : Int32)).toUInt32.toUInt16.toUInt32.toInt32), iv ((((bits.toUInt32 >>> ((24 : Int32) &&& 31).toUInt32).toInt32) &&& (255 : Int32)).toUInt32.toUInt16.toUInt32.toInt32)] [(.int ((bits &&& (255 : Int32)).toUInt32.toUInt16.toUInt32.toInt32)), (.int (0 : Int32)), (.ref b25), (.ref b25), (.ref b20), (.ref b20)])) rfl rfl (hb hby d1_65)
      have CR30 := CR26.trans (CHr.wr W29 (Safe.arv hZ.alike V25 (by decide)) CR26.1)
      have sf31 : Safe Z consts_1 s.vm h29 b20 := Safe.wr W29 (Safe.arv hZ.alike V25 (by decide)) CR26.1 sf27
      have V29 : Arv Z h29 b25 k25 .char (1 : Int32) [(.int (nar .char ((bits &&& (255 : Int32)).toUInt32.toUInt16.toUInt32.toInt32)))] (.int (0 : Int32)) := Arv.set Ar28 q28 S28 N28 H28 G28 (fits_nar_char _) W29 0 rfl (Nat.le_of_ble_eq_true rfl)
      have Vn29 : Arv Z h29 b25 k25 .char (1 : Int32) [(.int (bits &&& (255 : Int32)))] (.int (0 : Int32)) := by simpa only [own_nc] using V29
      have Nx29 := Fr.snoc X29 N0 fr25
      refine own_stW (T' := T29) (g' := (mkF m 66 #[iv bits, iv (((bits.toUInt32 >>> ((16 : Int32) &&& 31).toUInt32).toInt32) &&& (3 : Int32)), iv ((bits &&& (255 : Int32)).toUInt32.toUInt16.toUInt32.toInt32), iv ((((bits.toUInt32 >>> ((8 : Int32) &&& 31).toUInt32).toInt32) &&& (255 : Int32)).toUInt32.toUInt16.toUInt32.toInt32), iv ((((bits.toUInt32 >>> ((24 : Int32) &&& 31).toUInt32).toInt32) &&& (255 : Int32)).toUInt32.toUInt16.toUInt32.toInt32)] [(.ref b25), (.ref b20), (.ref b20)])) st29 ?_
      clear hin28 G28 H28 N28 S28 q28 Ar28 cl28 st29
      have f32 := A20.ext E25
      have f33 := f32.wr W29
      have f34 := F20_value.ext E25
      have ne35 : b20 ≠ b25 := Nat.ne_of_lt (Nat.lt_of_lt_of_le A20.lt (Nat.le_of_eq g25.symm))
      have f36 := f34.other W29 (Or.inl ne35)
      have f37 := F20_coder.ext E25
      have f38 := f37.other W29 (Or.inl ne35)
      have f39 := f23.ext E25
      have f40 := f39.wr W29 fr25
      have f41 := f24.ext E25
      have f42 := f41.wr W29 (Or.inr sz25)
      obtain ⟨_, T43, L43, X43, hQ43, st43⟩ := own_callI X29 hx (y := own_m1) rfl hown (mvT hZ (wd hw 8 rfl)) (mvT hZ (wd hw 9 rfl)) (mvT hZ (wd hw 10 rfl)) (by decide) (backOf (W := 1) (rm_ini1_1 l Z a0 hw [] b20 b25 k25 cz (bits &&& (255 : Int32)) h29 n0 f40 f33 f36 f38 fr20 Vn29 SC hcz (by first | exact own_c255 _ | exact (own_r255 _).2 | decide)) hZ (wd hw 10 rfl) (wd hw 6 rfl) (by decide) (by decide)) (g := (mkF m 66 #[iv bits, iv (((bits.toUInt32 >>> ((16 : Int32) &&& 31).toUInt32).toInt32) &&& (3 : Int32)), iv ((bits &&& (255 : Int32)).toUInt32.toUInt16.toUInt32.toInt32), iv ((((bits.toUInt32 >>> ((8 : Int32) &&& 31).toUInt32).toInt32) &&& (255 : Int32)).toUInt32.toUInt16.toUInt32.toInt32), iv ((((bits.toUInt32 >>> ((24 : Int32) &&& 31).toUInt32).toInt32) &&& (255 : Int32)).toUInt32.toUInt16.toUInt32.toInt32)] [(.ref b25), (.ref b20), (.ref b20)])) rfl (by rw [hml]; rfl) (a := b20) (argsL := [(.ref b25)]) (rest := [(.ref b20)]) (lenOf pd___C_V rfl) rfl (by show 2 * 0 + _ ≤ _; exact Nat.le_of_eq rfl) (hb hby d1_66) rfl e29 (by decide) (by decide) (c' := 3) (s' := 6) rfl rfl
      obtain ⟨t43, kb43, rfl, Nq43, K43, fq43_0, fq43_1, fq43_2, fq43_3, xq43_fresh_t⟩ := hQ43
      have N43 := Fr.app Nx29 Nq43
      have CR44 := CR30.trans (CHr.keep K43 (sfS sf31 sf0) CR30.1)
      have sf45 : Safe Z consts_1 s.vm T43.heap b20 := Safe.keep K43 (sfS sf31 sf0) CR30.1 sf31
      refine own_stW (T' := T43) (g' := (mkF m 69 #[iv bits, iv (((bits.toUInt32 >>> ((16 : Int32) &&& 31).toUInt32).toInt32) &&& (3 : Int32)), iv ((bits &&& (255 : Int32)).toUInt32.toUInt16.toUInt32.toInt32), iv ((((bits.toUInt32 >>> ((8 : Int32) &&& 31).toUInt32).toInt32) &&& (255 : Int32)).toUInt32.toUInt16.toUInt32.toInt32), iv ((((bits.toUInt32 >>> ((24 : Int32) &&& 31).toUInt32).toInt32) &&& (255 : Int32)).toUInt32.toUInt16.toUInt32.toInt32)] [(.ref b20)])) st43 ?_
      clear st43
      have f46 := f42.trans K43 (allS (Or.inr sz20) all0)
      exact own_retAW X43 hZ hS0 (Nat.le_trans (Nat.le_trans (Nat.le_trans (Nat.le_trans hk0 E20.1) E25.1) (Nat.le_of_eq (Wr.size W29).symm)) K43.1) hEL CR44 hx hret rfl rfl hlk (hb hby d1_69) (by decide) (by decide) ⟨b20, rfl, N43, f46, fq43_0, sz20⟩
    · refine own_stW (T' := s₁) (g' := (mkF m 70 #[iv bits, iv (((bits.toUInt32 >>> ((16 : Int32) &&& 31).toUInt32).toInt32) &&& (3 : Int32)), iv ((bits &&& (255 : Int32)).toUInt32.toUInt16.toUInt32.toInt32), iv ((((bits.toUInt32 >>> ((8 : Int32) &&& 31).toUInt32).toInt32) &&& (255 : Int32)).toUInt32.toUInt16.toUInt32.toInt32), iv ((((bits.toUInt32 >>> ((24 : Int32) &&& 31).toUInt32).toInt32) &&& (255 : Int32)).toUInt32.toUInt16.toUInt32.toInt32)] [])) (fun _ k_ => XS.icmpYes X0.here hx rfl (pc0 := 52) (pc' := 70) rfl (hb hby d1_52) rfl (feq hc19).2 (by decide) (by decide) k_) ?_
      refine own_stW (T' := s₁) (g' := (mkF m 71 #[iv bits, iv (((bits.toUInt32 >>> ((16 : Int32) &&& 31).toUInt32).toInt32) &&& (3 : Int32)), iv ((bits &&& (255 : Int32)).toUInt32.toUInt16.toUInt32.toInt32), iv ((((bits.toUInt32 >>> ((8 : Int32) &&& 31).toUInt32).toInt32) &&& (255 : Int32)).toUInt32.toUInt16.toUInt32.toInt32), iv ((((bits.toUInt32 >>> ((24 : Int32) &&& 31).toUInt32).toInt32) &&& (255 : Int32)).toUInt32.toUInt16.toUInt32.toInt32)] [(.int (((bits.toUInt32 >>> ((16 : Int32) &&& 31).toUInt32).toInt32) &&& (3 : Int32)))])) (fun _ k_ => XS.iloadN X0.here hx rfl (hb hby d1_70) rfl  k_) ?_
      refine own_stW (T' := s₁) (g' := (mkF m 72 #[iv bits, iv (((bits.toUInt32 >>> ((16 : Int32) &&& 31).toUInt32).toInt32) &&& (3 : Int32)), iv ((bits &&& (255 : Int32)).toUInt32.toUInt16.toUInt32.toInt32), iv ((((bits.toUInt32 >>> ((8 : Int32) &&& 31).toUInt32).toInt32) &&& (255 : Int32)).toUInt32.toUInt16.toUInt32.toInt32), iv ((((bits.toUInt32 >>> ((24 : Int32) &&& 31).toUInt32).toInt32) &&& (255 : Int32)).toUInt32.toUInt16.toUInt32.toInt32)] [(.int (2 : Int32)), (.int (((bits.toUInt32 >>> ((16 : Int32) &&& 31).toUInt32).toInt32) &&& (3 : Int32)))])) (fun _ k_ => XS.iconst X0.here hx rfl (hb hby d1_71) k_) ?_
      by_cases hc47 : (((bits.toUInt32 >>> ((16 : Int32) &&& 31).toUInt32).toInt32) &&& (3 : Int32)) = (2 : Int32)
      · refine own_stW (T' := s₁) (g' := (mkF m 75 #[iv bits, iv (((bits.toUInt32 >>> ((16 : Int32) &&& 31).toUInt32).toInt32) &&& (3 : Int32)), iv ((bits &&& (255 : Int32)).toUInt32.toUInt16.toUInt32.toInt32), iv ((((bits.toUInt32 >>> ((8 : Int32) &&& 31).toUInt32).toInt32) &&& (255 : Int32)).toUInt32.toUInt16.toUInt32.toInt32), iv ((((bits.toUInt32 >>> ((24 : Int32) &&& 31).toUInt32).toInt32) &&& (255 : Int32)).toUInt32.toUInt16.toUInt32.toInt32)] [])) (fun _ k_ => XS.icmpNo X0.here hx rfl (hb hby d1_72) rfl (teq hc47).2 k_) ?_
        obtain ⟨T48, h48, X48, e48, E48, A48, D48, -, st48⟩ := newO X0 hx hZ hown (wd hw 4 rfl) (wd hw 5 rfl) (wd hw 6 rfl) e0 (g := (mkF m 75 #[iv bits, iv (((bits.toUInt32 >>> ((16 : Int32) &&& 31).toUInt32).toInt32) &&& (3 : Int32)), iv ((bits &&& (255 : Int32)).toUInt32.toUInt16.toUInt32.toInt32), iv ((((bits.toUInt32 >>> ((8 : Int32) &&& 31).toUInt32).toInt32) &&& (255 : Int32)).toUInt32.toUInt16.toUInt32.toInt32), iv ((((bits.toUInt32 >>> ((24 : Int32) &&& 31).toUInt32).toInt32) &&& (255 : Int32)).toUInt32.toUInt16.toUInt32.toInt32)] [])) rfl (hb hby d1_75) (by decide) (by decide)
        obtain ⟨b48, g48⟩ : ∃ z, z = h0.size := ⟨_, rfl⟩
        rw [← g48] at A48 D48 st48
        have fr48 : n0 ≤ b48 := Nat.le_trans (own_z O0) (Nat.le_of_eq g48.symm)
        have sz48 : h0.size ≤ b48 := Nat.le_trans (Keep.refl h0 []).1 (Nat.le_of_eq g48.symm)
        have CR49 := CR0.trans (CHr.ext E48 CR0.1)
        have sf50 : Safe Z consts_1 s.vm h48 b48 := Safe.ext E48 CR0.1 (Safe.new (Nat.le_of_eq g48.symm))
        have F48_value : Fld Z h48 b48 "java/lang/String" "value" "[B" .null := D48 (Or.inr (wd hw 20 rfl)) (ty := (.array .byte)) (by decide)
        have F48_coder : Fld Z h48 b48 "java/lang/String" "coder" "B" (.int (0 : Int32)) := D48 (Or.inr (wd hw 21 rfl)) (ty := .byte) (by decide)
        refine own_stW (T' := T48) (g' := (mkF m 78 #[iv bits, iv (((bits.toUInt32 >>> ((16 : Int32) &&& 31).toUInt32).toInt32) &&& (3 : Int32)), iv ((bits &&& (255 : Int32)).toUInt32.toUInt16.toUInt32.toInt32), iv ((((bits.toUInt32 >>> ((8 : Int32) &&& 31).toUInt32).toInt32) &&& (255 : Int32)).toUInt32.toUInt16.toUInt32.toInt32), iv ((((bits.toUInt32 >>> ((24 : Int32) &&& 31).toUInt32).toInt32) &&& (255 : Int32)).toUInt32.toUInt16.toUInt32.toInt32)] [(.ref b48)])) st48 ?_
        clear st48
        refine own_stW (T' := T48) (g' := (mkF m 79 #[iv bits, iv (((bits.toUInt32 >>> ((16 : Int32) &&& 31).toUInt32).toInt32) &&& (3 : Int32)), iv ((bits &&& (255 : Int32)).toUInt32.toUInt16.toUInt32.toInt32), iv ((((bits.toUInt32 >>> ((8 : Int32) &&& 31).toUInt32).toInt32) &&& (255 : Int32)).toUInt32.toUInt16.toUInt32.toInt32), iv ((((bits.toUInt32 >>> ((24 : Int32) &&& 31).toUInt32).toInt32) &&& (255 : Int32)).toUInt32.toUInt16.toUInt32.toInt32)] [(.ref b48), (.ref b48)])) (fun _ k_ => XS.dup X48.here hx rfl (hb hby d1_78) rfl rfl k_) ?_
        refine own_stW (T' := T48) (g' := (mkF m 80 #[iv bits, iv (((bits.toUInt32 >>> ((16 : Int32) &&& 31).toUInt32).toInt32) &&& (3 : Int32)), iv ((bits &&& (255 : Int32)).toUInt32.toUInt16.toUInt32.toInt32), iv ((((bits.toUInt32 >>> ((8 : Int32) &&& 31).toUInt32).toInt32) &&& (255 : Int32)).toUInt32.toUInt16.toUInt32.toInt32), iv ((((bits.toUInt32 >>> ((24 : Int32) &&& 31).toUInt32).toInt32) &&& (255 : Int32)).toUInt32.toUInt16.toUInt32.toInt32)] [(.int (2 : Int32)), (.ref b48), (.ref b48)])) (fun _ k_ => XS.iconst X48.here hx rfl (hb hby d1_79) k_) ?_
        have f51 := O0.ext E48
        have f52 := (Keep.refl h0 []).ext E48
        obtain ⟨T53, h53, k53, X53, e53, E53, A53, st53⟩ := newP X48 hx hZ (wd hw 7 rfl) e48 (g := (mkF m 80 #[iv bits, iv (((bits.toUInt32 >>> ((16 : Int32) &&& 31).toUInt32).toInt32) &&& (3 : Int32)), iv ((bits &&& (255 : Int32)).toUInt32.toUInt16.toUInt32.toInt32), iv ((((bits.toUInt32 >>> ((8 : Int32) &&& 31).toUInt32).toInt32) &&& (255 : Int32)).toUInt32.toUInt16.toUInt32.toInt32), iv ((((bits.toUInt32 >>> ((24 : Int32) &&& 31).toUInt32).toInt32) &&& (255 : Int32)).toUInt32.toUInt16.toUInt32.toInt32)] [(.int (2 : Int32)), (.ref b48), (.ref b48)])) rfl (hb hby d1_80) rfl (by decide) (cap := 2) (by decide) (by decide) (by decide) (by decide)
        obtain ⟨b53, g53⟩ : ∃ z, z = h48.size := ⟨_, rfl⟩
        rw [← g53] at A53 st53
        have fr53 : n0 ≤ b53 := Nat.le_trans (own_z f51) (Nat.le_of_eq g53.symm)
        have sz53 : h0.size ≤ b53 := Nat.le_trans f52.1 (Nat.le_of_eq g53.symm)
        have CR54 := CR49.trans (CHr.ext E53 CR49.1)
        have sf55 : Safe Z consts_1 s.vm h53 b48 := Safe.ext E53 CR49.1 sf50
        have V53 : Arv Z h53 b53 k53 .char (2 : Int32) [(.int (0 : Int32)), (.int (0 : Int32))] (.int (0 : Int32)) := (Arv.new A53 (by decide)).pad (pad_rep [] (.int (0 : Int32)) 2)
        refine own_stW (T' := T53) (g' := (mkF m 82 #[iv bits, iv (((bits.toUInt32 >>> ((16 : Int32) &&& 31).toUInt32).toInt32) &&& (3 : Int32)), iv ((bits &&& (255 : Int32)).toUInt32.toUInt16.toUInt32.toInt32), iv ((((bits.toUInt32 >>> ((8 : Int32) &&& 31).toUInt32).toInt32) &&& (255 : Int32)).toUInt32.toUInt16.toUInt32.toInt32), iv ((((bits.toUInt32 >>> ((24 : Int32) &&& 31).toUInt32).toInt32) &&& (255 : Int32)).toUInt32.toUInt16.toUInt32.toInt32)] [(.ref b53), (.ref b48), (.ref b48)])) st53 ?_
        clear st53
        refine own_stW (T' := T53) (g' := (mkF m 83 #[iv bits, iv (((bits.toUInt32 >>> ((16 : Int32) &&& 31).toUInt32).toInt32) &&& (3 : Int32)), iv ((bits &&& (255 : Int32)).toUInt32.toUInt16.toUInt32.toInt32), iv ((((bits.toUInt32 >>> ((8 : Int32) &&& 31).toUInt32).toInt32) &&& (255 : Int32)).toUInt32.toUInt16.toUInt32.toInt32), iv ((((bits.toUInt32 >>> ((24 : Int32) &&& 31).toUInt32).toInt32) &&& (255 : Int32)).toUInt32.toUInt16.toUInt32.toInt32)] [(.ref b53), (.ref b53), (.ref b48), (.ref b48)])) (fun _ k_ => XS.dup X53.here hx rfl (hb hby d1_82) rfl rfl k_) ?_
        refine own_stW (T' := T53) (g' := (mkF m 84 #[iv bits, iv (((bits.toUInt32 >>> ((16 : Int32) &&& 31).toUInt32).toInt32) &&& (3 : Int32)), iv ((bits &&& (255 : Int32)).toUInt32.toUInt16.toUInt32.toInt32), iv ((((bits.toUInt32 >>> ((8 : Int32) &&& 31).toUInt32).toInt32) &&& (255 : Int32)).toUInt32.toUInt16.toUInt32.toInt32), iv ((((bits.toUInt32 >>> ((24 : Int32) &&& 31).toUInt32).toInt32) &&& (255 : Int32)).toUInt32.toUInt16.toUInt32.toInt32)] [(.int (0 : Int32)), (.ref b53), (.ref b53), (.ref b48), (.ref b48)])) (fun _ k_ => XS.iconst X53.here hx rfl (hb hby d1_83) k_) ?_
        refine own_stW (T' := T53) (g' := (mkF m 85 #[iv bits, iv (((bits.toUInt32 >>> ((16 : Int32) &&& 31).toUInt32).toInt32) &&& (3 : Int32)), iv ((bits &&& (255 : Int32)).toUInt32.toUInt16.toUInt32.toInt32), iv ((((bits.toUInt32 >>> ((8 : Int32) &&& 31).toUInt32).toInt32) &&& (255 : Int32)).toUInt32.toUInt16.toUInt32.toInt32), iv ((((bits.toUInt32 >>> ((24 : Int32) &&& 31).toUInt32).toInt32) &&& (255 : Int32)).toUInt32.toUInt16.toUInt32.toInt32)] [(.int ((bits &&& (255 : Int32)).toUInt32.toUInt16.toUInt32.toInt32)), (.int (0 : Int32)), (.ref b53), (.ref b53), (.ref b48), (.ref b48)])) (fun _ k_ => XS.iloadN X53.here hx rfl (hb hby d1_84) rfl  k_) ?_
        obtain ⟨cl56, Ar56, q56, S56, N56, H56, G56⟩ := id V53
        have hin56 : ¬ ((0 : Int32) < 0 ∨ cl56.slots.size ≤ ((0 : Int32)).toNatClampNeg) := inb_of S56 ⟨by decide, by decide⟩
        obtain ⟨T57, h57, X57, e57, W57, st57⟩ := stC X53 hx hZ e53 Ar56 (j := (0 : Int32)) hin56 (g := (mkF m 85 #[iv bits, iv (((bits.toUInt32 >>> ((16 : Int32) &&& 31).toUInt32).toInt32) &&& (3 : Int32)), iv ((bits &&& (255 : Int32)).toUInt32.toUInt16.toUInt32.toInt32), iv ((((bits.toUInt32 >>> ((8 : Int32) &&& 31).toUInt32).toInt32) &&& (255 : Int32)).toUInt32.toUInt16.toUInt32.toInt32), iv ((((bits.toUInt32 >>> ((24 : Int32) &&& 31).toUInt32).toInt32) &&& (255 : Int32)).toUInt32.toUInt16.toUInt32.toInt32)] [(.int ((bits &&& (255 : Int32)).toUInt32.toUInt16.toUInt32.toInt32)), (.int (0 : Int32)), (.ref b53), (.ref b53), (.ref b48), (.ref b48)])) rfl rfl (hb hby d1_85)
        have CR58 := CR54.trans (CHr.wr W57 (Safe.arv hZ.alike V53 (by decide)) CR54.1)
        have sf59 : Safe Z consts_1 s.vm h57 b48 := Safe.wr W57 (Safe.arv hZ.alike V53 (by decide)) CR54.1 sf55
        have V57 : Arv Z h57 b53 k53 .char (2 : Int32) [(.int (nar .char ((bits &&& (255 : Int32)).toUInt32.toUInt16.toUInt32.toInt32))), (.int (0 : Int32))] (.int (0 : Int32)) := Arv.set Ar56 q56 S56 N56 H56 G56 (fits_nar_char _) W57 0 rfl (Nat.le_of_ble_eq_true rfl)
        have Vn57 : Arv Z h57 b53 k53 .char (2 : Int32) [(.int (bits &&& (255 : Int32))), (.int (0 : Int32))] (.int (0 : Int32)) := by simpa only [own_nc] using V57
        have Nx57 := Fr.snoc X57 N0 fr53
        refine own_stW (T' := T57) (g' := (mkF m 86 #[iv bits, iv (((bits.toUInt32 >>> ((16 : Int32) &&& 31).toUInt32).toInt32) &&& (3 : Int32)), iv ((bits &&& (255 : Int32)).toUInt32.toUInt16.toUInt32.toInt32), iv ((((bits.toUInt32 >>> ((8 : Int32) &&& 31).toUInt32).toInt32) &&& (255 : Int32)).toUInt32.toUInt16.toUInt32.toInt32), iv ((((bits.toUInt32 >>> ((24 : Int32) &&& 31).toUInt32).toInt32) &&& (255 : Int32)).toUInt32.toUInt16.toUInt32.toInt32)] [(.ref b53), (.ref b48), (.ref b48)])) st57 ?_
        clear hin56 G56 H56 N56 S56 q56 Ar56 cl56 st57
        refine own_stW (T' := T57) (g' := (mkF m 87 #[iv bits, iv (((bits.toUInt32 >>> ((16 : Int32) &&& 31).toUInt32).toInt32) &&& (3 : Int32)), iv ((bits &&& (255 : Int32)).toUInt32.toUInt16.toUInt32.toInt32), iv ((((bits.toUInt32 >>> ((8 : Int32) &&& 31).toUInt32).toInt32) &&& (255 : Int32)).toUInt32.toUInt16.toUInt32.toInt32), iv ((((bits.toUInt32 >>> ((24 : Int32) &&& 31).toUInt32).toInt32) &&& (255 : Int32)).toUInt32.toUInt16.toUInt32.toInt32)] [(.ref b53), (.ref b53), (.ref b48), (.ref b48)])) (fun _ k_ => XS.dup X57.here hx rfl (hb hby d1_86) rfl rfl k_) ?_
        refine own_stW (T' := T57) (g' := (mkF m 88 #[iv bits, iv (((bits.toUInt32 >>> ((16 : Int32) &&& 31).toUInt32).toInt32) &&& (3 : Int32)), iv ((bits &&& (255 : Int32)).toUInt32.toUInt16.toUInt32.toInt32), iv ((((bits.toUInt32 >>> ((8 : Int32) &&& 31).toUInt32).toInt32) &&& (255 : Int32)).toUInt32.toUInt16.toUInt32.toInt32), iv ((((bits.toUInt32 >>> ((24 : Int32) &&& 31).toUInt32).toInt32) &&& (255 : Int32)).toUInt32.toUInt16.toUInt32.toInt32)] [(.int (1 : Int32)), (.ref b53), (.ref b53), (.ref b48), (.ref b48)])) (fun _ k_ => XS.iconst X57.here hx rfl (hb hby d1_87) k_) ?_
        refine own_stW (T' := T57) (g' := (mkF m 89 #[iv bits, iv (((bits.toUInt32 >>> ((16 : Int32) &&& 31).toUInt32).toInt32) &&& (3 : Int32)), iv ((bits &&& (255 : Int32)).toUInt32.toUInt16.toUInt32.toInt32), iv ((((bits.toUInt32 >>> ((8 : Int32) &&& 31).toUInt32).toInt32) &&& (255 : Int32)).toUInt32.toUInt16.toUInt32.toInt32), iv ((((bits.toUInt32 >>> ((24 : Int32) &&& 31).toUInt32).toInt32) &&& (255 : Int32)).toUInt32.toUInt16.toUInt32.toInt32)] [(.int ((((bits.toUInt32 >>> ((8 : Int32) &&& 31).toUInt32).toInt32) &&& (255 : Int32)).toUInt32.toUInt16.toUInt32.toInt32)), (.int (1 : Int32)), (.ref b53), (.ref b53), (.ref b48), (.ref b48)])) (fun _ k_ => XS.iloadN X57.here hx rfl (hb hby d1_88) rfl  k_) ?_
        obtain ⟨cl60, Ar60, q60, S60, N60, H60, G60⟩ := id Vn57
        have hin60 : ¬ ((1 : Int32) < 0 ∨ cl60.slots.size ≤ ((1 : Int32)).toNatClampNeg) := inb_of S60 ⟨by decide, by decide⟩
        obtain ⟨T61, h61, X61, e61, W61, st61⟩ := stC X57 hx hZ e57 Ar60 (j := (1 : Int32)) hin60 (g := (mkF m 89 #[iv bits, iv (((bits.toUInt32 >>> ((16 : Int32) &&& 31).toUInt32).toInt32) &&& (3 : Int32)), iv ((bits &&& (255 : Int32)).toUInt32.toUInt16.toUInt32.toInt32), iv ((((bits.toUInt32 >>> ((8 : Int32) &&& 31).toUInt32).toInt32) &&& (255 : Int32)).toUInt32.toUInt16.toUInt32.toInt32), iv ((((bits.toUInt32 >>> ((24 : Int32) &&& 31).toUInt32).toInt32) &&& (255 : Int32)).toUInt32.toUInt16.toUInt32.toInt32)] [(.int ((((bits.toUInt32 >>> ((8 : Int32) &&& 31).toUInt32).toInt32) &&& (255 : Int32)).toUInt32.toUInt16.toUInt32.toInt32)), (.int (1 : Int32)), (.ref b53), (.ref b53), (.ref b48), (.ref b48)])) rfl rfl (hb hby d1_89)
        have CR62 := CR58.trans (CHr.wr W61 (Safe.arv hZ.alike Vn57 (by decide)) CR58.1)
        have sf63 : Safe Z consts_1 s.vm h61 b48 := Safe.wr W61 (Safe.arv hZ.alike Vn57 (by decide)) CR58.1 sf59
        have V61 : Arv Z h61 b53 k53 .char (2 : Int32) [(.int (bits &&& (255 : Int32))), (.int (nar .char ((((bits.toUInt32 >>> ((8 : Int32) &&& 31).toUInt32).toInt32) &&& (255 : Int32)).toUInt32.toUInt16.toUInt32.toInt32)))] (.int (0 : Int32)) := Arv.set Ar60 q60 S60 N60 H60 G60 (fits_nar_char _) W61 1 rfl (Nat.le_of_ble_eq_true rfl)
        have Vn61 : Arv Z h61 b53 k53 .char (2 : Int32) [(.int (bits &&& (255 : Int32))), (.int (((bits.toUInt32 >>> ((8 : Int32) &&& 31).toUInt32).toInt32) &&& (255 : Int32)))] (.int (0 : Int32)) := by simpa only [own_nc] using V61
        have Nx61 := Fr.snoc X61 Nx57 fr53
        refine own_stW (T' := T61) (g' := (mkF m 90 #[iv bits, iv (((bits.toUInt32 >>> ((16 : Int32) &&& 31).toUInt32).toInt32) &&& (3 : Int32)), iv ((bits &&& (255 : Int32)).toUInt32.toUInt16.toUInt32.toInt32), iv ((((bits.toUInt32 >>> ((8 : Int32) &&& 31).toUInt32).toInt32) &&& (255 : Int32)).toUInt32.toUInt16.toUInt32.toInt32), iv ((((bits.toUInt32 >>> ((24 : Int32) &&& 31).toUInt32).toInt32) &&& (255 : Int32)).toUInt32.toUInt16.toUInt32.toInt32)] [(.ref b53), (.ref b48), (.ref b48)])) st61 ?_
        clear hin60 G60 H60 N60 S60 q60 Ar60 cl60 st61
        have f64 := A48.ext E53
        have f65 := f64.wr W57
        have f66 := f65.wr W61
        have f67 := F48_value.ext E53
        have ne68 : b48 ≠ b53 := Nat.ne_of_lt (Nat.lt_of_lt_of_le A48.lt (Nat.le_of_eq g53.symm))
        have f69 := f67.other W57 (Or.inl ne68)
        have f70 := f69.other W61 (Or.inl ne68)
        have f71 := F48_coder.ext E53
        have f72 := f71.other W57 (Or.inl ne68)
        have f73 := f72.other W61 (Or.inl ne68)
        have f74 := f51.ext E53
        have f75 := f74.wr W57 fr53
        have f76 := f75.wr W61 fr53
        have f77 := f52.ext E53
        have f78 := f77.wr W57 (Or.inr sz53)
        have f79 := f78.wr W61 (Or.inr sz53)
        obtain ⟨_, T80, L80, X80, hQ80, st80⟩ := own_callI X61 hx (y := own_m1) rfl hown (mvT hZ (wd hw 8 rfl)) (mvT hZ (wd hw 9 rfl)) (mvT hZ (wd hw 10 rfl)) (by decide) (backOf (W := 1) (rm_ini1_2 l Z a0 hw [] b48 b53 k53 cz (bits &&& (255 : Int32)) (((bits.toUInt32 >>> ((8 : Int32) &&& 31).toUInt32).toInt32) &&& (255 : Int32)) h61 n0 f76 f66 f70 f73 fr48 Vn61 SC hcz (by first | exact own_c255 _ | exact (own_r255 _).2 | decide) (by first | exact own_c255 _ | exact (own_r255 _).2 | decide)) hZ (wd hw 10 rfl) (wd hw 6 rfl) (by decide) (by decide)) (g := (mkF m 90 #[iv bits, iv (((bits.toUInt32 >>> ((16 : Int32) &&& 31).toUInt32).toInt32) &&& (3 : Int32)), iv ((bits &&& (255 : Int32)).toUInt32.toUInt16.toUInt32.toInt32), iv ((((bits.toUInt32 >>> ((8 : Int32) &&& 31).toUInt32).toInt32) &&& (255 : Int32)).toUInt32.toUInt16.toUInt32.toInt32), iv ((((bits.toUInt32 >>> ((24 : Int32) &&& 31).toUInt32).toInt32) &&& (255 : Int32)).toUInt32.toUInt16.toUInt32.toInt32)] [(.ref b53), (.ref b48), (.ref b48)])) rfl (by rw [hml]; rfl) (a := b48) (argsL := [(.ref b53)]) (rest := [(.ref b48)]) (lenOf pd___C_V rfl) rfl (by show 2 * 0 + _ ≤ _; exact Nat.le_of_eq rfl) (hb hby d1_90) rfl e61 (by decide) (by decide) (c' := 3) (s' := 8) rfl rfl
        obtain ⟨t80, kb80, rfl, Nq80, K80, fq80_0, fq80_1, fq80_2, fq80_3, xq80_fresh_t⟩ := hQ80
        have N80 := Fr.app Nx61 Nq80
        have CR81 := CR62.trans (CHr.keep K80 (sfS sf63 sf0) CR62.1)
        have sf82 : Safe Z consts_1 s.vm T80.heap b48 := Safe.keep K80 (sfS sf63 sf0) CR62.1 sf63
        refine own_stW (T' := T80) (g' := (mkF m 93 #[iv bits, iv (((bits.toUInt32 >>> ((16 : Int32) &&& 31).toUInt32).toInt32) &&& (3 : Int32)), iv ((bits &&& (255 : Int32)).toUInt32.toUInt16.toUInt32.toInt32), iv ((((bits.toUInt32 >>> ((8 : Int32) &&& 31).toUInt32).toInt32) &&& (255 : Int32)).toUInt32.toUInt16.toUInt32.toInt32), iv ((((bits.toUInt32 >>> ((24 : Int32) &&& 31).toUInt32).toInt32) &&& (255 : Int32)).toUInt32.toUInt16.toUInt32.toInt32)] [(.ref b48)])) st80 ?_
        clear st80
        have f83 := f79.trans K80 (allS (Or.inr sz48) all0)
        exact own_retAW X80 hZ hS0 (Nat.le_trans (Nat.le_trans (Nat.le_trans (Nat.le_trans (Nat.le_trans hk0 E48.1) E53.1) (Nat.le_of_eq (Wr.size W57).symm)) (Nat.le_of_eq (Wr.size W61).symm)) K80.1) hEL CR81 hx hret rfl rfl hlk (hb hby d1_93) (by decide) (by decide) ⟨b48, rfl, N80, f83, fq80_0, sz48⟩
      · refine own_stW (T' := s₁) (g' := (mkF m 94 #[iv bits, iv (((bits.toUInt32 >>> ((16 : Int32) &&& 31).toUInt32).toInt32) &&& (3 : Int32)), iv ((bits &&& (255 : Int32)).toUInt32.toUInt16.toUInt32.toInt32), iv ((((bits.toUInt32 >>> ((8 : Int32) &&& 31).toUInt32).toInt32) &&& (255 : Int32)).toUInt32.toUInt16.toUInt32.toInt32), iv ((((bits.toUInt32 >>> ((24 : Int32) &&& 31).toUInt32).toInt32) &&& (255 : Int32)).toUInt32.toUInt16.toUInt32.toInt32)] [])) (fun _ k_ => XS.icmpYes X0.here hx rfl (pc0 := 72) (pc' := 94) rfl (hb hby d1_72) rfl (feq hc47).2 (by decide) (by decide) k_) ?_
        obtain ⟨T84, h84, X84, e84, E84, A84, D84, -, st84⟩ := newO X0 hx hZ hown (wd hw 4 rfl) (wd hw 5 rfl) (wd hw 6 rfl) e0 (g := (mkF m 94 #[iv bits, iv (((bits.toUInt32 >>> ((16 : Int32) &&& 31).toUInt32).toInt32) &&& (3 : Int32)), iv ((bits &&& (255 : Int32)).toUInt32.toUInt16.toUInt32.toInt32), iv ((((bits.toUInt32 >>> ((8 : Int32) &&& 31).toUInt32).toInt32) &&& (255 : Int32)).toUInt32.toUInt16.toUInt32.toInt32), iv ((((bits.toUInt32 >>> ((24 : Int32) &&& 31).toUInt32).toInt32) &&& (255 : Int32)).toUInt32.toUInt16.toUInt32.toInt32)] [])) rfl (hb hby d1_94) (by decide) (by decide)
        obtain ⟨b84, g84⟩ : ∃ z, z = h0.size := ⟨_, rfl⟩
        rw [← g84] at A84 D84 st84
        have fr84 : n0 ≤ b84 := Nat.le_trans (own_z O0) (Nat.le_of_eq g84.symm)
        have sz84 : h0.size ≤ b84 := Nat.le_trans (Keep.refl h0 []).1 (Nat.le_of_eq g84.symm)
        have CR85 := CR0.trans (CHr.ext E84 CR0.1)
        have sf86 : Safe Z consts_1 s.vm h84 b84 := Safe.ext E84 CR0.1 (Safe.new (Nat.le_of_eq g84.symm))
        have F84_value : Fld Z h84 b84 "java/lang/String" "value" "[B" .null := D84 (Or.inr (wd hw 20 rfl)) (ty := (.array .byte)) (by decide)
        have F84_coder : Fld Z h84 b84 "java/lang/String" "coder" "B" (.int (0 : Int32)) := D84 (Or.inr (wd hw 21 rfl)) (ty := .byte) (by decide)
        refine own_stW (T' := T84) (g' := (mkF m 97 #[iv bits, iv (((bits.toUInt32 >>> ((16 : Int32) &&& 31).toUInt32).toInt32) &&& (3 : Int32)), iv ((bits &&& (255 : Int32)).toUInt32.toUInt16.toUInt32.toInt32), iv ((((bits.toUInt32 >>> ((8 : Int32) &&& 31).toUInt32).toInt32) &&& (255 : Int32)).toUInt32.toUInt16.toUInt32.toInt32), iv ((((bits.toUInt32 >>> ((24 : Int32) &&& 31).toUInt32).toInt32) &&& (255 : Int32)).toUInt32.toUInt16.toUInt32.toInt32)] [(.ref b84)])) st84 ?_
        clear st84
        refine own_stW (T' := T84) (g' := (mkF m 98 #[iv bits, iv (((bits.toUInt32 >>> ((16 : Int32) &&& 31).toUInt32).toInt32) &&& (3 : Int32)), iv ((bits &&& (255 : Int32)).toUInt32.toUInt16.toUInt32.toInt32), iv ((((bits.toUInt32 >>> ((8 : Int32) &&& 31).toUInt32).toInt32) &&& (255 : Int32)).toUInt32.toUInt16.toUInt32.toInt32), iv ((((bits.toUInt32 >>> ((24 : Int32) &&& 31).toUInt32).toInt32) &&& (255 : Int32)).toUInt32.toUInt16.toUInt32.toInt32)] [(.ref b84), (.ref b84)])) (fun _ k_ => XS.dup X84.here hx rfl (hb hby d1_97) rfl rfl k_) ?_
        refine own_stW (T' := T84) (g' := (mkF m 99 #[iv bits, iv (((bits.toUInt32 >>> ((16 : Int32) &&& 31).toUInt32).toInt32) &&& (3 : Int32)), iv ((bits &&& (255 : Int32)).toUInt32.toUInt16.toUInt32.toInt32), iv ((((bits.toUInt32 >>> ((8 : Int32) &&& 31).toUInt32).toInt32) &&& (255 : Int32)).toUInt32.toUInt16.toUInt32.toInt32), iv ((((bits.toUInt32 >>> ((24 : Int32) &&& 31).toUInt32).toInt32) &&& (255 : Int32)).toUInt32.toUInt16.toUInt32.toInt32)] [(.int (3 : Int32)), (.ref b84), (.ref b84)])) (fun _ k_ => XS.iconst X84.here hx rfl (hb hby d1_98) k_) ?_
        have f87 := O0.ext E84
        have f88 := (Keep.refl h0 []).ext E84
        obtain ⟨T89, h89, k89, X89, e89, E89, A89, st89⟩ := newP X84 hx hZ (wd hw 7 rfl) e84 (g := (mkF m 99 #[iv bits, iv (((bits.toUInt32 >>> ((16 : Int32) &&& 31).toUInt32).toInt32) &&& (3 : Int32)), iv ((bits &&& (255 : Int32)).toUInt32.toUInt16.toUInt32.toInt32), iv ((((bits.toUInt32 >>> ((8 : Int32) &&& 31).toUInt32).toInt32) &&& (255 : Int32)).toUInt32.toUInt16.toUInt32.toInt32), iv ((((bits.toUInt32 >>> ((24 : Int32) &&& 31).toUInt32).toInt32) &&& (255 : Int32)).toUInt32.toUInt16.toUInt32.toInt32)] [(.int (3 : Int32)), (.ref b84), (.ref b84)])) rfl (hb hby d1_99) rfl (by decide) (cap := 3) (by decide) (by decide) (by decide) (by decide)
        obtain ⟨b89, g89⟩ : ∃ z, z = h84.size := ⟨_, rfl⟩
        rw [← g89] at A89 st89
        have fr89 : n0 ≤ b89 := Nat.le_trans (own_z f87) (Nat.le_of_eq g89.symm)
        have sz89 : h0.size ≤ b89 := Nat.le_trans f88.1 (Nat.le_of_eq g89.symm)
        have CR90 := CR85.trans (CHr.ext E89 CR85.1)
        have sf91 : Safe Z consts_1 s.vm h89 b84 := Safe.ext E89 CR85.1 sf86
        have V89 : Arv Z h89 b89 k89 .char (3 : Int32) [(.int (0 : Int32)), (.int (0 : Int32)), (.int (0 : Int32))] (.int (0 : Int32)) := (Arv.new A89 (by decide)).pad (pad_rep [] (.int (0 : Int32)) 3)
        refine own_stW (T' := T89) (g' := (mkF m 101 #[iv bits, iv (((bits.toUInt32 >>> ((16 : Int32) &&& 31).toUInt32).toInt32) &&& (3 : Int32)), iv ((bits &&& (255 : Int32)).toUInt32.toUInt16.toUInt32.toInt32), iv ((((bits.toUInt32 >>> ((8 : Int32) &&& 31).toUInt32).toInt32) &&& (255 : Int32)).toUInt32.toUInt16.toUInt32.toInt32), iv ((((bits.toUInt32 >>> ((24 : Int32) &&& 31).toUInt32).toInt32) &&& (255 : Int32)).toUInt32.toUInt16.toUInt32.toInt32)] [(.ref b89), (.ref b84), (.ref b84)])) st89 ?_
        clear st89
        refine own_stW (T' := T89) (g' := (mkF m 102 #[iv bits, iv (((bits.toUInt32 >>> ((16 : Int32) &&& 31).toUInt32).toInt32) &&& (3 : Int32)), iv ((bits &&& (255 : Int32)).toUInt32.toUInt16.toUInt32.toInt32), iv ((((bits.toUInt32 >>> ((8 : Int32) &&& 31).toUInt32).toInt32) &&& (255 : Int32)).toUInt32.toUInt16.toUInt32.toInt32), iv ((((bits.toUInt32 >>> ((24 : Int32) &&& 31).toUInt32).toInt32) &&& (255 : Int32)).toUInt32.toUInt16.toUInt32.toInt32)] [(.ref b89), (.ref b89), (.ref b84), (.ref b84)])) (fun _ k_ => XS.dup X89.here hx rfl (hb hby d1_101) rfl rfl k_) ?_
        refine own_stW (T' := T89) (g' := (mkF m 103 #[iv bits, iv (((bits.toUInt32 >>> ((16 : Int32) &&& 31).toUInt32).toInt32) &&& (3 : Int32)), iv ((bits &&& (255 : Int32)).toUInt32.toUInt16.toUInt32.toInt32), iv ((((bits.toUInt32 >>> ((8 : Int32) &&& 31).toUInt32).toInt32) &&& (255 : Int32)).toUInt32.toUInt16.toUInt32.toInt32), iv ((((bits.toUInt32 >>> ((24 : Int32) &&& 31).toUInt32).toInt32) &&& (255 : Int32)).toUInt32.toUInt16.toUInt32.toInt32)] [(.int (0 : Int32)), (.ref b89), (.ref b89), (.ref b84), (.ref b84)])) (fun _ k_ => XS.iconst X89.here hx rfl (hb hby d1_102) k_) ?_
        refine own_stW (T' := T89) (g' := (mkF m 104 #[iv bits, iv (((bits.toUInt32 >>> ((16 : Int32) &&& 31).toUInt32).toInt32) &&& (3 : Int32)), iv ((bits &&& (255 : Int32)).toUInt32.toUInt16.toUInt32.toInt32), iv ((((bits.toUInt32 >>> ((8 : Int32) &&& 31).toUInt32).toInt32) &&& (255 : Int32)).toUInt32.toUInt16.toUInt32.toInt32), iv ((((bits.toUInt32 >>> ((24 : Int32) &&& 31).toUInt32).toInt32) &&& (255 : Int32)).toUInt32.toUInt16.toUInt32.toInt32)] [(.int ((bits &&& (255 : Int32)).toUInt32.toUInt16.toUInt32.toInt32)), (.int (0 : Int32)), (.ref b89), (.ref b89), (.ref b84), (.ref b84)])) (fun _ k_ => XS.iloadN X89.here hx rfl (hb hby d1_103) rfl  k_) ?_
        obtain ⟨cl92, Ar92, q92, S92, N92, H92, G92⟩ := id V89
        have hin92 : ¬ ((0 : Int32) < 0 ∨ cl92.slots.size ≤ ((0 : Int32)).toNatClampNeg) := inb_of S92 ⟨by decide, by decide⟩
        obtain ⟨T93, h93, X93, e93, W93, st93⟩ := stC X89 hx hZ e89 Ar92 (j := (0 : Int32)) hin92 (g := (mkF m 104 #[iv bits, iv (((bits.toUInt32 >>> ((16 : Int32) &&& 31).toUInt32).toInt32) &&& (3 : Int32)), iv ((bits &&& (255 : Int32)).toUInt32.toUInt16.toUInt32.toInt32), iv ((((bits.toUInt32 >>> ((8 : Int32) &&& 31).toUInt32).toInt32) &&& (255 : Int32)).toUInt32.toUInt16.toUInt32.toInt32), iv ((((bits.toUInt32 >>> ((24 : Int32) &&& 31).toUInt32).toInt32) &&& (255 : Int32)).toUInt32.toUInt16.toUInt32.toInt32)] [(.int ((bits &&& (255 : Int32)).toUInt32.toUInt16.toUInt32.toInt32)), (.int (0 : Int32)), (.ref b89), (.ref b89), (.ref b84), (.ref b84)])) rfl rfl (hb hby d1_104)
        have CR94 := CR90.trans (CHr.wr W93 (Safe.arv hZ.alike V89 (by decide)) CR90.1)
        have sf95 : Safe Z consts_1 s.vm h93 b84 := Safe.wr W93 (Safe.arv hZ.alike V89 (by decide)) CR90.1 sf91
        have V93 : Arv Z h93 b89 k89 .char (3 : Int32) [(.int (nar .char ((bits &&& (255 : Int32)).toUInt32.toUInt16.toUInt32.toInt32))), (.int (0 : Int32)), (.int (0 : Int32))] (.int (0 : Int32)) := Arv.set Ar92 q92 S92 N92 H92 G92 (fits_nar_char _) W93 0 rfl (Nat.le_of_ble_eq_true rfl)
        have Vn93 : Arv Z h93 b89 k89 .char (3 : Int32) [(.int (bits &&& (255 : Int32))), (.int (0 : Int32)), (.int (0 : Int32))] (.int (0 : Int32)) := by simpa only [own_nc] using V93
        have Nx93 := Fr.snoc X93 N0 fr89
        refine own_stW (T' := T93) (g' := (mkF m 105 #[iv bits, iv (((bits.toUInt32 >>> ((16 : Int32) &&& 31).toUInt32).toInt32) &&& (3 : Int32)), iv ((bits &&& (255 : Int32)).toUInt32.toUInt16.toUInt32.toInt32), iv ((((bits.toUInt32 >>> ((8 : Int32) &&& 31).toUInt32).toInt32) &&& (255 : Int32)).toUInt32.toUInt16.toUInt32.toInt32), iv ((((bits.toUInt32 >>> ((24 : Int32) &&& 31).toUInt32).toInt32) &&& (255 : Int32)).toUInt32.toUInt16.toUInt32.toInt32)] [(.ref b89), (.ref b84), (.ref b84)])) st93 ?_
        clear hin92 G92 H92 N92 S92 q92 Ar92 cl92 st93
        refine own_stW (T' := T93) (g' := (mkF m 106 #[iv bits, iv (((bits.toUInt32 >>> ((16 : Int32) &&& 31).toUInt32).toInt32) &&& (3 : Int32)), iv ((bits &&& (255 : Int32)).toUInt32.toUInt16.toUInt32.toInt32), iv ((((bits.toUInt32 >>> ((8 : Int32) &&& 31).toUInt32).toInt32) &&& (255 : Int32)).toUInt32.toUInt16.toUInt32.toInt32), iv ((((bits.toUInt32 >>> ((24 : Int32) &&& 31).toUInt32).toInt32) &&& (255 : Int32)).toUInt32.toUInt16.toUInt32.toInt32)] [(.ref b89), (.ref b89), (.ref b84), (.ref b84)])) (fun _ k_ => XS.dup X93.here hx rfl (hb hby d1_105) rfl rfl k_) ?_
        refine own_stW (T' := T93) (g' := (mkF m 107 #[iv bits, iv (((bits.toUInt32 >>> ((16 : Int32) &&& 31).toUInt32).toInt32) &&& (3 : Int32)), iv ((bits &&& (255 : Int32)).toUInt32.toUInt16.toUInt32.toInt32), iv ((((bits.toUInt32 >>> ((8 : Int32) &&& 31).toUInt32).toInt32) &&& (255 : Int32)).toUInt32.toUInt16.toUInt32.toInt32), iv ((((bits.toUInt32 >>> ((24 : Int32) &&& 31).toUInt32).toInt32) &&& (255 : Int32)).toUInt32.toUInt16.toUInt32.toInt32)] [(.int (1 : Int32)), (.ref b89), (.ref b89), (.ref b84), (.ref b84)])) (fun _ k_ => XS.iconst X93.here hx rfl (hb hby d1_106) k_) ?_
        refine own_stW (T' := T93) (g' := (mkF m 108 #[iv bits, iv (((bits.toUInt32 >>> ((16 : Int32) &&& 31).toUInt32).toInt32) &&& (3 : Int32)), iv ((bits &&& (255 : Int32)).toUInt32.toUInt16.toUInt32.toInt32), iv ((((bits.toUInt32 >>> ((8 : Int32) &&& 31).toUInt32).toInt32) &&& (255 : Int32)).toUInt32.toUInt16.toUInt32.toInt32), iv ((((bits.toUInt32 >>> ((24 : Int32) &&& 31).toUInt32).toInt32) &&& (255 : Int32)).toUInt32.toUInt16.toUInt32.toInt32)] [(.int ((((bits.toUInt32 >>> ((8 : Int32) &&& 31).toUInt32).toInt32) &&& (255 : Int32)).toUInt32.toUInt16.toUInt32.toInt32)), (.int (1 : Int32)), (.ref b89), (.ref b89), (.ref b84), (.ref b84)])) (fun _ k_ => XS.iloadN X93.here hx rfl (hb hby d1_107) rfl  k_) ?_
        obtain ⟨cl96, Ar96, q96, S96, N96, H96, G96⟩ := id Vn93
        have hin96 : ¬ ((1 : Int32) < 0 ∨ cl96.slots.size ≤ ((1 : Int32)).toNatClampNeg) := inb_of S96 ⟨by decide, by decide⟩
        obtain ⟨T97, h97, X97, e97, W97, st97⟩ := stC X93 hx hZ e93 Ar96 (j := (1 : Int32)) hin96 (g := (mkF m 108 #[iv bits, iv (((bits.toUInt32 >>> ((16 : Int32) &&& 31).toUInt32).toInt32) &&& (3 : Int32)), iv ((bits &&& (255 : Int32)).toUInt32.toUInt16.toUInt32.toInt32), iv ((((bits.toUInt32 >>> ((8 : Int32) &&& 31).toUInt32).toInt32) &&& (255 : Int32)).toUInt32.toUInt16.toUInt32.toInt32), iv ((((bits.toUInt32 >>> ((24 : Int32) &&& 31).toUInt32).toInt32) &&& (255 : Int32)).toUInt32.toUInt16.toUInt32.toInt32)] [(.int ((((bits.toUInt32 >>> ((8 : Int32) &&& 31).toUInt32).toInt32) &&& (255 : Int32)).toUInt32.toUInt16.toUInt32.toInt32)), (.int (1 : Int32)), (.ref b89), (.ref b89), (.ref b84), (.ref b84)])) rfl rfl (hb hby d1_108)
        have CR98 := CR94.trans (CHr.wr W97 (Safe.arv hZ.alike Vn93 (by decide)) CR94.1)
        have sf99 : Safe Z consts_1 s.vm h97 b84 := Safe.wr W97 (Safe.arv hZ.alike Vn93 (by decide)) CR94.1 sf95
        have V97 : Arv Z h97 b89 k89 .char (3 : Int32) [(.int (bits &&& (255 : Int32))), (.int (nar .char ((((bits.toUInt32 >>> ((8 : Int32) &&& 31).toUInt32).toInt32) &&& (255 : Int32)).toUInt32.toUInt16.toUInt32.toInt32))), (.int (0 : Int32))] (.int (0 : Int32)) := Arv.set Ar96 q96 S96 N96 H96 G96 (fits_nar_char _) W97 1 rfl (Nat.le_of_ble_eq_true rfl)
        have Vn97 : Arv Z h97 b89 k89 .char (3 : Int32) [(.int (bits &&& (255 : Int32))), (.int (((bits.toUInt32 >>> ((8 : Int32) &&& 31).toUInt32).toInt32) &&& (255 : Int32))), (.int (0 : Int32))] (.int (0 : Int32)) := by simpa only [own_nc] using V97
        have Nx97 := Fr.snoc X97 Nx93 fr89
        refine own_stW (T' := T97) (g' := (mkF m 109 #[iv bits, iv (((bits.toUInt32 >>> ((16 : Int32) &&& 31).toUInt32).toInt32) &&& (3 : Int32)), iv ((bits &&& (255 : Int32)).toUInt32.toUInt16.toUInt32.toInt32), iv ((((bits.toUInt32 >>> ((8 : Int32) &&& 31).toUInt32).toInt32) &&& (255 : Int32)).toUInt32.toUInt16.toUInt32.toInt32), iv ((((bits.toUInt32 >>> ((24 : Int32) &&& 31).toUInt32).toInt32) &&& (255 : Int32)).toUInt32.toUInt16.toUInt32.toInt32)] [(.ref b89), (.ref b84), (.ref b84)])) st97 ?_
        clear hin96 G96 H96 N96 S96 q96 Ar96 cl96 st97
        refine own_stW (T' := T97) (g' := (mkF m 110 #[iv bits, iv (((bits.toUInt32 >>> ((16 : Int32) &&& 31).toUInt32).toInt32) &&& (3 : Int32)), iv ((bits &&& (255 : Int32)).toUInt32.toUInt16.toUInt32.toInt32), iv ((((bits.toUInt32 >>> ((8 : Int32) &&& 31).toUInt32).toInt32) &&& (255 : Int32)).toUInt32.toUInt16.toUInt32.toInt32), iv ((((bits.toUInt32 >>> ((24 : Int32) &&& 31).toUInt32).toInt32) &&& (255 : Int32)).toUInt32.toUInt16.toUInt32.toInt32)] [(.ref b89), (.ref b89), (.ref b84), (.ref b84)])) (fun _ k_ => XS.dup X97.here hx rfl (hb hby d1_109) rfl rfl k_) ?_
        refine own_stW (T' := T97) (g' := (mkF m 111 #[iv bits, iv (((bits.toUInt32 >>> ((16 : Int32) &&& 31).toUInt32).toInt32) &&& (3 : Int32)), iv ((bits &&& (255 : Int32)).toUInt32.toUInt16.toUInt32.toInt32), iv ((((bits.toUInt32 >>> ((8 : Int32) &&& 31).toUInt32).toInt32) &&& (255 : Int32)).toUInt32.toUInt16.toUInt32.toInt32), iv ((((bits.toUInt32 >>> ((24 : Int32) &&& 31).toUInt32).toInt32) &&& (255 : Int32)).toUInt32.toUInt16.toUInt32.toInt32)] [(.int (2 : Int32)), (.ref b89), (.ref b89), (.ref b84), (.ref b84)])) (fun _ k_ => XS.iconst X97.here hx rfl (hb hby d1_110) k_) ?_
        refine own_stW (T' := T97) (g' := (mkF m 113 #[iv bits, iv (((bits.toUInt32 >>> ((16 : Int32) &&& 31).toUInt32).toInt32) &&& (3 : Int32)), iv ((bits &&& (255 : Int32)).toUInt32.toUInt16.toUInt32.toInt32), iv ((((bits.toUInt32 >>> ((8 : Int32) &&& 31).toUInt32).toInt32) &&& (255 : Int32)).toUInt32.toUInt16.toUInt32.toInt32), iv ((((bits.toUInt32 >>> ((24 : Int32) &&& 31).toUInt32).toInt32) &&& (255 : Int32)).toUInt32.toUInt16.toUInt32.toInt32)] [(.int ((((bits.toUInt32 >>> ((24 : Int32) &&& 31).toUInt32).toInt32) &&& (255 : Int32)).toUInt32.toUInt16.toUInt32.toInt32)), (.int (2 : Int32)), (.ref b89), (.ref b89), (.ref b84), (.ref b84)])) (fun _ k_ => XS.iload X97.here hx rfl (hb hby d1_111) rfl  k_) ?_
        obtain ⟨cl100, Ar100, q100, S100, N100, H100, G100⟩ := id Vn97
        have hin100 : ¬ ((2 : Int32) < 0 ∨ cl100.slots.size ≤ ((2 : Int32)).toNatClampNeg) := inb_of S100 ⟨by decide, by decide⟩
        obtain ⟨T101, h101, X101, e101, W101, st101⟩ := stC X97 hx hZ e97 Ar100 (j := (2 : Int32)) hin100 (g := (mkF m 113 #[iv bits, iv (((bits.toUInt32 >>> ((16 : Int32) &&& 31).toUInt32).toInt32) &&& (3 : Int32)), iv ((bits &&& (255 : Int32)).toUInt32.toUInt16.toUInt32.toInt32), iv ((((bits.toUInt32 >>> ((8 : Int32) &&& 31).toUInt32).toInt32) &&& (255 : Int32)).toUInt32.toUInt16.toUInt32.toInt32), iv ((((bits.toUInt32 >>> ((24 : Int32) &&& 31).toUInt32).toInt32) &&& (255 : Int32)).toUInt32.toUInt16.toUInt32.toInt32)] [(.int ((((bits.toUInt32 >>> ((24 : Int32) &&& 31).toUInt32).toInt32) &&& (255 : Int32)).toUInt32.toUInt16.toUInt32.toInt32)), (.int (2 : Int32)), (.ref b89), (.ref b89), (.ref b84), (.ref b84)])) rfl rfl (hb hby d1_113)
        have CR102 := CR98.trans (CHr.wr W101 (Safe.arv hZ.alike Vn97 (by decide)) CR98.1)
        have sf103 : Safe Z consts_1 s.vm h101 b84 := Safe.wr W101 (Safe.arv hZ.alike Vn97 (by decide)) CR98.1 sf99
        have V101 : Arv Z h101 b89 k89 .char (3 : Int32) [(.int (bits &&& (255 : Int32))), (.int (((bits.toUInt32 >>> ((8 : Int32) &&& 31).toUInt32).toInt32) &&& (255 : Int32))), (.int (nar .char ((((bits.toUInt32 >>> ((24 : Int32) &&& 31).toUInt32).toInt32) &&& (255 : Int32)).toUInt32.toUInt16.toUInt32.toInt32)))] (.int (0 : Int32)) := Arv.set Ar100 q100 S100 N100 H100 G100 (fits_nar_char _) W101 2 rfl (Nat.le_of_ble_eq_true rfl)
        have Vn101 : Arv Z h101 b89 k89 .char (3 : Int32) [(.int (bits &&& (255 : Int32))), (.int (((bits.toUInt32 >>> ((8 : Int32) &&& 31).toUInt32).toInt32) &&& (255 : Int32))), (.int (((bits.toUInt32 >>> ((24 : Int32) &&& 31).toUInt32).toInt32) &&& (255 : Int32)))] (.int (0 : Int32)) := by simpa only [own_nc] using V101
        have Nx101 := Fr.snoc X101 Nx97 fr89
        refine own_stW (T' := T101) (g' := (mkF m 114 #[iv bits, iv (((bits.toUInt32 >>> ((16 : Int32) &&& 31).toUInt32).toInt32) &&& (3 : Int32)), iv ((bits &&& (255 : Int32)).toUInt32.toUInt16.toUInt32.toInt32), iv ((((bits.toUInt32 >>> ((8 : Int32) &&& 31).toUInt32).toInt32) &&& (255 : Int32)).toUInt32.toUInt16.toUInt32.toInt32), iv ((((bits.toUInt32 >>> ((24 : Int32) &&& 31).toUInt32).toInt32) &&& (255 : Int32)).toUInt32.toUInt16.toUInt32.toInt32)] [(.ref b89), (.ref b84), (.ref b84)])) st101 ?_
        clear hin100 G100 H100 N100 S100 q100 Ar100 cl100 st101
        have f104 := A84.ext E89
        have f105 := f104.wr W93
        have f106 := f105.wr W97
        have f107 := f106.wr W101
        have f108 := F84_value.ext E89
        have ne109 : b84 ≠ b89 := Nat.ne_of_lt (Nat.lt_of_lt_of_le A84.lt (Nat.le_of_eq g89.symm))
        have f110 := f108.other W93 (Or.inl ne109)
        have f111 := f110.other W97 (Or.inl ne109)
        have f112 := f111.other W101 (Or.inl ne109)
        have f113 := F84_coder.ext E89
        have f114 := f113.other W93 (Or.inl ne109)
        have f115 := f114.other W97 (Or.inl ne109)
        have f116 := f115.other W101 (Or.inl ne109)
        have f117 := f87.ext E89
        have f118 := f117.wr W93 fr89
        have f119 := f118.wr W97 fr89
        have f120 := f119.wr W101 fr89
        have f121 := f88.ext E89
        have f122 := f121.wr W93 (Or.inr sz89)
        have f123 := f122.wr W97 (Or.inr sz89)
        have f124 := f123.wr W101 (Or.inr sz89)
        obtain ⟨_, T125, L125, X125, hQ125, st125⟩ := own_callI X101 hx (y := own_m1) rfl hown (mvT hZ (wd hw 8 rfl)) (mvT hZ (wd hw 9 rfl)) (mvT hZ (wd hw 10 rfl)) (by decide) (backOf (W := 1) (rm_ini1_3 l Z a0 hw [] b84 b89 k89 cz (bits &&& (255 : Int32)) (((bits.toUInt32 >>> ((8 : Int32) &&& 31).toUInt32).toInt32) &&& (255 : Int32)) (((bits.toUInt32 >>> ((24 : Int32) &&& 31).toUInt32).toInt32) &&& (255 : Int32)) h101 n0 f120 f107 f112 f116 fr84 Vn101 SC hcz (by first | exact own_c255 _ | exact (own_r255 _).2 | decide) (by first | exact own_c255 _ | exact (own_r255 _).2 | decide) (by first | exact own_c255 _ | exact (own_r255 _).2 | decide)) hZ (wd hw 10 rfl) (wd hw 6 rfl) (by decide) (by decide)) (g := (mkF m 114 #[iv bits, iv (((bits.toUInt32 >>> ((16 : Int32) &&& 31).toUInt32).toInt32) &&& (3 : Int32)), iv ((bits &&& (255 : Int32)).toUInt32.toUInt16.toUInt32.toInt32), iv ((((bits.toUInt32 >>> ((8 : Int32) &&& 31).toUInt32).toInt32) &&& (255 : Int32)).toUInt32.toUInt16.toUInt32.toInt32), iv ((((bits.toUInt32 >>> ((24 : Int32) &&& 31).toUInt32).toInt32) &&& (255 : Int32)).toUInt32.toUInt16.toUInt32.toInt32)] [(.ref b89), (.ref b84), (.ref b84)])) rfl (by rw [hml]; rfl) (a := b84) (argsL := [(.ref b89)]) (rest := [(.ref b84)]) (lenOf pd___C_V rfl) rfl (by show 2 * 0 + _ ≤ _; exact Nat.le_of_eq rfl) (hb hby d1_114) rfl e101 (by decide) (by decide) (c' := 3) (s' := 10) rfl rfl
        obtain ⟨t125, kb125, rfl, Nq125, K125, fq125_0, fq125_1, fq125_2, fq125_3, xq125_fresh_t⟩ := hQ125
        have N125 := Fr.app Nx101 Nq125
        have CR126 := CR102.trans (CHr.keep K125 (sfS sf103 sf0) CR102.1)
        have sf127 : Safe Z consts_1 s.vm T125.heap b84 := Safe.keep K125 (sfS sf103 sf0) CR102.1 sf103
        refine own_stW (T' := T125) (g' := (mkF m 117 #[iv bits, iv (((bits.toUInt32 >>> ((16 : Int32) &&& 31).toUInt32).toInt32) &&& (3 : Int32)), iv ((bits &&& (255 : Int32)).toUInt32.toUInt16.toUInt32.toInt32), iv ((((bits.toUInt32 >>> ((8 : Int32) &&& 31).toUInt32).toInt32) &&& (255 : Int32)).toUInt32.toUInt16.toUInt32.toInt32), iv ((((bits.toUInt32 >>> ((24 : Int32) &&& 31).toUInt32).toInt32) &&& (255 : Int32)).toUInt32.toUInt16.toUInt32.toInt32)] [(.ref b84)])) st125 ?_
        clear st125
        have f128 := f124.trans K125 (allS (Or.inr sz84) all0)
        exact own_retAW X125 hZ hS0 (Nat.le_trans (Nat.le_trans (Nat.le_trans (Nat.le_trans (Nat.le_trans (Nat.le_trans hk0 E84.1) E89.1) (Nat.le_of_eq (Wr.size W93).symm)) (Nat.le_of_eq (Wr.size W97).symm)) (Nat.le_of_eq (Wr.size W101).symm)) K125.1) hEL CR126 hx hret rfl rfl hlk (hb hby d1_117) (by decide) (by decide) ⟨b84, rfl, N125, f128, fq125_0, sz84⟩
theorem d7_0 : decode jdk_22_method_1_code 0 = .ok (.aload_n 0, 1) := by decide +kernel
theorem d7_1 : decode jdk_22_method_1_code 1 = .ok (.invokespecial 1, 3) := by decide +kernel
theorem d7_4 : decode jdk_22_method_1_code 4 = .ok (.return_, 1) := by decide +kernel
theorem pn_3 : plainName "java/util/AbstractCollection" = true := by first | (simp [plainName, overriddenIn]; done) | decide +kernel
theorem ef_abci (m : MethodId) (x0 : Addr) : entryFrame m #[(.ref x0)] 1 = mkF m 0 #[rv x0] [] := by first | (simp [entryFrame, mkF, argsToLocals, Value.category]; done) | rfl
def Q_abci (Z : State) (x : Addr) (h0 : Heap) (n0 : Nat) (v : Option Value) (h : Heap) (L : List Loc) : Prop := (v = none) ∧ (Fr n0 L) ∧ (h = h0)
set_option maxRecDepth 65536 in
set_option maxHeartbeats 40000000 in
theorem rm_abci (l : Launch) (Z : State) (a0 : Array Value) (hw : ∀ d ∈ tables_1, d.before a0 Z = true) (ws : List Jvm.Cond) (x : Addr) (h0 : Heap) (n0 : Nat) (O0 : Old Z n0 h0) :
    own_MF l own_m6 (Jvm.Cond.code own_m6 jdk_22_method_1_code 1 none :: ws) ({ frames := 1, cells := 0, slots := 0, locals := 12 } : Room) #[(.ref x)] Z h0 (Q_abci Z x h0 n0) := by
  refine own_met (own := "java/util/AbstractCollection") (nme := "<init>") rfl rfl (plainFor_of_name pn_3) ?_
  intro p e s m below meth c s₁ hx hby hml hown hnm X0 e0 hret hlk hZ
  have N0 := Fr.nil n0
  rw [ef_abci m x]
  refine own_st (T' := s₁) (g' := (mkF m 1 #[rv x] [(.ref x)])) (fun _ k_ => XS.aloadN X0.here hx rfl (hb hby d7_0) rfl rfl  k_) ?_
  obtain ⟨T1, X1, e1, st1⟩ := initO X0 hx hZ hown (wd hw 44 rfl) (wd hw 16 rfl) (wd hw 17 rfl) e0 (g := (mkF m 1 #[rv x] [(.ref x)])) rfl (by rw [hml]; rfl) rfl (hb hby d7_1) (by decide) (W := 0) (by show 2 * 0 + _ ≤ _; exact Nat.le_of_eq rfl) (by decide)
  refine own_st (T' := T1) (g' := (mkF m 4 #[rv x] [])) st1 ?_
  clear st1
  exact own_retV X1 hx hret hlk (hb hby d7_4) (by decide) (by decide) ⟨rfl, N0, e1⟩
theorem d6_0 : decode jdk_39_method_1_code 0 = .ok (.aload_n 0, 1) := by decide +kernel
theorem d6_1 : decode jdk_39_method_1_code 1 = .ok (.invokespecial 1, 3) := by decide +kernel
theorem d6_4 : decode jdk_39_method_1_code 4 = .ok (.aload_n 0, 1) := by decide +kernel
theorem d6_5 : decode jdk_39_method_1_code 5 = .ok (.iconst 0, 1) := by decide +kernel
theorem d6_6 : decode jdk_39_method_1_code 6 = .ok (.putfield 7, 3) := by decide +kernel
theorem d6_9 : decode jdk_39_method_1_code 9 = .ok (.return_, 1) := by decide +kernel
theorem pd___V : parseMethodDescriptor "()V" = some ⟨[], none⟩ := by decide +kernel
theorem pn_4 : plainName "java/util/AbstractList" = true := by first | (simp [plainName, overriddenIn]; done) | decide +kernel
theorem ef_abli (m : MethodId) (x0 : Addr) : entryFrame m #[(.ref x0)] 1 = mkF m 0 #[rv x0] [] := by first | (simp [entryFrame, mkF, argsToLocals, Value.category]; done) | rfl
def Q_abli (Z : State) (a : Addr) (h0 : Heap) (n0 : Nat) (v : Option Value) (h : Heap) (L : List Loc) : Prop := (v = none) ∧ (Fr n0 L) ∧ (Keep h0 h [a]) ∧ (Exa Z h a "java/util/ArrayList") ∧ (Fld Z h a "java/util/ArrayList" "elementData" "[Ljava/lang/Object;" .null) ∧ (Fld Z h a "java/util/ArrayList" "size" "I" (.int (0 : Int32))) ∧ (Fld Z h a "java/util/AbstractList" "modCount" "I" (.int (0 : Int32)))
set_option maxRecDepth 65536 in
set_option maxHeartbeats 40000000 in
theorem rm_abli (l : Launch) (Z : State) (a0 : Array Value) (hw : ∀ d ∈ tables_1, d.before a0 Z = true) (ws : List Jvm.Cond) (a : Addr) (h0 : Heap) (n0 : Nat) (O0 : Old Z n0 h0) (P0 : Exa Z h0 a "java/util/ArrayList") (P1 : Fld Z h0 a "java/util/ArrayList" "elementData" "[Ljava/lang/Object;" .null) (P2 : Fld Z h0 a "java/util/ArrayList" "size" "I" (.int (0 : Int32))) (P3 : Fld Z h0 a "java/util/AbstractList" "modCount" "I" (.int (0 : Int32))) (fa : n0 ≤ a) :
    own_MF l own_m7 (Jvm.Cond.code own_m7 jdk_39_method_1_code 1 none :: ws) ({ frames := 2, cells := 0, slots := 0, locals := 24 } : Room) #[(.ref a)] Z h0 (Q_abli Z a h0 n0) := by
  refine own_met (own := "java/util/AbstractList") (nme := "<init>") rfl rfl (plainFor_of_name pn_4) ?_
  intro p e s m below meth c s₁ hx hby hml hown hnm X0 e0 hret hlk hZ
  have N0 := Fr.nil n0
  rw [ef_abli m a]
  refine own_st (T' := s₁) (g' := (mkF m 1 #[rv a] [(.ref a)])) (fun _ k_ => XS.aloadN X0.here hx rfl (hb hby d6_0) rfl rfl  k_) ?_
  obtain ⟨_, T1, L1, X1, hQ1, st1⟩ := own_callI X0 hx (y := own_m6) rfl hown (mvT hZ (wd hw 38 rfl)) (mvT hZ (wd hw 39 rfl)) (mvT hZ (wd hw 43 rfl)) (by decide) (backOf (W := 0) (rm_abci l Z a0 hw [] a h0 n0 O0) hZ (wd hw 43 rfl) (wd hw 42 rfl) (by decide) (by decide)) (g := (mkF m 1 #[rv a] [(.ref a)])) rfl (by rw [hml]; rfl) (a := a) (argsL := []) (rest := []) (lenOf pd___V rfl) rfl (by show 2 * 0 + _ ≤ _; exact Nat.le_of_eq rfl) (hb hby d6_1) rfl e0 (by decide) (by decide) (c' := 0) (s' := 0) rfl rfl
  obtain ⟨rfl, Nq1, eq1⟩ := hQ1
  have N1 := Fr.app N0 Nq1
  refine own_st (T' := T1) (g' := (mkF m 4 #[rv a] [])) st1 ?_
  clear st1
  refine own_st (T' := T1) (g' := (mkF m 5 #[rv a] [(.ref a)])) (fun _ k_ => XS.aloadN X1.here hx rfl (hb hby d6_4) rfl rfl  k_) ?_
  refine own_st (T' := T1) (g' := (mkF m 6 #[rv a] [(.int (0 : Int32)), (.ref a)])) (fun _ k_ => XS.iconst X1.here hx rfl (hb hby d6_5) k_) ?_
  obtain ⟨T2, h2, X2, e2, W2, st2⟩ := putF X1 hx hZ hown (host := "") (Or.inl (wd hw 45 rfl)) Via.refl eq1 P3 P0 (Or.inl (wd hw 46 rfl)) (wd hw 27 rfl) (ty := .int) (by decide) rfl rfl (g := (mkF m 6 #[rv a] [(.int (0 : Int32)), (.ref a)])) rfl rfl (hb hby d6_6)
  have Fw2 : Fld Z h2 a "java/util/AbstractList" "modCount" "I" (.int (0 : Int32)) := Fld.same W2 P3
  have N2 := Fr.snoc X2 N1 fa
  refine own_st (T' := T2) (g' := (mkF m 9 #[rv a] [])) st2 ?_
  clear st2
  have f3 := (Keep.refl h0 [a]).wr W2 (Or.inl (List.mem_of_getElem? (i := 0) rfl))
  have f4 := P0.wr W2
  have f5 := P1.other W2 (Or.inr (slot_ne (Or.inl (wd hw 49 rfl)) (Or.inl (wd hw 46 rfl)) (by decide) (t := (.array (.object "java/lang/Object"))) (t' := .int) (by decide) (by decide)))
  have f6 := P2.other W2 (Or.inr (slot_ne (Or.inl (wd hw 62 rfl)) (Or.inl (wd hw 46 rfl)) (by decide) (t := .int) (t' := .int) (by decide) (by decide)))
  exact own_retV X2 hx hret hlk (hb hby d6_9) (by decide) (by decide) (by rw [e2]; exact ⟨rfl, N2, f3, f4, f5, f6, Fw2⟩)
theorem d5_0 : decode jdk_38_method_2_code 0 = .ok (.aload_n 0, 1) := by decide +kernel
theorem d5_1 : decode jdk_38_method_2_code 1 = .ok (.invokespecial 1, 3) := by decide +kernel
theorem d5_4 : decode jdk_38_method_2_code 4 = .ok (.aload_n 0, 1) := by decide +kernel
theorem d5_5 : decode jdk_38_method_2_code 5 = .ok (.getstatic 39, 3) := by decide +kernel
theorem d5_8 : decode jdk_38_method_2_code 8 = .ok (.putfield 9, 3) := by decide +kernel
theorem d5_11 : decode jdk_38_method_2_code 11 = .ok (.return_, 1) := by decide +kernel
theorem pn_5 : plainName "java/util/ArrayList" = true := by first | (simp [plainName, overriddenIn]; done) | decide +kernel
theorem ef_ali (m : MethodId) (x0 : Addr) : entryFrame m #[(.ref x0)] 1 = mkF m 0 #[rv x0] [] := by first | (simp [entryFrame, mkF, argsToLocals, Value.category]; done) | rfl
def Q_ali (Z : State) (a : Addr) (dA : Addr) (h0 : Heap) (n0 : Nat) (v : Option Value) (h : Heap) (L : List Loc) : Prop := (v = none) ∧ (Fr n0 L) ∧ (Keep h0 h [a]) ∧ (Exa Z h a "java/util/ArrayList") ∧ (Fld Z h a "java/util/ArrayList" "elementData" "[Ljava/lang/Object;" (.ref dA)) ∧ (Fld Z h a "java/util/ArrayList" "size" "I" (.int (0 : Int32))) ∧ (Fld Z h a "java/util/AbstractList" "modCount" "I" (.int (0 : Int32)))
set_option maxRecDepth 65536 in
set_option maxHeartbeats 40000000 in
theorem rm_ali (l : Launch) (Z : State) (a0 : Array Value) (hw : ∀ d ∈ tables_1, d.before a0 Z = true) (ws : List Jvm.Cond) (a : Addr) (dA : Addr) (h0 : Heap) (n0 : Nat) (O0 : Old Z n0 h0) (P0 : Exa Z h0 a "java/util/ArrayList") (P1 : Fld Z h0 a "java/util/ArrayList" "elementData" "[Ljava/lang/Object;" .null) (P2 : Fld Z h0 a "java/util/ArrayList" "size" "I" (.int (0 : Int32))) (P3 : Fld Z h0 a "java/util/AbstractList" "modCount" "I" (.int (0 : Int32))) (fa : n0 ≤ a) (SDe : Sta Z Z.heap "java/util/ArrayList" "DEFAULTCAPACITY_EMPTY_ELEMENTDATA" "[Ljava/lang/Object;" (.ref dA)) :
    own_MF l own_m8 (Jvm.Cond.code own_m8 jdk_38_method_2_code 1 none :: ws) ({ frames := 3, cells := 0, slots := 0, locals := 36 } : Room) #[(.ref a)] Z h0 (Q_ali Z a dA h0 n0) := by
  refine own_met (own := "java/util/ArrayList") (nme := "<init>") rfl rfl (plainFor_of_name pn_5) ?_
  intro p e s m below meth c s₁ hx hby hml hown hnm X0 e0 hret hlk hZ
  have N0 := Fr.nil n0
  rw [ef_ali m a]
  refine own_st (T' := s₁) (g' := (mkF m 1 #[rv a] [(.ref a)])) (fun _ k_ => XS.aloadN X0.here hx rfl (hb hby d5_0) rfl rfl  k_) ?_
  obtain ⟨_, T1, L1, X1, hQ1, st1⟩ := own_callI X0 hx (y := own_m7) rfl hown (mvT hZ (wd hw 32 rfl)) (mvT hZ (wd hw 33 rfl)) (mvT hZ (wd hw 37 rfl)) (by decide) (backOf (W := 0) (rm_abli l Z a0 hw [] a h0 n0 O0 P0 P1 P2 P3 fa) hZ (wd hw 37 rfl) (wd hw 36 rfl) (by decide) (by decide)) (g := (mkF m 1 #[rv a] [(.ref a)])) rfl (by rw [hml]; rfl) (a := a) (argsL := []) (rest := []) (lenOf pd___V rfl) rfl (by show 2 * 0 + _ ≤ _; exact Nat.le_of_eq rfl) (hb hby d5_1) rfl e0 (by decide) (by decide) (c' := 0) (s' := 0) rfl rfl
  obtain ⟨rfl, Nq1, K1, fq1_0, fq1_1, fq1_2, fq1_3⟩ := hQ1
  have N1 := Fr.app N0 Nq1
  refine own_st (T' := T1) (g' := (mkF m 4 #[rv a] [])) st1 ?_
  clear st1
  refine own_st (T' := T1) (g' := (mkF m 5 #[rv a] [(.ref a)])) (fun _ k_ => XS.aloadN X1.here hx rfl (hb hby d5_4) rfl rfl  k_) ?_
  have f2 := O0.keep K1 (allS fa all0)
  obtain ⟨T3, X3, e3, st3⟩ := getS2 X1 hx hZ hown (host := "") (Or.inl (wd hw 47 rfl)) Via.refl rfl (SDe.ext f2.2) (g := (mkF m 5 #[rv a] [(.ref a)])) rfl (hb hby d5_5)
  refine own_st (T' := T3) (g' := (mkF m 8 #[rv a] [(.ref dA), (.ref a)])) st3 ?_
  clear st3
  obtain ⟨T4, h4, X4, e4, W4, st4⟩ := putF X3 hx hZ hown (host := "") (Or.inl (wd hw 48 rfl)) Via.refl e3 fq1_1 fq1_0 (Or.inl (wd hw 49 rfl)) (wd hw 27 rfl) (ty := (.array (.object "java/lang/Object"))) (by decide) rfl rfl (g := (mkF m 8 #[rv a] [(.ref dA), (.ref a)])) rfl rfl (hb hby d5_8)
  have Fw4 : Fld Z h4 a "java/util/ArrayList" "elementData" "[Ljava/lang/Object;" (.ref dA) := Fld.same W4 fq1_1
  have N4 := Fr.snoc X4 N1 fa
  refine own_st (T' := T4) (g' := (mkF m 11 #[rv a] [])) st4 ?_
  clear st4
  have f5 := (Keep.refl h0 [a]).trans K1 (allS (Or.inl (List.mem_of_getElem? (i := 0) rfl)) all0)
  have f6 := f5.wr W4 (Or.inl (List.mem_of_getElem? (i := 0) rfl))
  have f7 := fq1_0.wr W4
  have f8 := fq1_2.other W4 (Or.inr (slot_ne (Or.inl (wd hw 62 rfl)) (Or.inl (wd hw 49 rfl)) (by decide) (t := .int) (t' := (.array (.object "java/lang/Object"))) (by decide) (by decide)))
  have f9 := fq1_3.other W4 (Or.inr (slot_ne (Or.inl (wd hw 46 rfl)) (Or.inl (wd hw 49 rfl)) (by decide) (t := .int) (t' := (.array (.object "java/lang/Object"))) (by decide) (by decide)))
  exact own_retV X4 hx hret hlk (hb hby d5_11) (by decide) (by decide) (by rw [e4]; exact ⟨rfl, N4, f6, f7, Fw4, f8, f9⟩)
theorem d12_0 : decode jdk_29_method_65_code 0 = .ok (.iload_n 0, 1) := by decide +kernel
theorem d12_1 : decode jdk_29_method_65_code 1 = .ok (.iload_n 1, 1) := by decide +kernel
theorem d12_2 : decode jdk_29_method_65_code 2 = .ok (.if_icmp .lt 7, 3) := by decide +kernel
theorem d12_5 : decode jdk_29_method_65_code 5 = .ok (.iload_n 0, 1) := by decide +kernel
theorem d12_6 : decode jdk_29_method_65_code 6 = .ok (.goto 4, 3) := by decide +kernel
theorem d12_10 : decode jdk_29_method_65_code 10 = .ok (.ireturn, 1) := by decide +kernel
theorem ef_max (m : MethodId) (x0 : Int32) (x1 : Int32) : entryFrame m #[(.int x0), (.int x1)] 2 = mkF m 0 #[iv x0, iv x1] [] := by first | (simp [entryFrame, mkF, argsToLocals, Value.category]; done) | rfl
def Q_max (Z : State) (xx : Int32) (yy : Int32) (h0 : Heap) (n0 : Nat) (v : Option Value) (h : Heap) (L : List Loc) : Prop := (v = some (.int xx)) ∧ (Fr n0 L) ∧ (h = h0)
set_option maxRecDepth 65536 in
set_option maxHeartbeats 40000000 in
theorem rm_max (l : Launch) (Z : State) (a0 : Array Value) (hw : ∀ d ∈ tables_1, d.before a0 Z = true) (ws : List Jvm.Cond) (xx : Int32) (yy : Int32) (h0 : Heap) (n0 : Nat) (O0 : Old Z n0 h0) (hmax : ¬ xx < yy) :
    own_MF l own_m9 (Jvm.Cond.code own_m9 jdk_29_method_65_code 2 (some .int) :: ws) ({ frames := 0, cells := 0, slots := 0, locals := 0 } : Room) #[(.int xx), (.int yy)] Z h0 (Q_max Z xx yy h0 n0) := by
  refine own_met (own := "java/lang/Math") (nme := "max") rfl rfl (Jvm.Free.JP.mathPlain rfl (by decide +kernel)) ?_
  intro p e s m below meth c s₁ hx hby hml hown hnm X0 e0 hret hlk hZ
  have N0 := Fr.nil n0
  rw [ef_max m xx yy]
  refine own_st (T' := s₁) (g' := (mkF m 1 #[iv xx, iv yy] [(.int xx)])) (fun _ k_ => XS.iloadN X0.here hx rfl (hb hby d12_0) rfl  k_) ?_
  refine own_st (T' := s₁) (g' := (mkF m 2 #[iv xx, iv yy] [(.int yy), (.int xx)])) (fun _ k_ => XS.iloadN X0.here hx rfl (hb hby d12_1) rfl  k_) ?_
  refine own_st (T' := s₁) (g' := (mkF m 5 #[iv xx, iv yy] [])) (fun _ k_ => XS.icmpNo X0.here hx rfl (hb hby d12_2) rfl (flt (hmax : ¬ (xx < yy))).1 k_) ?_
  refine own_st (T' := s₁) (g' := (mkF m 6 #[iv xx, iv yy] [(.int xx)])) (fun _ k_ => XS.iloadN X0.here hx rfl (hb hby d12_5) rfl  k_) ?_
  refine own_st (T' := s₁) (g' := (mkF m 10 #[iv xx, iv yy] [(.int xx)])) (fun _ k_ => XS.goto X0.here hx rfl (pc0 := 6) (pc' := 10) rfl (hb hby d12_6) (by decide) (by decide) k_) ?_
  exact own_retI X0 hx hret hlk (hb hby d12_10) (by decide) (by decide) ⟨rfl, N0, e0⟩
theorem d11_0 : decode jdk_38_method_6_code 0 = .ok (.aload_n 0, 1) := by decide +kernel
theorem d11_1 : decode jdk_38_method_6_code 1 = .ok (.getfield 9, 3) := by decide +kernel
theorem d11_4 : decode jdk_38_method_6_code 4 = .ok (.arraylength, 1) := by decide +kernel
theorem d11_5 : decode jdk_38_method_6_code 5 = .ok (.istore_n 2, 1) := by decide +kernel
theorem d11_6 : decode jdk_38_method_6_code 6 = .ok (.iload_n 2, 1) := by decide +kernel
theorem d11_7 : decode jdk_38_method_6_code 7 = .ok (.ifCond .gt 13, 3) := by decide +kernel
theorem d11_10 : decode jdk_38_method_6_code 10 = .ok (.aload_n 0, 1) := by decide +kernel
theorem d11_11 : decode jdk_38_method_6_code 11 = .ok (.getfield 9, 3) := by decide +kernel
theorem d11_14 : decode jdk_38_method_6_code 14 = .ok (.getstatic 39, 3) := by decide +kernel
theorem d11_17 : decode jdk_38_method_6_code 17 = .ok (.if_acmp .eq 28, 3) := by decide +kernel
theorem d11_45 : decode jdk_38_method_6_code 45 = .ok (.aload_n 0, 1) := by decide +kernel
theorem d11_46 : decode jdk_38_method_6_code 46 = .ok (.bipush 10, 2) := by decide +kernel
theorem d11_48 : decode jdk_38_method_6_code 48 = .ok (.iload_n 1, 1) := by decide +kernel
theorem d11_49 : decode jdk_38_method_6_code 49 = .ok (.invokestatic 79, 3) := by decide +kernel
theorem d11_52 : decode jdk_38_method_6_code 52 = .ok (.anewarray 7, 3) := by decide +kernel
theorem d11_55 : decode jdk_38_method_6_code 55 = .ok (.dup_x1, 1) := by decide +kernel
theorem d11_56 : decode jdk_38_method_6_code 56 = .ok (.putfield 9, 3) := by decide +kernel
theorem d11_59 : decode jdk_38_method_6_code 59 = .ok (.areturn, 1) := by decide +kernel
theorem pd__II_I : parseMethodDescriptor "(II)I" = some ⟨[.int, .int], some .int⟩ := by decide +kernel
theorem ef_grw1 (m : MethodId) (x0 : Addr) (x1 : Int32) : entryFrame m #[(.ref x0), (.int x1)] 4 = mkF m 0 #[rv x0, iv x1, .unset, .unset] [] := by first | (simp [entryFrame, mkF, argsToLocals, Value.category]; done) | rfl
def Q_grw1 (Z : State) (a : Addr) (mc : Int32) (dA : Addr) (clD : Cell) (kO : ClassId) (h0 : Heap) (n0 : Nat) (v : Option Value) (h : Heap) (L : List Loc) : Prop := ∃ (t : Addr), (v = some (.ref t)) ∧ (Fr n0 L) ∧ (Keep h0 h [a]) ∧ (Exa Z h a "java/util/ArrayList") ∧ (Fld Z h a "java/util/ArrayList" "elementData" "[Ljava/lang/Object;" (.ref t)) ∧ (Fld Z h a "java/util/ArrayList" "size" "I" (.int (0 : Int32))) ∧ (Fld Z h a "java/util/AbstractList" "modCount" "I" (.int mc)) ∧ (Arv Z h t kO (.object "java/lang/Object") (10 : Int32) [.null, .null, .null, .null, .null, .null, .null, .null, .null, .null] .null) ∧ (h0.size ≤ t)
set_option maxRecDepth 65536 in
set_option maxHeartbeats 40000000 in
theorem rm_grw1 (l : Launch) (Z : State) (a0 : Array Value) (hw : ∀ d ∈ tables_1, d.before a0 Z = true) (ws : List Jvm.Cond) (a : Addr) (mc : Int32) (dA : Addr) (clD : Cell) (kO : ClassId) (h0 : Heap) (n0 : Nat) (O0 : Old Z n0 h0) (P0 : Exa Z h0 a "java/util/ArrayList") (P1 : Fld Z h0 a "java/util/ArrayList" "elementData" "[Ljava/lang/Object;" (.ref dA)) (P2 : Fld Z h0 a "java/util/ArrayList" "size" "I" (.int (0 : Int32))) (P3 : Fld Z h0 a "java/util/AbstractList" "modCount" "I" (.int mc)) (fa : n0 ≤ a) (SDe : Sta Z Z.heap "java/util/ArrayList" "DEFAULTCAPACITY_EMPTY_ELEMENTDATA" "[Ljava/lang/Object;" (.ref dA)) (AD : Arr Z Z.heap dA clD (.object "java/lang/Object")) (LD : clD.slots.size.toInt32 = (0 : Int32)) (OV : Ovr Z kO "java/lang/Object") (FC : Z.vm.findClass "[Ljava/lang/Object;" = some kO) :
    own_MF l own_m10 (Jvm.Cond.code own_m10 jdk_38_method_6_code 4 (some (.array (.object "java/lang/Object"))) :: ws) ({ frames := 1, cells := 1, slots := 10, locals := 14 } : Room) #[(.ref a), (.int (1 : Int32))] Z h0 (Q_grw1 Z a mc dA clD kO h0 n0) := by
  refine own_met (own := "java/util/ArrayList") (nme := "grow") rfl rfl (plainFor_of_name pn_5) ?_
  intro p e s m below meth c s₁ hx hby hml hown hnm X0 e0 hret hlk hZ
  have N0 := Fr.nil n0
  rw [ef_grw1 m a (1 : Int32)]
  refine own_st (T' := s₁) (g' := (mkF m 1 #[rv a, iv (1 : Int32), .unset, .unset] [(.ref a)])) (fun _ k_ => XS.aloadN X0.here hx rfl (hb hby d11_0) rfl rfl  k_) ?_
  obtain ⟨T1, X1, e1, st1⟩ := getF X0 hx hZ hown (host := "") (Or.inl (wd hw 48 rfl)) Via.refl e0 P1 (g := (mkF m 1 #[rv a, iv (1 : Int32), .unset, .unset] [(.ref a)])) rfl rfl (hb hby d11_1)
  refine own_st (T' := T1) (g' := (mkF m 4 #[rv a, iv (1 : Int32), .unset, .unset] [(.ref dA)])) st1 ?_
  clear st1
  have Ar2 := AD.ext O0.2
  refine own_st (T' := T1) (g' := (mkF m 5 #[rv a, iv (1 : Int32), .unset, .unset] [(.int (0 : Int32))])) (fun t_ k_ => X1.arraylength hx (by rw [e1]; exact Ar2.1) (State.isArrayOf_alike hZ.alike Ar2.2.1) (g := (mkF m 4 #[rv a, iv (1 : Int32), .unset, .unset] [(.ref dA)])) rfl rfl (hb hby d11_4) _ (by rw [LD]; exact k_)) ?_
  refine own_st (T' := T1) (g' := (mkF m 6 #[rv a, iv (1 : Int32), iv (0 : Int32), .unset] [])) (fun _ k_ => XS.istoreN X1.here hx rfl (hb hby d11_5) rfl (l' := #[rv a, iv (1 : Int32), iv (0 : Int32), .unset]) rfl k_) ?_
  refine own_st (T' := T1) (g' := (mkF m 7 #[rv a, iv (1 : Int32), iv (0 : Int32), .unset] [(.int (0 : Int32))])) (fun _ k_ => XS.iloadN X1.here hx rfl (hb hby d11_6) rfl  k_) ?_
  refine own_st (T' := T1) (g' := (mkF m 10 #[rv a, iv (1 : Int32), iv (0 : Int32), .unset] [])) (fun _ k_ => XS.ifNo X1.here hx rfl (hb hby d11_7) rfl ((if0 _ _).trans (flt (by decide : ¬ ((0 : Int32) < (0 : Int32)))).2.2.1) k_) ?_
  refine own_st (T' := T1) (g' := (mkF m 11 #[rv a, iv (1 : Int32), iv (0 : Int32), .unset] [(.ref a)])) (fun _ k_ => XS.aloadN X1.here hx rfl (hb hby d11_10) rfl rfl  k_) ?_
  obtain ⟨T3, X3, e3, st3⟩ := getF X1 hx hZ hown (host := "") (Or.inl (wd hw 48 rfl)) Via.refl e1 P1 (g := (mkF m 11 #[rv a, iv (1 : Int32), iv (0 : Int32), .unset] [(.ref a)])) rfl rfl (hb hby d11_11)
  refine own_st (T' := T3) (g' := (mkF m 14 #[rv a, iv (1 : Int32), iv (0 : Int32), .unset] [(.ref dA)])) st3 ?_
  clear st3
  obtain ⟨T4, X4, e4, st4⟩ := getS2 X3 hx hZ hown (host := "") (Or.inl (wd hw 47 rfl)) Via.refl e3 (SDe.ext O0.2) (g := (mkF m 14 #[rv a, iv (1 : Int32), iv (0 : Int32), .unset] [(.ref dA)])) rfl (hb hby d11_14)
  refine own_st (T' := T4) (g' := (mkF m 17 #[rv a, iv (1 : Int32), iv (0 : Int32), .unset] [(.ref dA), (.ref dA)])) st4 ?_
  clear st4
  refine own_st (T' := T4) (g' := (mkF m 45 #[rv a, iv (1 : Int32), iv (0 : Int32), .unset] [])) (fun _ k_ => Jvm.RoadKit.acmp (g := (mkF m 17 #[rv a, iv (1 : Int32), iv (0 : Int32), .unset] [(.ref dA), (.ref dA)])) X4 hx rfl rfl rfl (pc0 := 17) (pc' := 45) (same := true) rfl (hb hby d11_17) rfl (decide_eq_true rfl) (by decide) (by decide) k_) ?_
  refine own_st (T' := T4) (g' := (mkF m 46 #[rv a, iv (1 : Int32), iv (0 : Int32), .unset] [(.ref a)])) (fun _ k_ => XS.aloadN X4.here hx rfl (hb hby d11_45) rfl rfl  k_) ?_
  refine own_st (T' := T4) (g' := (mkF m 48 #[rv a, iv (1 : Int32), iv (0 : Int32), .unset] [(.int (10 : Int32)), (.ref a)])) (fun _ k_ => XS.bipush X4.here hx rfl (hb hby d11_46) k_) ?_
  refine own_st (T' := T4) (g' := (mkF m 49 #[rv a, iv (1 : Int32), iv (0 : Int32), .unset] [(.int (1 : Int32)), (.int (10 : Int32)), (.ref a)])) (fun _ k_ => XS.iloadN X4.here hx rfl (hb hby d11_48) rfl  k_) ?_
  obtain ⟨_, T5, L5, X5, hQ5, st5⟩ := own_callS X4 hx (y := own_m9) hown (mvT hZ (wd hw 78 rfl)) (mvT hZ (wd hw 79 rfl)) (mvT hZ (wd hw 80 rfl)) (mvT hZ (wd hw 81 rfl)) (by decide) (backOf (W := 1) (rm_max l Z a0 hw [] (10 : Int32) (1 : Int32) h0 n0 O0 (by decide)) hZ (wd hw 81 rfl) (wd hw 80 rfl) (by decide) (by decide)) (g := (mkF m 49 #[rv a, iv (1 : Int32), iv (0 : Int32), .unset] [(.int (1 : Int32)), (.int (10 : Int32)), (.ref a)])) rfl (by rw [hml]; rfl) (argsL := [(.int (10 : Int32)), (.int (1 : Int32))]) (rest := [(.ref a)]) (lenOf pd__II_I rfl) rfl (by show 2 * 0 + _ ≤ _; exact Nat.le_of_eq rfl) (hb hby d11_49) rfl e4 (by decide) (by decide) (c' := 0) (s' := 0) rfl rfl
  obtain ⟨rfl, Nq5, eq5⟩ := hQ5
  have N5 := Fr.app N0 Nq5
  refine own_st (T' := T5) (g' := (mkF m 52 #[rv a, iv (1 : Int32), iv (0 : Int32), .unset] [(.int (10 : Int32)), (.ref a)])) st5 ?_
  clear st5
  obtain ⟨T6, h6, k6, X6, e6, E6, A6, EX6, O6, st6⟩ := newRE X5 hx hZ hown (wd hw 82 rfl) (wd hw 83 rfl) eq5 (g := (mkF m 52 #[rv a, iv (1 : Int32), iv (0 : Int32), .unset] [(.int (10 : Int32)), (.ref a)])) rfl (hb hby d11_52) rfl (by decide) (cap := 10) (by decide) (by decide) (by decide) (by decide) (ad := "[Ljava/lang/Object;") (by decide)
  obtain rfl : kO = k6 := own_kk EX6 A6 FC
  clear EX6 O6
  obtain ⟨b6, g6⟩ : ∃ z, z = h0.size := ⟨_, rfl⟩
  rw [← g6] at A6 st6
  have fr6 : n0 ≤ b6 := Nat.le_trans (own_z O0) (Nat.le_of_eq g6.symm)
  have sz6 : h0.size ≤ b6 := Nat.le_trans (Keep.refl h0 [a]).1 (Nat.le_of_eq g6.symm)
  have V6 : Arv Z h6 b6 kO (.object "java/lang/Object") (10 : Int32) [.null, .null, .null, .null, .null, .null, .null, .null, .null, .null] .null := (Arv.new A6 (by decide)).pad (pad_rep [] .null 10)
  refine own_st (T' := T6) (g' := (mkF m 55 #[rv a, iv (1 : Int32), iv (0 : Int32), .unset] [(.ref b6), (.ref a)])) st6 ?_
  clear st6
  refine own_st (T' := T6) (g' := (mkF m 56 #[rv a, iv (1 : Int32), iv (0 : Int32), .unset] [(.ref b6), (.ref a), (.ref b6)])) (fun _ k_ => XS.dupX1 X6.here hx rfl (hb hby d11_55) rfl rfl rfl k_) ?_
  have f7 := P0.ext E6
  have f8 := P1.ext E6
  obtain ⟨T9, h9, X9, e9, W9, st9⟩ := putF X6 hx hZ hown (host := "") (Or.inl (wd hw 48 rfl)) Via.refl e6 f8 f7 (Or.inl (wd hw 49 rfl)) (wd hw 27 rfl) (ty := (.array (.object "java/lang/Object"))) (by decide) rfl rfl (g := (mkF m 56 #[rv a, iv (1 : Int32), iv (0 : Int32), .unset] [(.ref b6), (.ref a), (.ref b6)])) rfl rfl (hb hby d11_56)
  have Fw9 : Fld Z h9 a "java/util/ArrayList" "elementData" "[Ljava/lang/Object;" (.ref b6) := Fld.same W9 f8
  have N9 := Fr.snoc X9 N5 fa
  refine own_st (T' := T9) (g' := (mkF m 59 #[rv a, iv (1 : Int32), iv (0 : Int32), .unset] [(.ref b6)])) st9 ?_
  clear st9
  have f10 := (Keep.refl h0 [a]).ext E6
  have f11 := f10.wr W9 (Or.inl (List.mem_of_getElem? (i := 0) rfl))
  have f12 := f7.wr W9
  have f13 := P2.ext E6
  have f14 := f13.other W9 (Or.inr (slot_ne (Or.inl (wd hw 62 rfl)) (Or.inl (wd hw 49 rfl)) (by decide) (t := .int) (t' := (.array (.object "java/lang/Object"))) (by decide) (by decide)))
  have f15 := P3.ext E6
  have f16 := f15.other W9 (Or.inr (slot_ne (Or.inl (wd hw 46 rfl)) (Or.inl (wd hw 49 rfl)) (by decide) (t := .int) (t' := (.array (.object "java/lang/Object"))) (by decide) (by decide)))
  have ne17 : a ≠ b6 := Nat.ne_of_lt (Nat.lt_of_lt_of_le P0.lt (Nat.le_of_eq g6.symm))
  have f18 := V6.other W9 (Ne.symm ne17)
  exact own_retA X9 hx hret rfl rfl hlk (hb hby d11_59) (by decide) (by decide) (by rw [e9]; exact ⟨b6, rfl, N9, f11, f12, Fw9, f14, f16, f18, sz6⟩)
theorem d10_0 : decode jdk_38_method_7_code 0 = .ok (.aload_n 0, 1) := by decide +kernel
theorem d10_1 : decode jdk_38_method_7_code 1 = .ok (.aload_n 0, 1) := by decide +kernel
theorem d10_2 : decode jdk_38_method_7_code 2 = .ok (.getfield 48, 3) := by decide +kernel
theorem d10_5 : decode jdk_38_method_7_code 5 = .ok (.iconst 1, 1) := by decide +kernel
theorem d10_6 : decode jdk_38_method_7_code 6 = .ok (.iadd, 1) := by decide +kernel
theorem d10_7 : decode jdk_38_method_7_code 7 = .ok (.invokevirtual 69, 3) := by decide +kernel
theorem d10_10 : decode jdk_38_method_7_code 10 = .ok (.areturn, 1) := by decide +kernel
theorem pd__I__Ljava_lang_Object_ : parseMethodDescriptor "(I)[Ljava/lang/Object;" = some ⟨[.int], some (.array (.object "java/lang/Object"))⟩ := by decide +kernel
theorem ef_grw0 (m : MethodId) (x0 : Addr) : entryFrame m #[(.ref x0)] 1 = mkF m 0 #[rv x0] [] := by first | (simp [entryFrame, mkF, argsToLocals, Value.category]; done) | rfl
def Q_grw0 (Z : State) (a : Addr) (mc : Int32) (dA : Addr) (clD : Cell) (kO : ClassId) (h0 : Heap) (n0 : Nat) (v : Option Value) (h : Heap) (L : List Loc) : Prop := ∃ (t : Addr), (v = some (.ref t)) ∧ (Fr n0 L) ∧ (Keep h0 h [a]) ∧ (Exa Z h a "java/util/ArrayList") ∧ (Fld Z h a "java/util/ArrayList" "elementData" "[Ljava/lang/Object;" (.ref t)) ∧ (Fld Z h a "java/util/ArrayList" "size" "I" (.int (0 : Int32))) ∧ (Fld Z h a "java/util/AbstractList" "modCount" "I" (.int mc)) ∧ (Arv Z h t kO (.object "java/lang/Object") (10 : Int32) [.null, .null, .null, .null, .null, .null, .null, .null, .null, .null] .null) ∧ (h0.size ≤ t)
set_option maxRecDepth 65536 in
set_option maxHeartbeats 40000000 in
theorem rm_grw0 (l : Launch) (Z : State) (a0 : Array Value) (hw : ∀ d ∈ tables_1, d.before a0 Z = true) (ws : List Jvm.Cond) (a : Addr) (mc : Int32) (dA : Addr) (clD : Cell) (kO : ClassId) (h0 : Heap) (n0 : Nat) (O0 : Old Z n0 h0) (P0 : Exa Z h0 a "java/util/ArrayList") (P1 : Fld Z h0 a "java/util/ArrayList" "elementData" "[Ljava/lang/Object;" (.ref dA)) (P2 : Fld Z h0 a "java/util/ArrayList" "size" "I" (.int (0 : Int32))) (P3 : Fld Z h0 a "java/util/AbstractList" "modCount" "I" (.int mc)) (fa : n0 ≤ a) (SDe : Sta Z Z.heap "java/util/ArrayList" "DEFAULTCAPACITY_EMPTY_ELEMENTDATA" "[Ljava/lang/Object;" (.ref dA)) (AD : Arr Z Z.heap dA clD (.object "java/lang/Object")) (LD : clD.slots.size.toInt32 = (0 : Int32)) (OV : Ovr Z kO "java/lang/Object") (FC : Z.vm.findClass "[Ljava/lang/Object;" = some kO) :
    own_MF l own_m11 (Jvm.Cond.code own_m11 jdk_38_method_7_code 1 (some (.array (.object "java/lang/Object"))) :: ws) ({ frames := 2, cells := 1, slots := 10, locals := 29 } : Room) #[(.ref a)] Z h0 (Q_grw0 Z a mc dA clD kO h0 n0) := by
  refine own_met (own := "java/util/ArrayList") (nme := "grow") rfl rfl (plainFor_of_name pn_5) ?_
  intro p e s m below meth c s₁ hx hby hml hown hnm X0 e0 hret hlk hZ
  have N0 := Fr.nil n0
  rw [ef_grw0 m a]
  refine own_st (T' := s₁) (g' := (mkF m 1 #[rv a] [(.ref a)])) (fun _ k_ => XS.aloadN X0.here hx rfl (hb hby d10_0) rfl rfl  k_) ?_
  refine own_st (T' := s₁) (g' := (mkF m 2 #[rv a] [(.ref a), (.ref a)])) (fun _ k_ => XS.aloadN X0.here hx rfl (hb hby d10_1) rfl rfl  k_) ?_
  obtain ⟨T1, X1, e1, st1⟩ := getF X0 hx hZ hown (host := "") (Or.inl (wd hw 61 rfl)) Via.refl e0 P2 (g := (mkF m 2 #[rv a] [(.ref a), (.ref a)])) rfl rfl (hb hby d10_2)
  refine own_st (T' := T1) (g' := (mkF m 5 #[rv a] [(.int (0 : Int32)), (.ref a)])) st1 ?_
  clear st1
  refine own_st (T' := T1) (g' := (mkF m 6 #[rv a] [(.int (1 : Int32)), (.int (0 : Int32)), (.ref a)])) (fun _ k_ => XS.iconst X1.here hx rfl (hb hby d10_5) k_) ?_
  refine own_st (T' := T1) (g' := (mkF m 7 #[rv a] [(.int (1 : Int32)), (.ref a)])) (fun _ k_ => XS.iadd X1.here hx rfl (hb hby d10_6) rfl k_) ?_
  obtain ⟨cq2, q2, q2'⟩ := P0.cell
  obtain ⟨_, T2, L2, X2, hQ2, st2⟩ := own_callP X1 hx (y := own_m10) hown (mvT hZ (wd hw 73 rfl)) (mvT hZ (wd hw 74 rfl)) (mvT hZ (wd hw 76 rfl)) (Cond.privateMethod_at (mvP hZ (wd hw 75 rfl) (args := #[]))) (mvT hZ (wd hw 77 rfl)) (by decide) (backOf (W := 0) (rm_grw1 l Z a0 hw [] a mc dA clD kO h0 n0 O0 P0 P1 P2 P3 fa SDe AD LD OV FC) hZ (wd hw 77 rfl) (wd hw 28 rfl) (by decide) (by decide)) (g := (mkF m 7 #[rv a] [(.int (1 : Int32)), (.ref a)])) rfl (by rw [hml]; rfl) (a := a) (by rw [e1]; exact q2) q2' (argsL := [(.int (1 : Int32))]) (rest := []) (lenOf pd__I__Ljava_lang_Object_ rfl) rfl (by show 2 * 0 + _ ≤ _; exact Nat.le_of_eq rfl) (hb hby d10_7) rfl e1 (by decide) (by decide) (c' := 1) (s' := 10) rfl rfl
  obtain ⟨t2, rfl, Nq2, K2, fq2_0, fq2_1, fq2_2, fq2_3, fq2_4, xq2_fresh_t⟩ := hQ2
  have N2 := Fr.app N0 Nq2
  refine own_st (T' := T2) (g' := (mkF m 10 #[rv a] [(.ref t2)])) st2 ?_
  clear st2
  have f3 := (Keep.refl h0 [a]).trans K2 (allS (Or.inl (List.mem_of_getElem? (i := 0) rfl)) all0)
  exact own_retA X2 hx hret rfl rfl hlk (hb hby d10_10) (by decide) (by decide) ⟨t2, rfl, N2, f3, fq2_0, fq2_1, fq2_2, fq2_3, fq2_4, (Nat.le_trans (Keep.refl h0 [a]).1 xq2_fresh_t)⟩
theorem d9_0 : decode jdk_38_method_24_code 0 = .ok (.iload_n 3, 1) := by decide +kernel
theorem d9_1 : decode jdk_38_method_24_code 1 = .ok (.aload_n 2, 1) := by decide +kernel
theorem d9_2 : decode jdk_38_method_24_code 2 = .ok (.arraylength, 1) := by decide +kernel
theorem d9_3 : decode jdk_38_method_24_code 3 = .ok (.if_icmp .ne 8, 3) := by decide +kernel
theorem d9_6 : decode jdk_38_method_24_code 6 = .ok (.aload_n 0, 1) := by decide +kernel
theorem d9_7 : decode jdk_38_method_24_code 7 = .ok (.invokevirtual 129, 3) := by decide +kernel
theorem d9_10 : decode jdk_38_method_24_code 10 = .ok (.astore_n 2, 1) := by decide +kernel
theorem d9_11 : decode jdk_38_method_24_code 11 = .ok (.aload_n 2, 1) := by decide +kernel
theorem d9_12 : decode jdk_38_method_24_code 12 = .ok (.iload_n 3, 1) := by decide +kernel
theorem d9_13 : decode jdk_38_method_24_code 13 = .ok (.aload_n 1, 1) := by decide +kernel
theorem d9_14 : decode jdk_38_method_24_code 14 = .ok (.aastore, 1) := by decide +kernel
theorem d9_15 : decode jdk_38_method_24_code 15 = .ok (.aload_n 0, 1) := by decide +kernel
theorem d9_16 : decode jdk_38_method_24_code 16 = .ok (.iload_n 3, 1) := by decide +kernel
theorem d9_17 : decode jdk_38_method_24_code 17 = .ok (.iconst 1, 1) := by decide +kernel
theorem d9_18 : decode jdk_38_method_24_code 18 = .ok (.iadd, 1) := by decide +kernel
theorem d9_19 : decode jdk_38_method_24_code 19 = .ok (.putfield 48, 3) := by decide +kernel
theorem d9_22 : decode jdk_38_method_24_code 22 = .ok (.return_, 1) := by decide +kernel
theorem pd____Ljava_lang_Object_ : parseMethodDescriptor "()[Ljava/lang/Object;" = some ⟨[], some (.array (.object "java/lang/Object"))⟩ := by decide +kernel
theorem ef_ad3_0 (m : MethodId) (x0 : Addr) (x1 : Addr) (x2 : Addr) (x3 : Int32) : entryFrame m #[(.ref x0), (.ref x1), (.ref x2), (.int x3)] 4 = mkF m 0 #[rv x0, rv x1, rv x2, iv x3] [] := by first | (simp [entryFrame, mkF, argsToLocals, Value.category]; done) | rfl
def Q_ad3_0 (Z : State) (a : Addr) (el : Addr) (mc : Int32) (dA : Addr) (clD : Cell) (kO : ClassId) (h0 : Heap) (n0 : Nat) (v : Option Value) (h : Heap) (L : List Loc) : Prop := ∃ (t : Addr), (v = none) ∧ (Fr n0 L) ∧ (Keep h0 h [a]) ∧ (Exa Z h a "java/util/ArrayList") ∧ (Fld Z h a "java/util/ArrayList" "elementData" "[Ljava/lang/Object;" (.ref t)) ∧ (Fld Z h a "java/util/ArrayList" "size" "I" (.int (1 : Int32))) ∧ (Fld Z h a "java/util/AbstractList" "modCount" "I" (.int mc)) ∧ (Arv Z h t kO (.object "java/lang/Object") (10 : Int32) [(.ref el), .null, .null, .null, .null, .null, .null, .null, .null, .null] .null) ∧ (h0.size ≤ t)
set_option maxRecDepth 65536 in
set_option maxHeartbeats 40000000 in
theorem rm_ad3_0 (l : Launch) (Z : State) (a0 : Array Value) (hw : ∀ d ∈ tables_1, d.before a0 Z = true) (ws : List Jvm.Cond) (a : Addr) (el : Addr) (mc : Int32) (dA : Addr) (clD : Cell) (kO : ClassId) (h0 : Heap) (n0 : Nat) (O0 : Old Z n0 h0) (P0 : Exa Z h0 a "java/util/ArrayList") (P1 : Fld Z h0 a "java/util/ArrayList" "elementData" "[Ljava/lang/Object;" (.ref dA)) (P2 : Fld Z h0 a "java/util/ArrayList" "size" "I" (.int (0 : Int32))) (P3 : Fld Z h0 a "java/util/AbstractList" "modCount" "I" (.int mc)) (fa : n0 ≤ a) (SDe : Sta Z Z.heap "java/util/ArrayList" "DEFAULTCAPACITY_EMPTY_ELEMENTDATA" "[Ljava/lang/Object;" (.ref dA)) (AD : Arr Z Z.heap dA clD (.object "java/lang/Object")) (LD : clD.slots.size.toInt32 = (0 : Int32)) (OV : Ovr Z kO "java/lang/Object") (FC : Z.vm.findClass "[Ljava/lang/Object;" = some kO) (I_el : Ins Z h0 el "java/lang/Object" true) :
    own_MF l own_m12 (Jvm.Cond.code own_m12 jdk_38_method_24_code 4 none :: ws) ({ frames := 3, cells := 1, slots := 10, locals := 41 } : Room) #[(.ref a), (.ref el), (.ref dA), (.int (0 : Int32))] Z h0 (Q_ad3_0 Z a el mc dA clD kO h0 n0) := by
  refine own_met (own := "java/util/ArrayList") (nme := "add") rfl rfl (plainFor_of_name pn_5) ?_
  intro p e s m below meth c s₁ hx hby hml hown hnm X0 e0 hret hlk hZ
  have N0 := Fr.nil n0
  rw [ef_ad3_0 m a el dA (0 : Int32)]
  refine own_st (T' := s₁) (g' := (mkF m 1 #[rv a, rv el, rv dA, iv (0 : Int32)] [(.int (0 : Int32))])) (fun _ k_ => XS.iloadN X0.here hx rfl (hb hby d9_0) rfl  k_) ?_
  refine own_st (T' := s₁) (g' := (mkF m 2 #[rv a, rv el, rv dA, iv (0 : Int32)] [(.ref dA), (.int (0 : Int32))])) (fun _ k_ => XS.aloadN X0.here hx rfl (hb hby d9_1) rfl rfl  k_) ?_
  have Ar1 := AD.ext O0.2
  refine own_st (T' := s₁) (g' := (mkF m 3 #[rv a, rv el, rv dA, iv (0 : Int32)] [(.int (0 : Int32)), (.int (0 : Int32))])) (fun t_ k_ => X0.arraylength hx (by rw [e0]; exact Ar1.1) (State.isArrayOf_alike hZ.alike Ar1.2.1) (g := (mkF m 2 #[rv a, rv el, rv dA, iv (0 : Int32)] [(.ref dA), (.int (0 : Int32))])) rfl rfl (hb hby d9_2) _ (by rw [LD]; exact k_)) ?_
  refine own_st (T' := s₁) (g' := (mkF m 6 #[rv a, rv el, rv dA, iv (0 : Int32)] [])) (fun _ k_ => XS.icmpNo X0.here hx rfl (hb hby d9_3) rfl (teq (rfl : (0 : Int32) = (0 : Int32))).2 k_) ?_
  refine own_st (T' := s₁) (g' := (mkF m 7 #[rv a, rv el, rv dA, iv (0 : Int32)] [(.ref a)])) (fun _ k_ => XS.aloadN X0.here hx rfl (hb hby d9_6) rfl rfl  k_) ?_
  obtain ⟨cq2, q2, q2'⟩ := P0.cell
  obtain ⟨_, T2, L2, X2, hQ2, st2⟩ := own_callP X0 hx (y := own_m11) hown (mvT hZ (wd hw 68 rfl)) (mvT hZ (wd hw 69 rfl)) (mvT hZ (wd hw 71 rfl)) (Cond.privateMethod_at (mvP hZ (wd hw 70 rfl) (args := #[]))) (mvT hZ (wd hw 72 rfl)) (by decide) (backOf (W := 0) (rm_grw0 l Z a0 hw [] a mc dA clD kO h0 n0 O0 P0 P1 P2 P3 fa SDe AD LD OV FC) hZ (wd hw 72 rfl) (wd hw 28 rfl) (by decide) (by decide)) (g := (mkF m 7 #[rv a, rv el, rv dA, iv (0 : Int32)] [(.ref a)])) rfl (by rw [hml]; rfl) (a := a) (by rw [e0]; exact q2) q2' (argsL := []) (rest := []) (lenOf pd____Ljava_lang_Object_ rfl) rfl (by show 2 * 0 + _ ≤ _; exact Nat.le_of_eq rfl) (hb hby d9_7) rfl e0 (by decide) (by decide) (c' := 1) (s' := 10) rfl rfl
  obtain ⟨t2, rfl, Nq2, K2, fq2_0, fq2_1, fq2_2, fq2_3, fq2_4, xq2_fresh_t⟩ := hQ2
  have N2 := Fr.app N0 Nq2
  refine own_st (T' := T2) (g' := (mkF m 10 #[rv a, rv el, rv dA, iv (0 : Int32)] [(.ref t2)])) st2 ?_
  clear st2
  refine own_st (T' := T2) (g' := (mkF m 11 #[rv a, rv el, rv t2, iv (0 : Int32)] [])) (fun _ k_ => XS.astoreN X2.here hx rfl (hb hby d9_10) rfl rfl (l' := #[rv a, rv el, rv t2, iv (0 : Int32)]) rfl k_) ?_
  refine own_st (T' := T2) (g' := (mkF m 12 #[rv a, rv el, rv t2, iv (0 : Int32)] [(.ref t2)])) (fun _ k_ => XS.aloadN X2.here hx rfl (hb hby d9_11) rfl rfl  k_) ?_
  refine own_st (T' := T2) (g' := (mkF m 13 #[rv a, rv el, rv t2, iv (0 : Int32)] [(.int (0 : Int32)), (.ref t2)])) (fun _ k_ => XS.iloadN X2.here hx rfl (hb hby d9_12) rfl  k_) ?_
  refine own_st (T' := T2) (g' := (mkF m 14 #[rv a, rv el, rv t2, iv (0 : Int32)] [(.ref el), (.int (0 : Int32)), (.ref t2)])) (fun _ k_ => XS.aloadN X2.here hx rfl (hb hby d9_13) rfl rfl  k_) ?_
  obtain ⟨cl3, Ar3, q3, S3, N3, H3, G3⟩ := id fq2_4
  have hin3 : ¬ ((0 : Int32) < 0 ∨ cl3.slots.size ≤ ((0 : Int32)).toNatClampNeg) := inb_of S3 ⟨by decide, by decide⟩
  have f4 := own_insK I_el K2
  obtain ⟨T5, h5, X5, e5, W5, st5⟩ := stR X2 hx hZ rfl Ar3 (j := (0 : Int32)) hin3 rfl (Sto.of Ar3 (q3 ▸ OV) f4) (g := (mkF m 14 #[rv a, rv el, rv t2, iv (0 : Int32)] [(.ref el), (.int (0 : Int32)), (.ref t2)])) rfl rfl (hb hby d9_14)
  have V5 : Arv Z h5 t2 kO (.object "java/lang/Object") (10 : Int32) [(.ref el), .null, .null, .null, .null, .null, .null, .null, .null, .null] .null := Arv.set Ar3 q3 S3 N3 H3 G3 rfl W5 0 rfl (Nat.le_of_ble_eq_true rfl)
  have Nx5 := Fr.snoc X5 N2 (Nat.le_trans (own_z O0) xq2_fresh_t)
  refine own_st (T' := T5) (g' := (mkF m 15 #[rv a, rv el, rv t2, iv (0 : Int32)] [])) st5 ?_
  clear hin3 G3 H3 N3 S3 q3 Ar3 cl3 st5
  refine own_st (T' := T5) (g' := (mkF m 16 #[rv a, rv el, rv t2, iv (0 : Int32)] [(.ref a)])) (fun _ k_ => XS.aloadN X5.here hx rfl (hb hby d9_15) rfl rfl  k_) ?_
  refine own_st (T' := T5) (g' := (mkF m 17 #[rv a, rv el, rv t2, iv (0 : Int32)] [(.int (0 : Int32)), (.ref a)])) (fun _ k_ => XS.iloadN X5.here hx rfl (hb hby d9_16) rfl  k_) ?_
  refine own_st (T' := T5) (g' := (mkF m 18 #[rv a, rv el, rv t2, iv (0 : Int32)] [(.int (1 : Int32)), (.int (0 : Int32)), (.ref a)])) (fun _ k_ => XS.iconst X5.here hx rfl (hb hby d9_17) k_) ?_
  refine own_st (T' := T5) (g' := (mkF m 19 #[rv a, rv el, rv t2, iv (0 : Int32)] [(.int (1 : Int32)), (.ref a)])) (fun _ k_ => XS.iadd X5.here hx rfl (hb hby d9_18) rfl k_) ?_
  have f6 := fq2_0.wr W5
  have ne7 : a ≠ t2 := Nat.ne_of_lt (Nat.lt_of_lt_of_le P0.lt xq2_fresh_t)
  have f8 := fq2_2.other W5 (Or.inl ne7)
  obtain ⟨T9, h9, X9, e9, W9, st9⟩ := putF X5 hx hZ hown (host := "") (Or.inl (wd hw 61 rfl)) Via.refl e5 f8 f6 (Or.inl (wd hw 62 rfl)) (wd hw 27 rfl) (ty := .int) (by decide) rfl rfl (g := (mkF m 19 #[rv a, rv el, rv t2, iv (0 : Int32)] [(.int (1 : Int32)), (.ref a)])) rfl rfl (hb hby d9_19)
  have Fw9 : Fld Z h9 a "java/util/ArrayList" "size" "I" (.int (1 : Int32)) := Fld.same W9 f8
  have N9 := Fr.snoc X9 Nx5 fa
  refine own_st (T' := T9) (g' := (mkF m 22 #[rv a, rv el, rv t2, iv (0 : Int32)] [])) st9 ?_
  clear st9
  have f10 := (Keep.refl h0 [a]).trans K2 (allS (Or.inl (List.mem_of_getElem? (i := 0) rfl)) all0)
  have f11 := f10.wr W5 (Or.inr (Nat.le_trans (Keep.refl h0 [a]).1 xq2_fresh_t))
  have f12 := f11.wr W9 (Or.inl (List.mem_of_getElem? (i := 0) rfl))
  have f13 := f6.wr W9
  have f14 := fq2_1.other W5 (Or.inl ne7)
  have f15 := f14.other W9 (Or.inr (slot_ne (Or.inl (wd hw 49 rfl)) (Or.inl (wd hw 62 rfl)) (by decide) (t := (.array (.object "java/lang/Object"))) (t' := .int) (by decide) (by decide)))
  have f16 := fq2_3.other W5 (Or.inl ne7)
  have f17 := f16.other W9 (Or.inr (slot_ne (Or.inl (wd hw 46 rfl)) (Or.inl (wd hw 62 rfl)) (by decide) (t := .int) (t' := .int) (by decide) (by decide)))
  have f18 := V5.other W9 (Ne.symm ne7)
  exact own_retV X9 hx hret hlk (hb hby d9_22) (by decide) (by decide) (by rw [e9]; exact ⟨t2, rfl, N9, f12, f13, f15, Fw9, f17, f18, (Nat.le_trans (Keep.refl h0 [a]).1 xq2_fresh_t)⟩)
theorem d8_0 : decode jdk_38_method_25_code 0 = .ok (.aload_n 0, 1) := by decide +kernel
theorem d8_1 : decode jdk_38_method_25_code 1 = .ok (.dup, 1) := by decide +kernel
theorem d8_2 : decode jdk_38_method_25_code 2 = .ok (.getfield 63, 3) := by decide +kernel
theorem d8_5 : decode jdk_38_method_25_code 5 = .ok (.iconst 1, 1) := by decide +kernel
theorem d8_6 : decode jdk_38_method_25_code 6 = .ok (.iadd, 1) := by decide +kernel
theorem d8_7 : decode jdk_38_method_25_code 7 = .ok (.putfield 63, 3) := by decide +kernel
theorem d8_10 : decode jdk_38_method_25_code 10 = .ok (.aload_n 0, 1) := by decide +kernel
theorem d8_11 : decode jdk_38_method_25_code 11 = .ok (.aload_n 1, 1) := by decide +kernel
theorem d8_12 : decode jdk_38_method_25_code 12 = .ok (.aload_n 0, 1) := by decide +kernel
theorem d8_13 : decode jdk_38_method_25_code 13 = .ok (.getfield 9, 3) := by decide +kernel
theorem d8_16 : decode jdk_38_method_25_code 16 = .ok (.aload_n 0, 1) := by decide +kernel
theorem d8_17 : decode jdk_38_method_25_code 17 = .ok (.getfield 48, 3) := by decide +kernel
theorem d8_20 : decode jdk_38_method_25_code 20 = .ok (.invokevirtual 131, 3) := by decide +kernel
theorem d8_23 : decode jdk_38_method_25_code 23 = .ok (.iconst 1, 1) := by decide +kernel
theorem d8_24 : decode jdk_38_method_25_code 24 = .ok (.ireturn, 1) := by decide +kernel
theorem pd__Ljava_lang_Object__Ljava_lang_Object_I_V : parseMethodDescriptor "(Ljava/lang/Object;[Ljava/lang/Object;I)V" = some ⟨[(.object "java/lang/Object"), (.array (.object "java/lang/Object")), .int], none⟩ := by decide +kernel
theorem ef_add_0 (m : MethodId) (x0 : Addr) (x1 : Addr) : entryFrame m #[(.ref x0), (.ref x1)] 2 = mkF m 0 #[rv x0, rv x1] [] := by first | (simp [entryFrame, mkF, argsToLocals, Value.category]; done) | rfl
def Q_add_0 (Z : State) (a : Addr) (el : Addr) (mc : Int32) (dA : Addr) (clD : Cell) (kO : ClassId) (h0 : Heap) (n0 : Nat) (v : Option Value) (h : Heap) (L : List Loc) : Prop := ∃ (t : Addr), (v = some (.int (1 : Int32))) ∧ (Fr n0 L) ∧ (Keep h0 h [a]) ∧ (Exa Z h a "java/util/ArrayList") ∧ (Fld Z h a "java/util/ArrayList" "elementData" "[Ljava/lang/Object;" (.ref t)) ∧ (Fld Z h a "java/util/ArrayList" "size" "I" (.int (1 : Int32))) ∧ (Fld Z h a "java/util/AbstractList" "modCount" "I" (.int (mc + (1 : Int32)))) ∧ (Arv Z h t kO (.object "java/lang/Object") (10 : Int32) [(.ref el), .null, .null, .null, .null, .null, .null, .null, .null, .null] .null) ∧ (h0.size ≤ t)
set_option maxRecDepth 65536 in
set_option maxHeartbeats 40000000 in
theorem rm_add_0 (l : Launch) (Z : State) (a0 : Array Value) (hw : ∀ d ∈ tables_1, d.before a0 Z = true) (ws : List Jvm.Cond) (a : Addr) (el : Addr) (mc : Int32) (dA : Addr) (clD : Cell) (kO : ClassId) (h0 : Heap) (n0 : Nat) (O0 : Old Z n0 h0) (P0 : Exa Z h0 a "java/util/ArrayList") (P1 : Fld Z h0 a "java/util/ArrayList" "elementData" "[Ljava/lang/Object;" (.ref dA)) (P2 : Fld Z h0 a "java/util/ArrayList" "size" "I" (.int (0 : Int32))) (P3 : Fld Z h0 a "java/util/AbstractList" "modCount" "I" (.int mc)) (fa : n0 ≤ a) (SDe : Sta Z Z.heap "java/util/ArrayList" "DEFAULTCAPACITY_EMPTY_ELEMENTDATA" "[Ljava/lang/Object;" (.ref dA)) (AD : Arr Z Z.heap dA clD (.object "java/lang/Object")) (LD : clD.slots.size.toInt32 = (0 : Int32)) (OV : Ovr Z kO "java/lang/Object") (FC : Z.vm.findClass "[Ljava/lang/Object;" = some kO) (I_el : Ins Z h0 el "java/lang/Object" true) :
    own_MF l own_m13 (Jvm.Cond.code own_m13 jdk_38_method_25_code 2 (some .boolean) :: ws) ({ frames := 4, cells := 1, slots := 10, locals := 56 } : Room) #[(.ref a), (.ref el)] Z h0 (Q_add_0 Z a el mc dA clD kO h0 n0) := by
  refine own_met (own := "java/util/ArrayList") (nme := "add") rfl rfl (plainFor_of_name pn_5) ?_
  intro p e s m below meth c s₁ hx hby hml hown hnm X0 e0 hret hlk hZ
  have N0 := Fr.nil n0
  rw [ef_add_0 m a el]
  refine own_st (T' := s₁) (g' := (mkF m 1 #[rv a, rv el] [(.ref a)])) (fun _ k_ => XS.aloadN X0.here hx rfl (hb hby d8_0) rfl rfl  k_) ?_
  refine own_st (T' := s₁) (g' := (mkF m 2 #[rv a, rv el] [(.ref a), (.ref a)])) (fun _ k_ => XS.dup X0.here hx rfl (hb hby d8_1) rfl rfl k_) ?_
  obtain ⟨T1, X1, e1, st1⟩ := getF X0 hx hZ hown (host := "") (Or.inl (wd hw 59 rfl)) (Via.of (wd hw 60 rfl)) e0 P3 (g := (mkF m 2 #[rv a, rv el] [(.ref a), (.ref a)])) rfl rfl (hb hby d8_2)
  refine own_st (T' := T1) (g' := (mkF m 5 #[rv a, rv el] [(.int mc), (.ref a)])) st1 ?_
  clear st1
  refine own_st (T' := T1) (g' := (mkF m 6 #[rv a, rv el] [(.int (1 : Int32)), (.int mc), (.ref a)])) (fun _ k_ => XS.iconst X1.here hx rfl (hb hby d8_5) k_) ?_
  refine own_st (T' := T1) (g' := (mkF m 7 #[rv a, rv el] [(.int (mc + (1 : Int32))), (.ref a)])) (fun _ k_ => XS.iadd X1.here hx rfl (hb hby d8_6) rfl k_) ?_
  obtain ⟨T2, h2, X2, e2, W2, st2⟩ := putF X1 hx hZ hown (host := "") (Or.inl (wd hw 59 rfl)) (Via.of (wd hw 60 rfl)) e1 P3 P0 (Or.inl (wd hw 46 rfl)) (wd hw 27 rfl) (ty := .int) (by decide) rfl rfl (g := (mkF m 7 #[rv a, rv el] [(.int (mc + (1 : Int32))), (.ref a)])) rfl rfl (hb hby d8_7)
  have Fw2 : Fld Z h2 a "java/util/AbstractList" "modCount" "I" (.int (mc + (1 : Int32))) := Fld.same W2 P3
  have N2 := Fr.snoc X2 N0 fa
  refine own_st (T' := T2) (g' := (mkF m 10 #[rv a, rv el] [])) st2 ?_
  clear st2
  refine own_st (T' := T2) (g' := (mkF m 11 #[rv a, rv el] [(.ref a)])) (fun _ k_ => XS.aloadN X2.here hx rfl (hb hby d8_10) rfl rfl  k_) ?_
  refine own_st (T' := T2) (g' := (mkF m 12 #[rv a, rv el] [(.ref el), (.ref a)])) (fun _ k_ => XS.aloadN X2.here hx rfl (hb hby d8_11) rfl rfl  k_) ?_
  refine own_st (T' := T2) (g' := (mkF m 13 #[rv a, rv el] [(.ref a), (.ref el), (.ref a)])) (fun _ k_ => XS.aloadN X2.here hx rfl (hb hby d8_12) rfl rfl  k_) ?_
  have f3 := P1.other W2 (Or.inr (slot_ne (Or.inl (wd hw 49 rfl)) (Or.inl (wd hw 46 rfl)) (by decide) (t := (.array (.object "java/lang/Object"))) (t' := .int) (by decide) (by decide)))
  obtain ⟨T4, X4, e4, st4⟩ := getF X2 hx hZ hown (host := "") (Or.inl (wd hw 48 rfl)) Via.refl e2 f3 (g := (mkF m 13 #[rv a, rv el] [(.ref a), (.ref el), (.ref a)])) rfl rfl (hb hby d8_13)
  refine own_st (T' := T4) (g' := (mkF m 16 #[rv a, rv el] [(.ref dA), (.ref el), (.ref a)])) st4 ?_
  clear st4
  refine own_st (T' := T4) (g' := (mkF m 17 #[rv a, rv el] [(.ref a), (.ref dA), (.ref el), (.ref a)])) (fun _ k_ => XS.aloadN X4.here hx rfl (hb hby d8_16) rfl rfl  k_) ?_
  have f5 := P2.other W2 (Or.inr (slot_ne (Or.inl (wd hw 62 rfl)) (Or.inl (wd hw 46 rfl)) (by decide) (t := .int) (t' := .int) (by decide) (by decide)))
  obtain ⟨T6, X6, e6, st6⟩ := getF X4 hx hZ hown (host := "") (Or.inl (wd hw 61 rfl)) Via.refl e4 f5 (g := (mkF m 17 #[rv a, rv el] [(.ref a), (.ref dA), (.ref el), (.ref a)])) rfl rfl (hb hby d8_17)
  refine own_st (T' := T6) (g' := (mkF m 20 #[rv a, rv el] [(.int (0 : Int32)), (.ref dA), (.ref el), (.ref a)])) st6 ?_
  clear st6
  have f7 := P0.wr W2
  have f8 := Ins.wr W2 I_el
  have f9 := O0.wr W2 fa
  have f10 := (Keep.refl h0 [a]).wr W2 (Or.inl (List.mem_of_getElem? (i := 0) rfl))
  obtain ⟨cq11, q11, q11'⟩ := f7.cell
  obtain ⟨_, T11, L11, X11, hQ11, st11⟩ := own_callP X6 hx (y := own_m12) hown (mvT hZ (wd hw 63 rfl)) (mvT hZ (wd hw 64 rfl)) (mvT hZ (wd hw 66 rfl)) (Cond.privateMethod_at (mvP hZ (wd hw 65 rfl) (args := #[]))) (mvT hZ (wd hw 67 rfl)) (by decide) (backOf (W := 0) (rm_ad3_0 l Z a0 hw [] a el (mc + (1 : Int32)) dA clD kO h2 n0 f9 f7 f3 f5 Fw2 fa SDe AD LD OV FC f8) hZ (wd hw 67 rfl) (wd hw 28 rfl) (by decide) (by decide)) (g := (mkF m 20 #[rv a, rv el] [(.int (0 : Int32)), (.ref dA), (.ref el), (.ref a)])) rfl (by rw [hml]; rfl) (a := a) (by rw [e6]; exact q11) q11' (argsL := [(.ref el), (.ref dA), (.int (0 : Int32))]) (rest := []) (lenOf pd__Ljava_lang_Object__Ljava_lang_Object_I_V rfl) rfl (by show 2 * 0 + _ ≤ _; exact Nat.le_of_eq rfl) (hb hby d8_20) rfl e6 (by decide) (by decide) (c' := 1) (s' := 10) rfl rfl
  obtain ⟨t11, rfl, Nq11, K11, fq11_0, fq11_1, fq11_2, fq11_3, fq11_4, xq11_fresh_t⟩ := hQ11
  have N11 := Fr.app N2 Nq11
  refine own_st (T' := T11) (g' := (mkF m 23 #[rv a, rv el] [])) st11 ?_
  clear st11
  refine own_st (T' := T11) (g' := (mkF m 24 #[rv a, rv el] [(.int (1 : Int32))])) (fun _ k_ => XS.iconst X11.here hx rfl (hb hby d8_23) k_) ?_
  have f12 := f10.trans K11 (allS (Or.inl (List.mem_of_getElem? (i := 0) rfl)) all0)
  exact own_retN X11 hx (t := .boolean) hret (by simp) hlk (hb hby d8_24) (by decide) (by decide) ⟨t11, rfl, N11, f12, fq11_0, fq11_1, fq11_2, fq11_3, fq11_4, (Nat.le_trans f10.1 xq11_fresh_t)⟩
theorem ef_ad3_1 (m : MethodId) (x0 : Addr) (x1 : Addr) (x2 : Addr) (x3 : Int32) : entryFrame m #[(.ref x0), (.ref x1), (.ref x2), (.int x3)] 4 = mkF m 0 #[rv x0, rv x1, rv x2, iv x3] [] := by first | (simp [entryFrame, mkF, argsToLocals, Value.category]; done) | rfl
def Q_ad3_1 (Z : State) (a : Addr) (el : Addr) (t : Addr) (mc : Int32) (kO : ClassId) (v0 : Value) (h0 : Heap) (n0 : Nat) (v : Option Value) (h : Heap) (L : List Loc) : Prop := (v = none) ∧ (Fr n0 L) ∧ (Keep h0 h [a, t]) ∧ (Exa Z h a "java/util/ArrayList") ∧ (Fld Z h a "java/util/ArrayList" "elementData" "[Ljava/lang/Object;" (.ref t)) ∧ (Fld Z h a "java/util/ArrayList" "size" "I" (.int (2 : Int32))) ∧ (Fld Z h a "java/util/AbstractList" "modCount" "I" (.int mc)) ∧ (Arv Z h t kO (.object "java/lang/Object") (10 : Int32) [v0, (.ref el), .null, .null, .null, .null, .null, .null, .null, .null] .null)
set_option maxRecDepth 65536 in
set_option maxHeartbeats 40000000 in
theorem rm_ad3_1 (l : Launch) (Z : State) (a0 : Array Value) (hw : ∀ d ∈ tables_1, d.before a0 Z = true) (ws : List Jvm.Cond) (a : Addr) (el : Addr) (t : Addr) (mc : Int32) (kO : ClassId) (v0 : Value) (h0 : Heap) (n0 : Nat) (O0 : Old Z n0 h0) (P0 : Exa Z h0 a "java/util/ArrayList") (P1 : Fld Z h0 a "java/util/ArrayList" "elementData" "[Ljava/lang/Object;" (.ref t)) (P2 : Fld Z h0 a "java/util/ArrayList" "size" "I" (.int (1 : Int32))) (P3 : Fld Z h0 a "java/util/AbstractList" "modCount" "I" (.int mc)) (P4 : Arv Z h0 t kO (.object "java/lang/Object") (10 : Int32) [v0, .null, .null, .null, .null, .null, .null, .null, .null, .null] .null) (fa : n0 ≤ a) (ft : n0 ≤ t) (OV : Ovr Z kO "java/lang/Object") (FC : Z.vm.findClass "[Ljava/lang/Object;" = some kO) (I_el : Ins Z h0 el "java/lang/Object" true) :
    own_MF l own_m12 (Jvm.Cond.code own_m12 jdk_38_method_24_code 4 none :: ws) ({ frames := 0, cells := 0, slots := 0, locals := 0 } : Room) #[(.ref a), (.ref el), (.ref t), (.int (1 : Int32))] Z h0 (Q_ad3_1 Z a el t mc kO v0 h0 n0) := by
  refine own_met (own := "java/util/ArrayList") (nme := "add") rfl rfl (plainFor_of_name pn_5) ?_
  intro p e s m below meth c s₁ hx hby hml hown hnm X0 e0 hret hlk hZ
  have N0 := Fr.nil n0
  rw [ef_ad3_1 m a el t (1 : Int32)]
  refine own_st (T' := s₁) (g' := (mkF m 1 #[rv a, rv el, rv t, iv (1 : Int32)] [(.int (1 : Int32))])) (fun _ k_ => XS.iloadN X0.here hx rfl (hb hby d9_0) rfl  k_) ?_
  refine own_st (T' := s₁) (g' := (mkF m 2 #[rv a, rv el, rv t, iv (1 : Int32)] [(.ref t), (.int (1 : Int32))])) (fun _ k_ => XS.aloadN X0.here hx rfl (hb hby d9_1) rfl rfl  k_) ?_
  obtain ⟨cl1, Ar1, -, S1, N1, -, -⟩ := id P4
  refine own_st (T' := s₁) (g' := (mkF m 3 #[rv a, rv el, rv t, iv (1 : Int32)] [(.int (10 : Int32)), (.int (1 : Int32))])) (fun t_ k_ => X0.arraylength hx (by rw [e0]; exact Ar1.1) (State.isArrayOf_alike hZ.alike Ar1.2.1) (g := (mkF m 2 #[rv a, rv el, rv t, iv (1 : Int32)] [(.ref t), (.int (1 : Int32))])) rfl rfl (hb hby d9_2) _ (by rw [len_of S1 N1]; exact k_)) ?_
  refine own_st (T' := s₁) (g' := (mkF m 11 #[rv a, rv el, rv t, iv (1 : Int32)] [])) (fun _ k_ => XS.icmpYes X0.here hx rfl (pc0 := 3) (pc' := 11) rfl (hb hby d9_3) rfl (feq (by decide : ¬ ((1 : Int32) = (10 : Int32)))).2 (by decide) (by decide) k_) ?_
  refine own_st (T' := s₁) (g' := (mkF m 12 #[rv a, rv el, rv t, iv (1 : Int32)] [(.ref t)])) (fun _ k_ => XS.aloadN X0.here hx rfl (hb hby d9_11) rfl rfl  k_) ?_
  refine own_st (T' := s₁) (g' := (mkF m 13 #[rv a, rv el, rv t, iv (1 : Int32)] [(.int (1 : Int32)), (.ref t)])) (fun _ k_ => XS.iloadN X0.here hx rfl (hb hby d9_12) rfl  k_) ?_
  refine own_st (T' := s₁) (g' := (mkF m 14 #[rv a, rv el, rv t, iv (1 : Int32)] [(.ref el), (.int (1 : Int32)), (.ref t)])) (fun _ k_ => XS.aloadN X0.here hx rfl (hb hby d9_13) rfl rfl  k_) ?_
  obtain ⟨cl2, Ar2, q2, S2, N2, H2, G2⟩ := id P4
  have hin2 : ¬ ((1 : Int32) < 0 ∨ cl2.slots.size ≤ ((1 : Int32)).toNatClampNeg) := inb_of S2 ⟨by decide, by decide⟩
  obtain ⟨T3, h3, X3, e3, W3, st3⟩ := stR X0 hx hZ e0 Ar2 (j := (1 : Int32)) hin2 rfl (Sto.of Ar2 (q2 ▸ OV) I_el) (g := (mkF m 14 #[rv a, rv el, rv t, iv (1 : Int32)] [(.ref el), (.int (1 : Int32)), (.ref t)])) rfl rfl (hb hby d9_14)
  have V3 : Arv Z h3 t kO (.object "java/lang/Object") (10 : Int32) [v0, (.ref el), .null, .null, .null, .null, .null, .null, .null, .null] .null := Arv.set Ar2 q2 S2 N2 H2 G2 rfl W3 1 rfl (Nat.le_of_ble_eq_true rfl)
  have Nx3 := Fr.snoc X3 N0 ft
  refine own_st (T' := T3) (g' := (mkF m 15 #[rv a, rv el, rv t, iv (1 : Int32)] [])) st3 ?_
  clear hin2 G2 H2 N2 S2 q2 Ar2 cl2 st3
  refine own_st (T' := T3) (g' := (mkF m 16 #[rv a, rv el, rv t, iv (1 : Int32)] [(.ref a)])) (fun _ k_ => XS.aloadN X3.here hx rfl (hb hby d9_15) rfl rfl  k_) ?_
  refine own_st (T' := T3) (g' := (mkF m 17 #[rv a, rv el, rv t, iv (1 : Int32)] [(.int (1 : Int32)), (.ref a)])) (fun _ k_ => XS.iloadN X3.here hx rfl (hb hby d9_16) rfl  k_) ?_
  refine own_st (T' := T3) (g' := (mkF m 18 #[rv a, rv el, rv t, iv (1 : Int32)] [(.int (1 : Int32)), (.int (1 : Int32)), (.ref a)])) (fun _ k_ => XS.iconst X3.here hx rfl (hb hby d9_17) k_) ?_
  refine own_st (T' := T3) (g' := (mkF m 19 #[rv a, rv el, rv t, iv (1 : Int32)] [(.int (2 : Int32)), (.ref a)])) (fun _ k_ => XS.iadd X3.here hx rfl (hb hby d9_18) rfl k_) ?_
  have f4 := P0.wr W3
  have xe5 : Exa Z h3 a "java/util/ArrayList" := P0.wr W3
  have ne6 : a ≠ t := own_neA xe5 (wd hw 27 rfl) V3
  have f7 := P2.other W3 (Or.inl ne6)
  obtain ⟨T8, h8, X8, e8, W8, st8⟩ := putF X3 hx hZ hown (host := "") (Or.inl (wd hw 61 rfl)) Via.refl e3 f7 f4 (Or.inl (wd hw 62 rfl)) (wd hw 27 rfl) (ty := .int) (by decide) rfl rfl (g := (mkF m 19 #[rv a, rv el, rv t, iv (1 : Int32)] [(.int (2 : Int32)), (.ref a)])) rfl rfl (hb hby d9_19)
  have Fw8 : Fld Z h8 a "java/util/ArrayList" "size" "I" (.int (2 : Int32)) := Fld.same W8 f7
  have N8 := Fr.snoc X8 Nx3 fa
  refine own_st (T' := T8) (g' := (mkF m 22 #[rv a, rv el, rv t, iv (1 : Int32)] [])) st8 ?_
  clear st8
  have f9 := (Keep.refl h0 [a, t]).wr W3 (Or.inl (List.mem_of_getElem? (i := 1) rfl))
  have f10 := f9.wr W8 (Or.inl (List.mem_of_getElem? (i := 0) rfl))
  have f11 := f4.wr W8
  have f12 := P1.other W3 (Or.inl ne6)
  have f13 := f12.other W8 (Or.inr (slot_ne (Or.inl (wd hw 49 rfl)) (Or.inl (wd hw 62 rfl)) (by decide) (t := (.array (.object "java/lang/Object"))) (t' := .int) (by decide) (by decide)))
  have f14 := P3.other W3 (Or.inl ne6)
  have f15 := f14.other W8 (Or.inr (slot_ne (Or.inl (wd hw 46 rfl)) (Or.inl (wd hw 62 rfl)) (by decide) (t := .int) (t' := .int) (by decide) (by decide)))
  have f16 := V3.other W8 (Ne.symm ne6)
  exact own_retV X8 hx hret hlk (hb hby d9_22) (by decide) (by decide) (by rw [e8]; exact ⟨rfl, N8, f10, f11, f13, Fw8, f15, f16⟩)
theorem ef_add_1 (m : MethodId) (x0 : Addr) (x1 : Addr) : entryFrame m #[(.ref x0), (.ref x1)] 2 = mkF m 0 #[rv x0, rv x1] [] := by first | (simp [entryFrame, mkF, argsToLocals, Value.category]; done) | rfl
def Q_add_1 (Z : State) (a : Addr) (el : Addr) (t : Addr) (mc : Int32) (kO : ClassId) (v0 : Value) (h0 : Heap) (n0 : Nat) (v : Option Value) (h : Heap) (L : List Loc) : Prop := (v = some (.int (1 : Int32))) ∧ (Fr n0 L) ∧ (Keep h0 h [a, t]) ∧ (Exa Z h a "java/util/ArrayList") ∧ (Fld Z h a "java/util/ArrayList" "elementData" "[Ljava/lang/Object;" (.ref t)) ∧ (Fld Z h a "java/util/ArrayList" "size" "I" (.int (2 : Int32))) ∧ (Fld Z h a "java/util/AbstractList" "modCount" "I" (.int (mc + (1 : Int32)))) ∧ (Arv Z h t kO (.object "java/lang/Object") (10 : Int32) [v0, (.ref el), .null, .null, .null, .null, .null, .null, .null, .null] .null)
set_option maxRecDepth 65536 in
set_option maxHeartbeats 40000000 in
theorem rm_add_1 (l : Launch) (Z : State) (a0 : Array Value) (hw : ∀ d ∈ tables_1, d.before a0 Z = true) (ws : List Jvm.Cond) (a : Addr) (el : Addr) (t : Addr) (mc : Int32) (kO : ClassId) (v0 : Value) (h0 : Heap) (n0 : Nat) (O0 : Old Z n0 h0) (P0 : Exa Z h0 a "java/util/ArrayList") (P1 : Fld Z h0 a "java/util/ArrayList" "elementData" "[Ljava/lang/Object;" (.ref t)) (P2 : Fld Z h0 a "java/util/ArrayList" "size" "I" (.int (1 : Int32))) (P3 : Fld Z h0 a "java/util/AbstractList" "modCount" "I" (.int mc)) (P4 : Arv Z h0 t kO (.object "java/lang/Object") (10 : Int32) [v0, .null, .null, .null, .null, .null, .null, .null, .null, .null] .null) (fa : n0 ≤ a) (ft : n0 ≤ t) (OV : Ovr Z kO "java/lang/Object") (FC : Z.vm.findClass "[Ljava/lang/Object;" = some kO) (I_el : Ins Z h0 el "java/lang/Object" true) :
    own_MF l own_m13 (Jvm.Cond.code own_m13 jdk_38_method_25_code 2 (some .boolean) :: ws) ({ frames := 1, cells := 0, slots := 0, locals := 15 } : Room) #[(.ref a), (.ref el)] Z h0 (Q_add_1 Z a el t mc kO v0 h0 n0) := by
  refine own_met (own := "java/util/ArrayList") (nme := "add") rfl rfl (plainFor_of_name pn_5) ?_
  intro p e s m below meth c s₁ hx hby hml hown hnm X0 e0 hret hlk hZ
  have N0 := Fr.nil n0
  rw [ef_add_1 m a el]
  refine own_st (T' := s₁) (g' := (mkF m 1 #[rv a, rv el] [(.ref a)])) (fun _ k_ => XS.aloadN X0.here hx rfl (hb hby d8_0) rfl rfl  k_) ?_
  refine own_st (T' := s₁) (g' := (mkF m 2 #[rv a, rv el] [(.ref a), (.ref a)])) (fun _ k_ => XS.dup X0.here hx rfl (hb hby d8_1) rfl rfl k_) ?_
  obtain ⟨T1, X1, e1, st1⟩ := getF X0 hx hZ hown (host := "") (Or.inl (wd hw 59 rfl)) (Via.of (wd hw 60 rfl)) e0 P3 (g := (mkF m 2 #[rv a, rv el] [(.ref a), (.ref a)])) rfl rfl (hb hby d8_2)
  refine own_st (T' := T1) (g' := (mkF m 5 #[rv a, rv el] [(.int mc), (.ref a)])) st1 ?_
  clear st1
  refine own_st (T' := T1) (g' := (mkF m 6 #[rv a, rv el] [(.int (1 : Int32)), (.int mc), (.ref a)])) (fun _ k_ => XS.iconst X1.here hx rfl (hb hby d8_5) k_) ?_
  refine own_st (T' := T1) (g' := (mkF m 7 #[rv a, rv el] [(.int (mc + (1 : Int32))), (.ref a)])) (fun _ k_ => XS.iadd X1.here hx rfl (hb hby d8_6) rfl k_) ?_
  obtain ⟨T2, h2, X2, e2, W2, st2⟩ := putF X1 hx hZ hown (host := "") (Or.inl (wd hw 59 rfl)) (Via.of (wd hw 60 rfl)) e1 P3 P0 (Or.inl (wd hw 46 rfl)) (wd hw 27 rfl) (ty := .int) (by decide) rfl rfl (g := (mkF m 7 #[rv a, rv el] [(.int (mc + (1 : Int32))), (.ref a)])) rfl rfl (hb hby d8_7)
  have Fw2 : Fld Z h2 a "java/util/AbstractList" "modCount" "I" (.int (mc + (1 : Int32))) := Fld.same W2 P3
  have N2 := Fr.snoc X2 N0 fa
  refine own_st (T' := T2) (g' := (mkF m 10 #[rv a, rv el] [])) st2 ?_
  clear st2
  refine own_st (T' := T2) (g' := (mkF m 11 #[rv a, rv el] [(.ref a)])) (fun _ k_ => XS.aloadN X2.here hx rfl (hb hby d8_10) rfl rfl  k_) ?_
  refine own_st (T' := T2) (g' := (mkF m 12 #[rv a, rv el] [(.ref el), (.ref a)])) (fun _ k_ => XS.aloadN X2.here hx rfl (hb hby d8_11) rfl rfl  k_) ?_
  refine own_st (T' := T2) (g' := (mkF m 13 #[rv a, rv el] [(.ref a), (.ref el), (.ref a)])) (fun _ k_ => XS.aloadN X2.here hx rfl (hb hby d8_12) rfl rfl  k_) ?_
  have f3 := P1.other W2 (Or.inr (slot_ne (Or.inl (wd hw 49 rfl)) (Or.inl (wd hw 46 rfl)) (by decide) (t := (.array (.object "java/lang/Object"))) (t' := .int) (by decide) (by decide)))
  obtain ⟨T4, X4, e4, st4⟩ := getF X2 hx hZ hown (host := "") (Or.inl (wd hw 48 rfl)) Via.refl e2 f3 (g := (mkF m 13 #[rv a, rv el] [(.ref a), (.ref el), (.ref a)])) rfl rfl (hb hby d8_13)
  refine own_st (T' := T4) (g' := (mkF m 16 #[rv a, rv el] [(.ref t), (.ref el), (.ref a)])) st4 ?_
  clear st4
  refine own_st (T' := T4) (g' := (mkF m 17 #[rv a, rv el] [(.ref a), (.ref t), (.ref el), (.ref a)])) (fun _ k_ => XS.aloadN X4.here hx rfl (hb hby d8_16) rfl rfl  k_) ?_
  have f5 := P2.other W2 (Or.inr (slot_ne (Or.inl (wd hw 62 rfl)) (Or.inl (wd hw 46 rfl)) (by decide) (t := .int) (t' := .int) (by decide) (by decide)))
  obtain ⟨T6, X6, e6, st6⟩ := getF X4 hx hZ hown (host := "") (Or.inl (wd hw 61 rfl)) Via.refl e4 f5 (g := (mkF m 17 #[rv a, rv el] [(.ref a), (.ref t), (.ref el), (.ref a)])) rfl rfl (hb hby d8_17)
  refine own_st (T' := T6) (g' := (mkF m 20 #[rv a, rv el] [(.int (1 : Int32)), (.ref t), (.ref el), (.ref a)])) st6 ?_
  clear st6
  have f7 := P0.wr W2
  have ne8 : a ≠ t := own_neA P0 (wd hw 27 rfl) P4
  have f9 := P4.other W2 (Ne.symm ne8)
  have f10 := Ins.wr W2 I_el
  have f11 := O0.wr W2 fa
  obtain ⟨cq12, q12, q12'⟩ := f7.cell
  obtain ⟨_, T12, L12, X12, hQ12, st12⟩ := own_callP X6 hx (y := own_m12) hown (mvT hZ (wd hw 63 rfl)) (mvT hZ (wd hw 64 rfl)) (mvT hZ (wd hw 66 rfl)) (Cond.privateMethod_at (mvP hZ (wd hw 65 rfl) (args := #[]))) (mvT hZ (wd hw 67 rfl)) (by decide) (backOf (W := 0) (rm_ad3_1 l Z a0 hw [] a el t (mc + (1 : Int32)) kO v0 h2 n0 f11 f7 f3 f5 Fw2 f9 fa ft OV FC f10) hZ (wd hw 67 rfl) (wd hw 28 rfl) (by decide) (by decide)) (g := (mkF m 20 #[rv a, rv el] [(.int (1 : Int32)), (.ref t), (.ref el), (.ref a)])) rfl (by rw [hml]; rfl) (a := a) (by rw [e6]; exact q12) q12' (argsL := [(.ref el), (.ref t), (.int (1 : Int32))]) (rest := []) (lenOf pd__Ljava_lang_Object__Ljava_lang_Object_I_V rfl) rfl (by show 2 * 0 + _ ≤ _; exact Nat.le_of_eq rfl) (hb hby d8_20) rfl e6 (by decide) (by decide) (c' := 0) (s' := 0) rfl rfl
  obtain ⟨rfl, Nq12, K12, fq12_0, fq12_1, fq12_2, fq12_3, fq12_4⟩ := hQ12
  have N12 := Fr.app N2 Nq12
  refine own_st (T' := T12) (g' := (mkF m 23 #[rv a, rv el] [])) st12 ?_
  clear st12
  refine own_st (T' := T12) (g' := (mkF m 24 #[rv a, rv el] [(.int (1 : Int32))])) (fun _ k_ => XS.iconst X12.here hx rfl (hb hby d8_23) k_) ?_
  have f13 := (Keep.refl h0 [a, t]).wr W2 (Or.inl (List.mem_of_getElem? (i := 0) rfl))
  have f14 := f13.trans K12 (allS (Or.inl (List.mem_of_getElem? (i := 0) rfl)) (allS (Or.inl (List.mem_of_getElem? (i := 1) rfl)) all0))
  exact own_retN X12 hx (t := .boolean) hret (by simp) hlk (hb hby d8_24) (by decide) (by decide) ⟨rfl, N12, f14, fq12_0, fq12_1, fq12_2, fq12_3, fq12_4⟩
theorem ef_ad3_2 (m : MethodId) (x0 : Addr) (x1 : Addr) (x2 : Addr) (x3 : Int32) : entryFrame m #[(.ref x0), (.ref x1), (.ref x2), (.int x3)] 4 = mkF m 0 #[rv x0, rv x1, rv x2, iv x3] [] := by first | (simp [entryFrame, mkF, argsToLocals, Value.category]; done) | rfl
def Q_ad3_2 (Z : State) (a : Addr) (el : Addr) (t : Addr) (mc : Int32) (kO : ClassId) (v0 : Value) (v1 : Value) (h0 : Heap) (n0 : Nat) (v : Option Value) (h : Heap) (L : List Loc) : Prop := (v = none) ∧ (Fr n0 L) ∧ (Keep h0 h [a, t]) ∧ (Exa Z h a "java/util/ArrayList") ∧ (Fld Z h a "java/util/ArrayList" "elementData" "[Ljava/lang/Object;" (.ref t)) ∧ (Fld Z h a "java/util/ArrayList" "size" "I" (.int (3 : Int32))) ∧ (Fld Z h a "java/util/AbstractList" "modCount" "I" (.int mc)) ∧ (Arv Z h t kO (.object "java/lang/Object") (10 : Int32) [v0, v1, (.ref el), .null, .null, .null, .null, .null, .null, .null] .null)
set_option maxRecDepth 65536 in
set_option maxHeartbeats 40000000 in
theorem rm_ad3_2 (l : Launch) (Z : State) (a0 : Array Value) (hw : ∀ d ∈ tables_1, d.before a0 Z = true) (ws : List Jvm.Cond) (a : Addr) (el : Addr) (t : Addr) (mc : Int32) (kO : ClassId) (v0 : Value) (v1 : Value) (h0 : Heap) (n0 : Nat) (O0 : Old Z n0 h0) (P0 : Exa Z h0 a "java/util/ArrayList") (P1 : Fld Z h0 a "java/util/ArrayList" "elementData" "[Ljava/lang/Object;" (.ref t)) (P2 : Fld Z h0 a "java/util/ArrayList" "size" "I" (.int (2 : Int32))) (P3 : Fld Z h0 a "java/util/AbstractList" "modCount" "I" (.int mc)) (P4 : Arv Z h0 t kO (.object "java/lang/Object") (10 : Int32) [v0, v1, .null, .null, .null, .null, .null, .null, .null, .null] .null) (fa : n0 ≤ a) (ft : n0 ≤ t) (OV : Ovr Z kO "java/lang/Object") (FC : Z.vm.findClass "[Ljava/lang/Object;" = some kO) (I_el : Ins Z h0 el "java/lang/Object" true) :
    own_MF l own_m12 (Jvm.Cond.code own_m12 jdk_38_method_24_code 4 none :: ws) ({ frames := 0, cells := 0, slots := 0, locals := 0 } : Room) #[(.ref a), (.ref el), (.ref t), (.int (2 : Int32))] Z h0 (Q_ad3_2 Z a el t mc kO v0 v1 h0 n0) := by
  refine own_met (own := "java/util/ArrayList") (nme := "add") rfl rfl (plainFor_of_name pn_5) ?_
  intro p e s m below meth c s₁ hx hby hml hown hnm X0 e0 hret hlk hZ
  have N0 := Fr.nil n0
  rw [ef_ad3_2 m a el t (2 : Int32)]
  refine own_st (T' := s₁) (g' := (mkF m 1 #[rv a, rv el, rv t, iv (2 : Int32)] [(.int (2 : Int32))])) (fun _ k_ => XS.iloadN X0.here hx rfl (hb hby d9_0) rfl  k_) ?_
  refine own_st (T' := s₁) (g' := (mkF m 2 #[rv a, rv el, rv t, iv (2 : Int32)] [(.ref t), (.int (2 : Int32))])) (fun _ k_ => XS.aloadN X0.here hx rfl (hb hby d9_1) rfl rfl  k_) ?_
  obtain ⟨cl1, Ar1, -, S1, N1, -, -⟩ := id P4
  refine own_st (T' := s₁) (g' := (mkF m 3 #[rv a, rv el, rv t, iv (2 : Int32)] [(.int (10 : Int32)), (.int (2 : Int32))])) (fun t_ k_ => X0.arraylength hx (by rw [e0]; exact Ar1.1) (State.isArrayOf_alike hZ.alike Ar1.2.1) (g := (mkF m 2 #[rv a, rv el, rv t, iv (2 : Int32)] [(.ref t), (.int (2 : Int32))])) rfl rfl (hb hby d9_2) _ (by rw [len_of S1 N1]; exact k_)) ?_
  refine own_st (T' := s₁) (g' := (mkF m 11 #[rv a, rv el, rv t, iv (2 : Int32)] [])) (fun _ k_ => XS.icmpYes X0.here hx rfl (pc0 := 3) (pc' := 11) rfl (hb hby d9_3) rfl (feq (by decide : ¬ ((2 : Int32) = (10 : Int32)))).2 (by decide) (by decide) k_) ?_
  refine own_st (T' := s₁) (g' := (mkF m 12 #[rv a, rv el, rv t, iv (2 : Int32)] [(.ref t)])) (fun _ k_ => XS.aloadN X0.here hx rfl (hb hby d9_11) rfl rfl  k_) ?_
  refine own_st (T' := s₁) (g' := (mkF m 13 #[rv a, rv el, rv t, iv (2 : Int32)] [(.int (2 : Int32)), (.ref t)])) (fun _ k_ => XS.iloadN X0.here hx rfl (hb hby d9_12) rfl  k_) ?_
  refine own_st (T' := s₁) (g' := (mkF m 14 #[rv a, rv el, rv t, iv (2 : Int32)] [(.ref el), (.int (2 : Int32)), (.ref t)])) (fun _ k_ => XS.aloadN X0.here hx rfl (hb hby d9_13) rfl rfl  k_) ?_
  obtain ⟨cl2, Ar2, q2, S2, N2, H2, G2⟩ := id P4
  have hin2 : ¬ ((2 : Int32) < 0 ∨ cl2.slots.size ≤ ((2 : Int32)).toNatClampNeg) := inb_of S2 ⟨by decide, by decide⟩
  obtain ⟨T3, h3, X3, e3, W3, st3⟩ := stR X0 hx hZ e0 Ar2 (j := (2 : Int32)) hin2 rfl (Sto.of Ar2 (q2 ▸ OV) I_el) (g := (mkF m 14 #[rv a, rv el, rv t, iv (2 : Int32)] [(.ref el), (.int (2 : Int32)), (.ref t)])) rfl rfl (hb hby d9_14)
  have V3 : Arv Z h3 t kO (.object "java/lang/Object") (10 : Int32) [v0, v1, (.ref el), .null, .null, .null, .null, .null, .null, .null] .null := Arv.set Ar2 q2 S2 N2 H2 G2 rfl W3 2 rfl (Nat.le_of_ble_eq_true rfl)
  have Nx3 := Fr.snoc X3 N0 ft
  refine own_st (T' := T3) (g' := (mkF m 15 #[rv a, rv el, rv t, iv (2 : Int32)] [])) st3 ?_
  clear hin2 G2 H2 N2 S2 q2 Ar2 cl2 st3
  refine own_st (T' := T3) (g' := (mkF m 16 #[rv a, rv el, rv t, iv (2 : Int32)] [(.ref a)])) (fun _ k_ => XS.aloadN X3.here hx rfl (hb hby d9_15) rfl rfl  k_) ?_
  refine own_st (T' := T3) (g' := (mkF m 17 #[rv a, rv el, rv t, iv (2 : Int32)] [(.int (2 : Int32)), (.ref a)])) (fun _ k_ => XS.iloadN X3.here hx rfl (hb hby d9_16) rfl  k_) ?_
  refine own_st (T' := T3) (g' := (mkF m 18 #[rv a, rv el, rv t, iv (2 : Int32)] [(.int (1 : Int32)), (.int (2 : Int32)), (.ref a)])) (fun _ k_ => XS.iconst X3.here hx rfl (hb hby d9_17) k_) ?_
  refine own_st (T' := T3) (g' := (mkF m 19 #[rv a, rv el, rv t, iv (2 : Int32)] [(.int (3 : Int32)), (.ref a)])) (fun _ k_ => XS.iadd X3.here hx rfl (hb hby d9_18) rfl k_) ?_
  have f4 := P0.wr W3
  have xe5 : Exa Z h3 a "java/util/ArrayList" := P0.wr W3
  have ne6 : a ≠ t := own_neA xe5 (wd hw 27 rfl) V3
  have f7 := P2.other W3 (Or.inl ne6)
  obtain ⟨T8, h8, X8, e8, W8, st8⟩ := putF X3 hx hZ hown (host := "") (Or.inl (wd hw 61 rfl)) Via.refl e3 f7 f4 (Or.inl (wd hw 62 rfl)) (wd hw 27 rfl) (ty := .int) (by decide) rfl rfl (g := (mkF m 19 #[rv a, rv el, rv t, iv (2 : Int32)] [(.int (3 : Int32)), (.ref a)])) rfl rfl (hb hby d9_19)
  have Fw8 : Fld Z h8 a "java/util/ArrayList" "size" "I" (.int (3 : Int32)) := Fld.same W8 f7
  have N8 := Fr.snoc X8 Nx3 fa
  refine own_st (T' := T8) (g' := (mkF m 22 #[rv a, rv el, rv t, iv (2 : Int32)] [])) st8 ?_
  clear st8
  have f9 := (Keep.refl h0 [a, t]).wr W3 (Or.inl (List.mem_of_getElem? (i := 1) rfl))
  have f10 := f9.wr W8 (Or.inl (List.mem_of_getElem? (i := 0) rfl))
  have f11 := f4.wr W8
  have f12 := P1.other W3 (Or.inl ne6)
  have f13 := f12.other W8 (Or.inr (slot_ne (Or.inl (wd hw 49 rfl)) (Or.inl (wd hw 62 rfl)) (by decide) (t := (.array (.object "java/lang/Object"))) (t' := .int) (by decide) (by decide)))
  have f14 := P3.other W3 (Or.inl ne6)
  have f15 := f14.other W8 (Or.inr (slot_ne (Or.inl (wd hw 46 rfl)) (Or.inl (wd hw 62 rfl)) (by decide) (t := .int) (t' := .int) (by decide) (by decide)))
  have f16 := V3.other W8 (Ne.symm ne6)
  exact own_retV X8 hx hret hlk (hb hby d9_22) (by decide) (by decide) (by rw [e8]; exact ⟨rfl, N8, f10, f11, f13, Fw8, f15, f16⟩)
theorem ef_add_2 (m : MethodId) (x0 : Addr) (x1 : Addr) : entryFrame m #[(.ref x0), (.ref x1)] 2 = mkF m 0 #[rv x0, rv x1] [] := by first | (simp [entryFrame, mkF, argsToLocals, Value.category]; done) | rfl
def Q_add_2 (Z : State) (a : Addr) (el : Addr) (t : Addr) (mc : Int32) (kO : ClassId) (v0 : Value) (v1 : Value) (h0 : Heap) (n0 : Nat) (v : Option Value) (h : Heap) (L : List Loc) : Prop := (v = some (.int (1 : Int32))) ∧ (Fr n0 L) ∧ (Keep h0 h [a, t]) ∧ (Exa Z h a "java/util/ArrayList") ∧ (Fld Z h a "java/util/ArrayList" "elementData" "[Ljava/lang/Object;" (.ref t)) ∧ (Fld Z h a "java/util/ArrayList" "size" "I" (.int (3 : Int32))) ∧ (Fld Z h a "java/util/AbstractList" "modCount" "I" (.int (mc + (1 : Int32)))) ∧ (Arv Z h t kO (.object "java/lang/Object") (10 : Int32) [v0, v1, (.ref el), .null, .null, .null, .null, .null, .null, .null] .null)
set_option maxRecDepth 65536 in
set_option maxHeartbeats 40000000 in
theorem rm_add_2 (l : Launch) (Z : State) (a0 : Array Value) (hw : ∀ d ∈ tables_1, d.before a0 Z = true) (ws : List Jvm.Cond) (a : Addr) (el : Addr) (t : Addr) (mc : Int32) (kO : ClassId) (v0 : Value) (v1 : Value) (h0 : Heap) (n0 : Nat) (O0 : Old Z n0 h0) (P0 : Exa Z h0 a "java/util/ArrayList") (P1 : Fld Z h0 a "java/util/ArrayList" "elementData" "[Ljava/lang/Object;" (.ref t)) (P2 : Fld Z h0 a "java/util/ArrayList" "size" "I" (.int (2 : Int32))) (P3 : Fld Z h0 a "java/util/AbstractList" "modCount" "I" (.int mc)) (P4 : Arv Z h0 t kO (.object "java/lang/Object") (10 : Int32) [v0, v1, .null, .null, .null, .null, .null, .null, .null, .null] .null) (fa : n0 ≤ a) (ft : n0 ≤ t) (OV : Ovr Z kO "java/lang/Object") (FC : Z.vm.findClass "[Ljava/lang/Object;" = some kO) (I_el : Ins Z h0 el "java/lang/Object" true) :
    own_MF l own_m13 (Jvm.Cond.code own_m13 jdk_38_method_25_code 2 (some .boolean) :: ws) ({ frames := 1, cells := 0, slots := 0, locals := 15 } : Room) #[(.ref a), (.ref el)] Z h0 (Q_add_2 Z a el t mc kO v0 v1 h0 n0) := by
  refine own_met (own := "java/util/ArrayList") (nme := "add") rfl rfl (plainFor_of_name pn_5) ?_
  intro p e s m below meth c s₁ hx hby hml hown hnm X0 e0 hret hlk hZ
  have N0 := Fr.nil n0
  rw [ef_add_2 m a el]
  refine own_st (T' := s₁) (g' := (mkF m 1 #[rv a, rv el] [(.ref a)])) (fun _ k_ => XS.aloadN X0.here hx rfl (hb hby d8_0) rfl rfl  k_) ?_
  refine own_st (T' := s₁) (g' := (mkF m 2 #[rv a, rv el] [(.ref a), (.ref a)])) (fun _ k_ => XS.dup X0.here hx rfl (hb hby d8_1) rfl rfl k_) ?_
  obtain ⟨T1, X1, e1, st1⟩ := getF X0 hx hZ hown (host := "") (Or.inl (wd hw 59 rfl)) (Via.of (wd hw 60 rfl)) e0 P3 (g := (mkF m 2 #[rv a, rv el] [(.ref a), (.ref a)])) rfl rfl (hb hby d8_2)
  refine own_st (T' := T1) (g' := (mkF m 5 #[rv a, rv el] [(.int mc), (.ref a)])) st1 ?_
  clear st1
  refine own_st (T' := T1) (g' := (mkF m 6 #[rv a, rv el] [(.int (1 : Int32)), (.int mc), (.ref a)])) (fun _ k_ => XS.iconst X1.here hx rfl (hb hby d8_5) k_) ?_
  refine own_st (T' := T1) (g' := (mkF m 7 #[rv a, rv el] [(.int (mc + (1 : Int32))), (.ref a)])) (fun _ k_ => XS.iadd X1.here hx rfl (hb hby d8_6) rfl k_) ?_
  obtain ⟨T2, h2, X2, e2, W2, st2⟩ := putF X1 hx hZ hown (host := "") (Or.inl (wd hw 59 rfl)) (Via.of (wd hw 60 rfl)) e1 P3 P0 (Or.inl (wd hw 46 rfl)) (wd hw 27 rfl) (ty := .int) (by decide) rfl rfl (g := (mkF m 7 #[rv a, rv el] [(.int (mc + (1 : Int32))), (.ref a)])) rfl rfl (hb hby d8_7)
  have Fw2 : Fld Z h2 a "java/util/AbstractList" "modCount" "I" (.int (mc + (1 : Int32))) := Fld.same W2 P3
  have N2 := Fr.snoc X2 N0 fa
  refine own_st (T' := T2) (g' := (mkF m 10 #[rv a, rv el] [])) st2 ?_
  clear st2
  refine own_st (T' := T2) (g' := (mkF m 11 #[rv a, rv el] [(.ref a)])) (fun _ k_ => XS.aloadN X2.here hx rfl (hb hby d8_10) rfl rfl  k_) ?_
  refine own_st (T' := T2) (g' := (mkF m 12 #[rv a, rv el] [(.ref el), (.ref a)])) (fun _ k_ => XS.aloadN X2.here hx rfl (hb hby d8_11) rfl rfl  k_) ?_
  refine own_st (T' := T2) (g' := (mkF m 13 #[rv a, rv el] [(.ref a), (.ref el), (.ref a)])) (fun _ k_ => XS.aloadN X2.here hx rfl (hb hby d8_12) rfl rfl  k_) ?_
  have f3 := P1.other W2 (Or.inr (slot_ne (Or.inl (wd hw 49 rfl)) (Or.inl (wd hw 46 rfl)) (by decide) (t := (.array (.object "java/lang/Object"))) (t' := .int) (by decide) (by decide)))
  obtain ⟨T4, X4, e4, st4⟩ := getF X2 hx hZ hown (host := "") (Or.inl (wd hw 48 rfl)) Via.refl e2 f3 (g := (mkF m 13 #[rv a, rv el] [(.ref a), (.ref el), (.ref a)])) rfl rfl (hb hby d8_13)
  refine own_st (T' := T4) (g' := (mkF m 16 #[rv a, rv el] [(.ref t), (.ref el), (.ref a)])) st4 ?_
  clear st4
  refine own_st (T' := T4) (g' := (mkF m 17 #[rv a, rv el] [(.ref a), (.ref t), (.ref el), (.ref a)])) (fun _ k_ => XS.aloadN X4.here hx rfl (hb hby d8_16) rfl rfl  k_) ?_
  have f5 := P2.other W2 (Or.inr (slot_ne (Or.inl (wd hw 62 rfl)) (Or.inl (wd hw 46 rfl)) (by decide) (t := .int) (t' := .int) (by decide) (by decide)))
  obtain ⟨T6, X6, e6, st6⟩ := getF X4 hx hZ hown (host := "") (Or.inl (wd hw 61 rfl)) Via.refl e4 f5 (g := (mkF m 17 #[rv a, rv el] [(.ref a), (.ref t), (.ref el), (.ref a)])) rfl rfl (hb hby d8_17)
  refine own_st (T' := T6) (g' := (mkF m 20 #[rv a, rv el] [(.int (2 : Int32)), (.ref t), (.ref el), (.ref a)])) st6 ?_
  clear st6
  have f7 := P0.wr W2
  have ne8 : a ≠ t := own_neA P0 (wd hw 27 rfl) P4
  have f9 := P4.other W2 (Ne.symm ne8)
  have f10 := Ins.wr W2 I_el
  have f11 := O0.wr W2 fa
  obtain ⟨cq12, q12, q12'⟩ := f7.cell
  obtain ⟨_, T12, L12, X12, hQ12, st12⟩ := own_callP X6 hx (y := own_m12) hown (mvT hZ (wd hw 63 rfl)) (mvT hZ (wd hw 64 rfl)) (mvT hZ (wd hw 66 rfl)) (Cond.privateMethod_at (mvP hZ (wd hw 65 rfl) (args := #[]))) (mvT hZ (wd hw 67 rfl)) (by decide) (backOf (W := 0) (rm_ad3_2 l Z a0 hw [] a el t (mc + (1 : Int32)) kO v0 v1 h2 n0 f11 f7 f3 f5 Fw2 f9 fa ft OV FC f10) hZ (wd hw 67 rfl) (wd hw 28 rfl) (by decide) (by decide)) (g := (mkF m 20 #[rv a, rv el] [(.int (2 : Int32)), (.ref t), (.ref el), (.ref a)])) rfl (by rw [hml]; rfl) (a := a) (by rw [e6]; exact q12) q12' (argsL := [(.ref el), (.ref t), (.int (2 : Int32))]) (rest := []) (lenOf pd__Ljava_lang_Object__Ljava_lang_Object_I_V rfl) rfl (by show 2 * 0 + _ ≤ _; exact Nat.le_of_eq rfl) (hb hby d8_20) rfl e6 (by decide) (by decide) (c' := 0) (s' := 0) rfl rfl
  obtain ⟨rfl, Nq12, K12, fq12_0, fq12_1, fq12_2, fq12_3, fq12_4⟩ := hQ12
  have N12 := Fr.app N2 Nq12
  refine own_st (T' := T12) (g' := (mkF m 23 #[rv a, rv el] [])) st12 ?_
  clear st12
  refine own_st (T' := T12) (g' := (mkF m 24 #[rv a, rv el] [(.int (1 : Int32))])) (fun _ k_ => XS.iconst X12.here hx rfl (hb hby d8_23) k_) ?_
  have f13 := (Keep.refl h0 [a, t]).wr W2 (Or.inl (List.mem_of_getElem? (i := 0) rfl))
  have f14 := f13.trans K12 (allS (Or.inl (List.mem_of_getElem? (i := 0) rfl)) (allS (Or.inl (List.mem_of_getElem? (i := 1) rfl)) all0))
  exact own_retN X12 hx (t := .boolean) hret (by simp) hlk (hb hby d8_24) (by decide) (by decide) ⟨rfl, N12, f14, fq12_0, fq12_1, fq12_2, fq12_3, fq12_4⟩
theorem d15_0 : decode jdk_38_method_8_code 0 = .ok (.aload_n 0, 1) := by decide +kernel
theorem d15_1 : decode jdk_38_method_8_code 1 = .ok (.getfield 48, 3) := by decide +kernel
theorem d15_4 : decode jdk_38_method_8_code 4 = .ok (.ireturn, 1) := by decide +kernel
theorem ef_alsz (m : MethodId) (x0 : Addr) : entryFrame m #[(.ref x0)] 1 = mkF m 0 #[rv x0] [] := by first | (simp [entryFrame, mkF, argsToLocals, Value.category]; done) | rfl
def Q_alsz (Z : State) (a : Addr) (sz : Int32) (h0 : Heap) (n0 : Nat) (v : Option Value) (h : Heap) (L : List Loc) : Prop := (v = some (.int sz)) ∧ (Fr n0 L) ∧ (h = h0)
set_option maxRecDepth 65536 in
set_option maxHeartbeats 40000000 in
theorem rm_alsz (l : Launch) (Z : State) (a0 : Array Value) (hw : ∀ d ∈ tables_1, d.before a0 Z = true) (ws : List Jvm.Cond) (a : Addr) (sz : Int32) (h0 : Heap) (n0 : Nat) (O0 : Old Z n0 h0) (Fz : Fld Z h0 a "java/util/ArrayList" "size" "I" (.int sz)) :
    own_MF l own_m14 (Jvm.Cond.code own_m14 jdk_38_method_8_code 1 (some .int) :: ws) ({ frames := 0, cells := 0, slots := 0, locals := 0 } : Room) #[(.ref a)] Z h0 (Q_alsz Z a sz h0 n0) := by
  refine own_met (own := "java/util/ArrayList") (nme := "size") rfl rfl (plainFor_of_name pn_5) ?_
  intro p e s m below meth c s₁ hx hby hml hown hnm X0 e0 hret hlk hZ
  have N0 := Fr.nil n0
  rw [ef_alsz m a]
  refine own_st (T' := s₁) (g' := (mkF m 1 #[rv a] [(.ref a)])) (fun _ k_ => XS.aloadN X0.here hx rfl (hb hby d15_0) rfl rfl  k_) ?_
  obtain ⟨T1, X1, e1, st1⟩ := getF X0 hx hZ hown (host := "") (Or.inl (wd hw 61 rfl)) Via.refl e0 Fz (g := (mkF m 1 #[rv a] [(.ref a)])) rfl rfl (hb hby d15_1)
  refine own_st (T' := T1) (g' := (mkF m 4 #[rv a] [(.int sz)])) st1 ?_
  clear st1
  exact own_retI X1 hx hret hlk (hb hby d15_4) (by decide) (by decide) ⟨rfl, N0, e1⟩
theorem own_no0 {Z : State} {a0 : Array Value} (hw : ∀ d ∈ tables_1, d.before a0 Z = true) : ∃ c t, Z.vm.findClass "java/util/ArrayList" = some c ∧ Z.vm.findClass "java/util/ImmutableCollections$List12" = some t ∧ Z.vm.assignable c t = false := own_NSno (wd hw 116 rfl) (wd hw 198 rfl) (NS.step (wd hw 116 rfl) (NS.step (wd hw 117 rfl) (NS.step (wd hw 118 rfl) (own_NSroot (wd hw 119 rfl) (wd hw 198 rfl) (by decide)) (by decide)) (by decide)) (by decide)) (by decide)
theorem own_no1 {Z : State} {a0 : Array Value} (hw : ∀ d ∈ tables_1, d.before a0 Z = true) : ∃ c t, Z.vm.findClass "java/util/ArrayList" = some c ∧ Z.vm.findClass "java/util/ImmutableCollections$ListN" = some t ∧ Z.vm.assignable c t = false := own_NSno (wd hw 116 rfl) (wd hw 171 rfl) (NS.step (wd hw 116 rfl) (NS.step (wd hw 117 rfl) (NS.step (wd hw 118 rfl) (own_NSroot (wd hw 119 rfl) (wd hw 171 rfl) (by decide)) (by decide)) (by decide)) (by decide)) (by decide)
theorem d28_0 : decode jdk_47_method_1_code 0 = .ok (.aload_n 0, 1) := by decide +kernel
theorem d28_1 : decode jdk_47_method_1_code 1 = .ok (.invokespecial 1, 3) := by decide +kernel
theorem d28_4 : decode jdk_47_method_1_code 4 = .ok (.return_, 1) := by decide +kernel
theorem pn_6 : plainName "java/util/ImmutableCollections$AbstractImmutableCollection" = true := by first | (simp [plainName, overriddenIn]; done) | decide +kernel
theorem ef_aici (m : MethodId) (x0 : Addr) : entryFrame m #[(.ref x0)] 1 = mkF m 0 #[rv x0] [] := by first | (simp [entryFrame, mkF, argsToLocals, Value.category]; done) | rfl
def Q_aici (Z : State) (x : Addr) (h0 : Heap) (n0 : Nat) (v : Option Value) (h : Heap) (L : List Loc) : Prop := (v = none) ∧ (Fr n0 L) ∧ (h = h0)
set_option maxRecDepth 65536 in
set_option maxHeartbeats 40000000 in
theorem rm_aici (l : Launch) (Z : State) (a0 : Array Value) (hw : ∀ d ∈ tables_1, d.before a0 Z = true) (ws : List Jvm.Cond) (x : Addr) (h0 : Heap) (n0 : Nat) (O0 : Old Z n0 h0) :
    own_MF l own_m15 (Jvm.Cond.code own_m15 jdk_47_method_1_code 1 none :: ws) ({ frames := 2, cells := 0, slots := 0, locals := 24 } : Room) #[(.ref x)] Z h0 (Q_aici Z x h0 n0) := by
  refine own_met (own := "java/util/ImmutableCollections$AbstractImmutableCollection") (nme := "<init>") rfl rfl (plainFor_of_name pn_6) ?_
  intro p e s m below meth c s₁ hx hby hml hown hnm X0 e0 hret hlk hZ
  have N0 := Fr.nil n0
  rw [ef_aici m x]
  refine own_st (T' := s₁) (g' := (mkF m 1 #[rv x] [(.ref x)])) (fun _ k_ => XS.aloadN X0.here hx rfl (hb hby d28_0) rfl rfl  k_) ?_
  obtain ⟨_, T1, L1, X1, hQ1, st1⟩ := own_callI X0 hx (y := own_m6) rfl hown (mvT hZ (wd hw 189 rfl)) (mvT hZ (wd hw 39 rfl)) (mvT hZ (wd hw 43 rfl)) (by decide) (backOf (W := 0) (rm_abci l Z a0 hw [] x h0 n0 O0) hZ (wd hw 43 rfl) (wd hw 42 rfl) (by decide) (by decide)) (g := (mkF m 1 #[rv x] [(.ref x)])) rfl (by rw [hml]; rfl) (a := x) (argsL := []) (rest := []) (lenOf pd___V rfl) rfl (by show 2 * 0 + _ ≤ _; exact Nat.le_of_eq rfl) (hb hby d28_1) rfl e0 (by decide) (by decide) (c' := 0) (s' := 0) rfl rfl
  obtain ⟨rfl, Nq1, eq1⟩ := hQ1
  have N1 := Fr.app N0 Nq1
  refine own_st (T' := T1) (g' := (mkF m 4 #[rv x] [])) st1 ?_
  clear st1
  exact own_retV X1 hx hret hlk (hb hby d28_4) (by decide) (by decide) ⟨rfl, N1, eq1⟩
theorem d27_0 : decode jdk_46_method_1_code 0 = .ok (.aload_n 0, 1) := by decide +kernel
theorem d27_1 : decode jdk_46_method_1_code 1 = .ok (.invokespecial 1, 3) := by decide +kernel
theorem d27_4 : decode jdk_46_method_1_code 4 = .ok (.return_, 1) := by decide +kernel
theorem pn_7 : plainName "java/util/ImmutableCollections$AbstractImmutableList" = true := by first | (simp [plainName, overriddenIn]; done) | decide +kernel
theorem ef_aili (m : MethodId) (x0 : Addr) : entryFrame m #[(.ref x0)] 1 = mkF m 0 #[rv x0] [] := by first | (simp [entryFrame, mkF, argsToLocals, Value.category]; done) | rfl
def Q_aili (Z : State) (x : Addr) (h0 : Heap) (n0 : Nat) (v : Option Value) (h : Heap) (L : List Loc) : Prop := (v = none) ∧ (Fr n0 L) ∧ (h = h0)
set_option maxRecDepth 65536 in
set_option maxHeartbeats 40000000 in
theorem rm_aili (l : Launch) (Z : State) (a0 : Array Value) (hw : ∀ d ∈ tables_1, d.before a0 Z = true) (ws : List Jvm.Cond) (x : Addr) (h0 : Heap) (n0 : Nat) (O0 : Old Z n0 h0) :
    own_MF l own_m16 (Jvm.Cond.code own_m16 jdk_46_method_1_code 1 none :: ws) ({ frames := 3, cells := 0, slots := 0, locals := 36 } : Room) #[(.ref x)] Z h0 (Q_aili Z x h0 n0) := by
  refine own_met (own := "java/util/ImmutableCollections$AbstractImmutableList") (nme := "<init>") rfl rfl (plainFor_of_name pn_7) ?_
  intro p e s m below meth c s₁ hx hby hml hown hnm X0 e0 hret hlk hZ
  have N0 := Fr.nil n0
  rw [ef_aili m x]
  refine own_st (T' := s₁) (g' := (mkF m 1 #[rv x] [(.ref x)])) (fun _ k_ => XS.aloadN X0.here hx rfl (hb hby d27_0) rfl rfl  k_) ?_
  obtain ⟨_, T1, L1, X1, hQ1, st1⟩ := own_callI X0 hx (y := own_m15) rfl hown (mvT hZ (wd hw 183 rfl)) (mvT hZ (wd hw 184 rfl)) (mvT hZ (wd hw 188 rfl)) (by decide) (backOf (W := 0) (rm_aici l Z a0 hw [] x h0 n0 O0) hZ (wd hw 188 rfl) (wd hw 187 rfl) (by decide) (by decide)) (g := (mkF m 1 #[rv x] [(.ref x)])) rfl (by rw [hml]; rfl) (a := x) (argsL := []) (rest := []) (lenOf pd___V rfl) rfl (by show 2 * 0 + _ ≤ _; exact Nat.le_of_eq rfl) (hb hby d27_1) rfl e0 (by decide) (by decide) (c' := 0) (s' := 0) rfl rfl
  obtain ⟨rfl, Nq1, eq1⟩ := hQ1
  have N1 := Fr.app N0 Nq1
  refine own_st (T' := T1) (g' := (mkF m 4 #[rv x] [])) st1 ?_
  clear st1
  exact own_retV X1 hx hret hlk (hb hby d27_4) (by decide) (by decide) ⟨rfl, N1, eq1⟩
theorem d25_0 : decode jdk_31_method_10_code 0 = .ok (.aload_n 0, 1) := by decide +kernel
theorem d25_1 : decode jdk_31_method_10_code 1 = .ok (.ifnonnull 11, 3) := by decide +kernel
theorem d25_12 : decode jdk_31_method_10_code 12 = .ok (.aload_n 0, 1) := by decide +kernel
theorem d25_13 : decode jdk_31_method_10_code 13 = .ok (.areturn, 1) := by decide +kernel
theorem pn_8 : plainName "java/util/Objects" = true := by first | (simp [plainName, overriddenIn]; done) | decide +kernel
theorem ef_rnn (m : MethodId) (x0 : Addr) : entryFrame m #[(.ref x0)] 1 = mkF m 0 #[rv x0] [] := by first | (simp [entryFrame, mkF, argsToLocals, Value.category]; done) | rfl
def Q_rnn (Z : State) (x : Addr) (h0 : Heap) (n0 : Nat) (v : Option Value) (h : Heap) (L : List Loc) : Prop := (v = some (.ref x)) ∧ (Fr n0 L) ∧ (h = h0)
set_option maxRecDepth 65536 in
set_option maxHeartbeats 40000000 in
theorem rm_rnn (l : Launch) (Z : State) (a0 : Array Value) (hw : ∀ d ∈ tables_1, d.before a0 Z = true) (ws : List Jvm.Cond) (x : Addr) (h0 : Heap) (n0 : Nat) (O0 : Old Z n0 h0) :
    own_MF l own_m17 (Jvm.Cond.code own_m17 jdk_31_method_10_code 1 (some (.object "java/lang/Object")) :: ws) ({ frames := 0, cells := 0, slots := 0, locals := 0 } : Room) #[(.ref x)] Z h0 (Q_rnn Z x h0 n0) := by
  refine own_met (own := "java/util/Objects") (nme := "requireNonNull") rfl rfl (plainFor_of_name pn_8) ?_
  intro p e s m below meth c s₁ hx hby hml hown hnm X0 e0 hret hlk hZ
  have N0 := Fr.nil n0
  rw [ef_rnn m x]
  refine own_st (T' := s₁) (g' := (mkF m 1 #[rv x] [(.ref x)])) (fun _ k_ => XS.aloadN X0.here hx rfl (hb hby d25_0) rfl rfl  k_) ?_
  refine own_st (T' := s₁) (g' := (mkF m 12 #[rv x] [])) (fun _ k_ => XS.ifnonnullYes X0.here hx rfl (pc0 := 1) (pc' := 12) rfl (hb hby d25_1) rfl (by decide) (by decide) k_) ?_
  refine own_st (T' := s₁) (g' := (mkF m 13 #[rv x] [(.ref x)])) (fun _ k_ => XS.aloadN X0.here hx rfl (hb hby d25_12) rfl rfl  k_) ?_
  exact own_retA X0 hx hret rfl rfl hlk (hb hby d25_13) (by decide) (by decide) ⟨rfl, N0, e0⟩
theorem d22_0 : decode jdk_29_method_69_code 0 = .ok (.iload_n 0, 1) := by decide +kernel
theorem d22_1 : decode jdk_29_method_69_code 1 = .ok (.iload_n 1, 1) := by decide +kernel
theorem d22_2 : decode jdk_29_method_69_code 2 = .ok (.if_icmp .gt 7, 3) := by decide +kernel
theorem d22_9 : decode jdk_29_method_69_code 9 = .ok (.iload_n 1, 1) := by decide +kernel
theorem d22_10 : decode jdk_29_method_69_code 10 = .ok (.ireturn, 1) := by decide +kernel
theorem ef_min (m : MethodId) (x0 : Int32) (x1 : Int32) : entryFrame m #[(.int x0), (.int x1)] 2 = mkF m 0 #[iv x0, iv x1] [] := by first | (simp [entryFrame, mkF, argsToLocals, Value.category]; done) | rfl
def Q_min (Z : State) (xx : Int32) (yy : Int32) (h0 : Heap) (n0 : Nat) (v : Option Value) (h : Heap) (L : List Loc) : Prop := (v = some (.int yy)) ∧ (Fr n0 L) ∧ (h = h0)
set_option maxRecDepth 65536 in
set_option maxHeartbeats 40000000 in
theorem rm_min (l : Launch) (Z : State) (a0 : Array Value) (hw : ∀ d ∈ tables_1, d.before a0 Z = true) (ws : List Jvm.Cond) (xx : Int32) (yy : Int32) (h0 : Heap) (n0 : Nat) (O0 : Old Z n0 h0) (hmin : yy < xx) :
    own_MF l own_m18 (Jvm.Cond.code own_m18 jdk_29_method_69_code 2 (some .int) :: ws) ({ frames := 0, cells := 0, slots := 0, locals := 0 } : Room) #[(.int xx), (.int yy)] Z h0 (Q_min Z xx yy h0 n0) := by
  refine own_met (own := "java/lang/Math") (nme := "min") rfl rfl (Jvm.Free.JP.mathPlain rfl (by decide +kernel)) ?_
  intro p e s m below meth c s₁ hx hby hml hown hnm X0 e0 hret hlk hZ
  have N0 := Fr.nil n0
  rw [ef_min m xx yy]
  refine own_st (T' := s₁) (g' := (mkF m 1 #[iv xx, iv yy] [(.int xx)])) (fun _ k_ => XS.iloadN X0.here hx rfl (hb hby d22_0) rfl  k_) ?_
  refine own_st (T' := s₁) (g' := (mkF m 2 #[iv xx, iv yy] [(.int yy), (.int xx)])) (fun _ k_ => XS.iloadN X0.here hx rfl (hb hby d22_1) rfl  k_) ?_
  refine own_st (T' := s₁) (g' := (mkF m 9 #[iv xx, iv yy] [])) (fun _ k_ => XS.icmpYes X0.here hx rfl (pc0 := 2) (pc' := 9) rfl (hb hby d22_2) rfl (tlt (hmin : yy < xx)).2.2.1 (by decide) (by decide) k_) ?_
  refine own_st (T' := s₁) (g' := (mkF m 10 #[iv xx, iv yy] [(.int yy)])) (fun _ k_ => XS.iloadN X0.here hx rfl (hb hby d22_9) rfl  k_) ?_
  exact own_retI X0 hx hret hlk (hb hby d22_10) (by decide) (by decide) ⟨rfl, N0, e0⟩
theorem d18_0 : decode jdk_38_method_9_code 0 = .ok (.aload_n 0, 1) := by decide +kernel
theorem d18_1 : decode jdk_38_method_9_code 1 = .ok (.getfield 48, 3) := by decide +kernel
theorem d18_4 : decode jdk_38_method_9_code 4 = .ok (.ifCond .ne 7, 3) := by decide +kernel
theorem d18_11 : decode jdk_38_method_9_code 11 = .ok (.iconst 0, 1) := by decide +kernel
theorem d18_12 : decode jdk_38_method_9_code 12 = .ok (.ireturn, 1) := by decide +kernel
theorem ef_alem (m : MethodId) (x0 : Addr) : entryFrame m #[(.ref x0)] 1 = mkF m 0 #[rv x0] [] := by first | (simp [entryFrame, mkF, argsToLocals, Value.category]; done) | rfl
def Q_alem (Z : State) (a : Addr) (sz : Int32) (h0 : Heap) (n0 : Nat) (v : Option Value) (h : Heap) (L : List Loc) : Prop := (v = some (.int (0 : Int32))) ∧ (Fr n0 L) ∧ (h = h0)
set_option maxRecDepth 65536 in
set_option maxHeartbeats 40000000 in
theorem rm_alem (l : Launch) (Z : State) (a0 : Array Value) (hw : ∀ d ∈ tables_1, d.before a0 Z = true) (ws : List Jvm.Cond) (a : Addr) (sz : Int32) (h0 : Heap) (n0 : Nat) (O0 : Old Z n0 h0) (Fz : Fld Z h0 a "java/util/ArrayList" "size" "I" (.int sz)) (hz : ¬ sz = (0 : Int32)) :
    own_MF l own_m19 (Jvm.Cond.code own_m19 jdk_38_method_9_code 1 (some .boolean) :: ws) ({ frames := 0, cells := 0, slots := 0, locals := 0 } : Room) #[(.ref a)] Z h0 (Q_alem Z a sz h0 n0) := by
  refine own_met (own := "java/util/ArrayList") (nme := "isEmpty") rfl rfl (plainFor_of_name pn_5) ?_
  intro p e s m below meth c s₁ hx hby hml hown hnm X0 e0 hret hlk hZ
  have N0 := Fr.nil n0
  rw [ef_alem m a]
  refine own_st (T' := s₁) (g' := (mkF m 1 #[rv a] [(.ref a)])) (fun _ k_ => XS.aloadN X0.here hx rfl (hb hby d18_0) rfl rfl  k_) ?_
  obtain ⟨T1, X1, e1, st1⟩ := getF X0 hx hZ hown (host := "") (Or.inl (wd hw 61 rfl)) Via.refl e0 Fz (g := (mkF m 1 #[rv a] [(.ref a)])) rfl rfl (hb hby d18_1)
  refine own_st (T' := T1) (g' := (mkF m 4 #[rv a] [(.int sz)])) st1 ?_
  clear st1
  refine own_st (T' := T1) (g' := (mkF m 11 #[rv a] [])) (fun _ k_ => XS.ifYes X1.here hx rfl (pc0 := 4) (pc' := 11) rfl (hb hby d18_4) rfl ((if0 _ _).trans (feq (hz : ¬ (sz = (0 : Int32)))).2) (by decide) (by decide) k_) ?_
  refine own_st (T' := T1) (g' := (mkF m 12 #[rv a] [(.int (0 : Int32))])) (fun _ k_ => XS.iconst X1.here hx rfl (hb hby d18_11) k_) ?_
  exact own_retN X1 hx (t := .boolean) hret (by simp) hlk (hb hby d18_12) (by decide) (by decide) ⟨rfl, N0, e1⟩
theorem d29_0 : decode jdk_44_method_2_code 0 = .ok (.aload_n 0, 1) := by decide +kernel
theorem d29_1 : decode jdk_44_method_2_code 1 = .ok (.invokespecial 1, 3) := by decide +kernel
theorem d29_4 : decode jdk_44_method_2_code 4 = .ok (.aload_n 0, 1) := by decide +kernel
theorem d29_5 : decode jdk_44_method_2_code 5 = .ok (.aload_n 1, 1) := by decide +kernel
theorem d29_6 : decode jdk_44_method_2_code 6 = .ok (.invokestatic 7, 3) := by decide +kernel
theorem d29_9 : decode jdk_44_method_2_code 9 = .ok (.putfield 13, 3) := by decide +kernel
theorem d29_12 : decode jdk_44_method_2_code 12 = .ok (.aload_n 0, 1) := by decide +kernel
theorem d29_13 : decode jdk_44_method_2_code 13 = .ok (.aload_n 2, 1) := by decide +kernel
theorem d29_14 : decode jdk_44_method_2_code 14 = .ok (.invokestatic 7, 3) := by decide +kernel
theorem d29_17 : decode jdk_44_method_2_code 17 = .ok (.putfield 24, 3) := by decide +kernel
theorem d29_20 : decode jdk_44_method_2_code 20 = .ok (.return_, 1) := by decide +kernel
theorem pd__Ljava_lang_Object__Ljava_lang_Object_ : parseMethodDescriptor "(Ljava/lang/Object;)Ljava/lang/Object;" = some ⟨[(.object "java/lang/Object")], some (.object "java/lang/Object")⟩ := by decide +kernel
theorem pn_9 : plainName "java/util/ImmutableCollections$List12" = true := by first | (simp [plainName, overriddenIn]; done) | decide +kernel
theorem ef_l12b (m : MethodId) (x0 : Addr) (x1 : Addr) (x2 : Addr) : entryFrame m #[(.ref x0), (.ref x1), (.ref x2)] 3 = mkF m 0 #[rv x0, rv x1, rv x2] [] := by first | (simp [entryFrame, mkF, argsToLocals, Value.category]; done) | rfl
def Q_l12b (Z : State) (x : Addr) (p0 : Addr) (p1 : Addr) (h0 : Heap) (n0 : Nat) (v : Option Value) (h : Heap) (L : List Loc) : Prop := (v = none) ∧ (Fr n0 L) ∧ (Keep h0 h [x]) ∧ (Exa Z h x "java/util/ImmutableCollections$List12") ∧ (Fld Z h x "java/util/ImmutableCollections$List12" "e0" "Ljava/lang/Object;" (.ref p0)) ∧ (Fld Z h x "java/util/ImmutableCollections$List12" "e1" "Ljava/lang/Object;" (.ref p1))
set_option maxRecDepth 65536 in
set_option maxHeartbeats 40000000 in
theorem rm_l12b (l : Launch) (Z : State) (a0 : Array Value) (hw : ∀ d ∈ tables_1, d.before a0 Z = true) (ws : List Jvm.Cond) (x : Addr) (p0 : Addr) (p1 : Addr) (h0 : Heap) (n0 : Nat) (O0 : Old Z n0 h0) (P0 : Exa Z h0 x "java/util/ImmutableCollections$List12") (P1 : Fld Z h0 x "java/util/ImmutableCollections$List12" "e0" "Ljava/lang/Object;" .null) (P2 : Fld Z h0 x "java/util/ImmutableCollections$List12" "e1" "Ljava/lang/Object;" .null) (fx : n0 ≤ x) :
    own_MF l own_m20 (Jvm.Cond.code own_m20 jdk_44_method_2_code 3 none :: ws) ({ frames := 4, cells := 0, slots := 0, locals := 48 } : Room) #[(.ref x), (.ref p0), (.ref p1)] Z h0 (Q_l12b Z x p0 p1 h0 n0) := by
  refine own_met (own := "java/util/ImmutableCollections$List12") (nme := "<init>") rfl rfl (plainFor_of_name pn_9) ?_
  intro p e s m below meth c s₁ hx hby hml hown hnm X0 e0 hret hlk hZ
  have N0 := Fr.nil n0
  rw [ef_l12b m x p0 p1]
  refine own_st (T' := s₁) (g' := (mkF m 1 #[rv x, rv p0, rv p1] [(.ref x)])) (fun _ k_ => XS.aloadN X0.here hx rfl (hb hby d29_0) rfl rfl  k_) ?_
  obtain ⟨_, T1, L1, X1, hQ1, st1⟩ := own_callI X0 hx (y := own_m16) rfl hown (mvT hZ (wd hw 204 rfl)) (mvT hZ (wd hw 178 rfl)) (mvT hZ (wd hw 182 rfl)) (by decide) (backOf (W := 0) (rm_aili l Z a0 hw [] x h0 n0 O0) hZ (wd hw 182 rfl) (wd hw 181 rfl) (by decide) (by decide)) (g := (mkF m 1 #[rv x, rv p0, rv p1] [(.ref x)])) rfl (by rw [hml]; rfl) (a := x) (argsL := []) (rest := []) (lenOf pd___V rfl) rfl (by show 2 * 0 + _ ≤ _; exact Nat.le_of_eq rfl) (hb hby d29_1) rfl e0 (by decide) (by decide) (c' := 0) (s' := 0) rfl rfl
  obtain ⟨rfl, Nq1, eq1⟩ := hQ1
  have N1 := Fr.app N0 Nq1
  refine own_st (T' := T1) (g' := (mkF m 4 #[rv x, rv p0, rv p1] [])) st1 ?_
  clear st1
  refine own_st (T' := T1) (g' := (mkF m 5 #[rv x, rv p0, rv p1] [(.ref x)])) (fun _ k_ => XS.aloadN X1.here hx rfl (hb hby d29_4) rfl rfl  k_) ?_
  refine own_st (T' := T1) (g' := (mkF m 6 #[rv x, rv p0, rv p1] [(.ref p0), (.ref x)])) (fun _ k_ => XS.aloadN X1.here hx rfl (hb hby d29_5) rfl rfl  k_) ?_
  obtain ⟨_, T2, L2, X2, hQ2, st2⟩ := own_callS X1 hx (y := own_m17) hown (mvT hZ (wd hw 208 rfl)) (mvT hZ (wd hw 168 rfl)) (mvT hZ (wd hw 169 rfl)) (mvT hZ (wd hw 170 rfl)) (by decide) (backOf (W := 1) (rm_rnn l Z a0 hw [] p0 h0 n0 O0) hZ (wd hw 170 rfl) (wd hw 169 rfl) (by decide) (by decide)) (g := (mkF m 6 #[rv x, rv p0, rv p1] [(.ref p0), (.ref x)])) rfl (by rw [hml]; rfl) (argsL := [(.ref p0)]) (rest := [(.ref x)]) (lenOf pd__Ljava_lang_Object__Ljava_lang_Object_ rfl) rfl (by show 2 * 0 + _ ≤ _; exact Nat.le_of_eq rfl) (hb hby d29_6) rfl eq1 (by decide) (by decide) (c' := 0) (s' := 0) rfl rfl
  obtain ⟨rfl, Nq2, eq2⟩ := hQ2
  have N2 := Fr.app N1 Nq2
  refine own_st (T' := T2) (g' := (mkF m 9 #[rv x, rv p0, rv p1] [(.ref p0), (.ref x)])) st2 ?_
  clear st2
  obtain ⟨T3, h3, X3, e3, W3, st3⟩ := putF X2 hx hZ hown (host := "") (Or.inl (wd hw 209 rfl)) Via.refl eq2 P1 P0 (Or.inr ⟨(wd hw 210 rfl), rfl, hnm⟩) (wd hw 198 rfl) (ty := (.object "java/lang/Object")) (by decide) rfl rfl (g := (mkF m 9 #[rv x, rv p0, rv p1] [(.ref p0), (.ref x)])) rfl rfl (hb hby d29_9)
  have Fw3 : Fld Z h3 x "java/util/ImmutableCollections$List12" "e0" "Ljava/lang/Object;" (.ref p0) := Fld.same W3 P1
  have N3 := Fr.snoc X3 N2 fx
  refine own_st (T' := T3) (g' := (mkF m 12 #[rv x, rv p0, rv p1] [])) st3 ?_
  clear st3
  refine own_st (T' := T3) (g' := (mkF m 13 #[rv x, rv p0, rv p1] [(.ref x)])) (fun _ k_ => XS.aloadN X3.here hx rfl (hb hby d29_12) rfl rfl  k_) ?_
  refine own_st (T' := T3) (g' := (mkF m 14 #[rv x, rv p0, rv p1] [(.ref p1), (.ref x)])) (fun _ k_ => XS.aloadN X3.here hx rfl (hb hby d29_13) rfl rfl  k_) ?_
  have f4 := O0.wr W3 fx
  obtain ⟨_, T5, L5, X5, hQ5, st5⟩ := own_callS X3 hx (y := own_m17) hown (mvT hZ (wd hw 208 rfl)) (mvT hZ (wd hw 168 rfl)) (mvT hZ (wd hw 169 rfl)) (mvT hZ (wd hw 170 rfl)) (by decide) (backOf (W := 1) (rm_rnn l Z a0 hw [] p1 h3 n0 f4) hZ (wd hw 170 rfl) (wd hw 169 rfl) (by decide) (by decide)) (g := (mkF m 14 #[rv x, rv p0, rv p1] [(.ref p1), (.ref x)])) rfl (by rw [hml]; rfl) (argsL := [(.ref p1)]) (rest := [(.ref x)]) (lenOf pd__Ljava_lang_Object__Ljava_lang_Object_ rfl) rfl (by show 2 * 0 + _ ≤ _; exact Nat.le_of_eq rfl) (hb hby d29_14) rfl e3 (by decide) (by decide) (c' := 0) (s' := 0) rfl rfl
  obtain ⟨rfl, Nq5, eq5⟩ := hQ5
  have N5 := Fr.app N3 Nq5
  refine own_st (T' := T5) (g' := (mkF m 17 #[rv x, rv p0, rv p1] [(.ref p1), (.ref x)])) st5 ?_
  clear st5
  have f6 := P0.wr W3
  have f7 := P2.other W3 (Or.inr (slot_ne (Or.inr (wd hw 212 rfl)) (Or.inr (wd hw 210 rfl)) (by decide) (t := (.object "java/lang/Object")) (t' := (.object "java/lang/Object")) (by decide) (by decide)))
  obtain ⟨T8, h8, X8, e8, W8, st8⟩ := putF X5 hx hZ hown (host := "") (Or.inl (wd hw 211 rfl)) Via.refl eq5 f7 f6 (Or.inr ⟨(wd hw 212 rfl), rfl, hnm⟩) (wd hw 198 rfl) (ty := (.object "java/lang/Object")) (by decide) rfl rfl (g := (mkF m 17 #[rv x, rv p0, rv p1] [(.ref p1), (.ref x)])) rfl rfl (hb hby d29_17)
  have Fw8 : Fld Z h8 x "java/util/ImmutableCollections$List12" "e1" "Ljava/lang/Object;" (.ref p1) := Fld.same W8 f7
  have N8 := Fr.snoc X8 N5 fx
  refine own_st (T' := T8) (g' := (mkF m 20 #[rv x, rv p0, rv p1] [])) st8 ?_
  clear st8
  have f9 := (Keep.refl h0 [x]).wr W3 (Or.inl (List.mem_of_getElem? (i := 0) rfl))
  have f10 := f9.wr W8 (Or.inl (List.mem_of_getElem? (i := 0) rfl))
  have f11 := f6.wr W8
  have f12 := Fw3.other W8 (Or.inr (slot_ne (Or.inr (wd hw 210 rfl)) (Or.inr (wd hw 212 rfl)) (by decide) (t := (.object "java/lang/Object")) (t' := (.object "java/lang/Object")) (by decide) (by decide)))
  exact own_retV X8 hx hret hlk (hb hby d29_20) (by decide) (by decide) (by rw [e8]; exact ⟨rfl, N8, f10, f11, f12, Fw8⟩)
theorem d33_0 : decode jdk_44_method_1_code 0 = .ok (.aload_n 0, 1) := by decide +kernel
theorem d33_1 : decode jdk_44_method_1_code 1 = .ok (.invokespecial 1, 3) := by decide +kernel
theorem d33_4 : decode jdk_44_method_1_code 4 = .ok (.aload_n 0, 1) := by decide +kernel
theorem d33_5 : decode jdk_44_method_1_code 5 = .ok (.aload_n 1, 1) := by decide +kernel
theorem d33_6 : decode jdk_44_method_1_code 6 = .ok (.invokestatic 7, 3) := by decide +kernel
theorem d33_9 : decode jdk_44_method_1_code 9 = .ok (.putfield 13, 3) := by decide +kernel
theorem d33_12 : decode jdk_44_method_1_code 12 = .ok (.aload_n 0, 1) := by decide +kernel
theorem d33_13 : decode jdk_44_method_1_code 13 = .ok (.getstatic 19, 3) := by decide +kernel
theorem d33_16 : decode jdk_44_method_1_code 16 = .ok (.putfield 24, 3) := by decide +kernel
theorem d33_19 : decode jdk_44_method_1_code 19 = .ok (.return_, 1) := by decide +kernel
theorem ef_l12a (m : MethodId) (x0 : Addr) (x1 : Addr) : entryFrame m #[(.ref x0), (.ref x1)] 2 = mkF m 0 #[rv x0, rv x1] [] := by first | (simp [entryFrame, mkF, argsToLocals, Value.category]; done) | rfl
def Q_l12a (Z : State) (x : Addr) (p0 : Addr) (em : Addr) (h0 : Heap) (n0 : Nat) (v : Option Value) (h : Heap) (L : List Loc) : Prop := (v = none) ∧ (Fr n0 L) ∧ (Keep h0 h [x]) ∧ (Exa Z h x "java/util/ImmutableCollections$List12") ∧ (Fld Z h x "java/util/ImmutableCollections$List12" "e0" "Ljava/lang/Object;" (.ref p0)) ∧ (Fld Z h x "java/util/ImmutableCollections$List12" "e1" "Ljava/lang/Object;" (.ref em))
set_option maxRecDepth 65536 in
set_option maxHeartbeats 40000000 in
theorem rm_l12a (l : Launch) (Z : State) (a0 : Array Value) (hw : ∀ d ∈ tables_1, d.before a0 Z = true) (ws : List Jvm.Cond) (x : Addr) (p0 : Addr) (em : Addr) (h0 : Heap) (n0 : Nat) (O0 : Old Z n0 h0) (P0 : Exa Z h0 x "java/util/ImmutableCollections$List12") (P1 : Fld Z h0 x "java/util/ImmutableCollections$List12" "e0" "Ljava/lang/Object;" .null) (P2 : Fld Z h0 x "java/util/ImmutableCollections$List12" "e1" "Ljava/lang/Object;" .null) (fx : n0 ≤ x) (SEm : Sta Z Z.heap "java/util/ImmutableCollections" "EMPTY" "Ljava/lang/Object;" (.ref em)) :
    own_MF l own_m21 (Jvm.Cond.code own_m21 jdk_44_method_1_code 2 none :: ws) ({ frames := 4, cells := 0, slots := 0, locals := 48 } : Room) #[(.ref x), (.ref p0)] Z h0 (Q_l12a Z x p0 em h0 n0) := by
  refine own_met (own := "java/util/ImmutableCollections$List12") (nme := "<init>") rfl rfl (plainFor_of_name pn_9) ?_
  intro p e s m below meth c s₁ hx hby hml hown hnm X0 e0 hret hlk hZ
  have N0 := Fr.nil n0
  rw [ef_l12a m x p0]
  refine own_st (T' := s₁) (g' := (mkF m 1 #[rv x, rv p0] [(.ref x)])) (fun _ k_ => XS.aloadN X0.here hx rfl (hb hby d33_0) rfl rfl  k_) ?_
  obtain ⟨_, T1, L1, X1, hQ1, st1⟩ := own_callI X0 hx (y := own_m16) rfl hown (mvT hZ (wd hw 204 rfl)) (mvT hZ (wd hw 178 rfl)) (mvT hZ (wd hw 182 rfl)) (by decide) (backOf (W := 0) (rm_aili l Z a0 hw [] x h0 n0 O0) hZ (wd hw 182 rfl) (wd hw 181 rfl) (by decide) (by decide)) (g := (mkF m 1 #[rv x, rv p0] [(.ref x)])) rfl (by rw [hml]; rfl) (a := x) (argsL := []) (rest := []) (lenOf pd___V rfl) rfl (by show 2 * 0 + _ ≤ _; exact Nat.le_of_eq rfl) (hb hby d33_1) rfl e0 (by decide) (by decide) (c' := 0) (s' := 0) rfl rfl
  obtain ⟨rfl, Nq1, eq1⟩ := hQ1
  have N1 := Fr.app N0 Nq1
  refine own_st (T' := T1) (g' := (mkF m 4 #[rv x, rv p0] [])) st1 ?_
  clear st1
  refine own_st (T' := T1) (g' := (mkF m 5 #[rv x, rv p0] [(.ref x)])) (fun _ k_ => XS.aloadN X1.here hx rfl (hb hby d33_4) rfl rfl  k_) ?_
  refine own_st (T' := T1) (g' := (mkF m 6 #[rv x, rv p0] [(.ref p0), (.ref x)])) (fun _ k_ => XS.aloadN X1.here hx rfl (hb hby d33_5) rfl rfl  k_) ?_
  obtain ⟨_, T2, L2, X2, hQ2, st2⟩ := own_callS X1 hx (y := own_m17) hown (mvT hZ (wd hw 208 rfl)) (mvT hZ (wd hw 168 rfl)) (mvT hZ (wd hw 169 rfl)) (mvT hZ (wd hw 170 rfl)) (by decide) (backOf (W := 1) (rm_rnn l Z a0 hw [] p0 h0 n0 O0) hZ (wd hw 170 rfl) (wd hw 169 rfl) (by decide) (by decide)) (g := (mkF m 6 #[rv x, rv p0] [(.ref p0), (.ref x)])) rfl (by rw [hml]; rfl) (argsL := [(.ref p0)]) (rest := [(.ref x)]) (lenOf pd__Ljava_lang_Object__Ljava_lang_Object_ rfl) rfl (by show 2 * 0 + _ ≤ _; exact Nat.le_of_eq rfl) (hb hby d33_6) rfl eq1 (by decide) (by decide) (c' := 0) (s' := 0) rfl rfl
  obtain ⟨rfl, Nq2, eq2⟩ := hQ2
  have N2 := Fr.app N1 Nq2
  refine own_st (T' := T2) (g' := (mkF m 9 #[rv x, rv p0] [(.ref p0), (.ref x)])) st2 ?_
  clear st2
  obtain ⟨T3, h3, X3, e3, W3, st3⟩ := putF X2 hx hZ hown (host := "") (Or.inl (wd hw 209 rfl)) Via.refl eq2 P1 P0 (Or.inr ⟨(wd hw 210 rfl), rfl, hnm⟩) (wd hw 198 rfl) (ty := (.object "java/lang/Object")) (by decide) rfl rfl (g := (mkF m 9 #[rv x, rv p0] [(.ref p0), (.ref x)])) rfl rfl (hb hby d33_9)
  have Fw3 : Fld Z h3 x "java/util/ImmutableCollections$List12" "e0" "Ljava/lang/Object;" (.ref p0) := Fld.same W3 P1
  have N3 := Fr.snoc X3 N2 fx
  refine own_st (T' := T3) (g' := (mkF m 12 #[rv x, rv p0] [])) st3 ?_
  clear st3
  refine own_st (T' := T3) (g' := (mkF m 13 #[rv x, rv p0] [(.ref x)])) (fun _ k_ => XS.aloadN X3.here hx rfl (hb hby d33_12) rfl rfl  k_) ?_
  have f4 := O0.wr W3 fx
  obtain ⟨T5, X5, e5, st5⟩ := getS2 X3 hx hZ hown (Or.inr (wd hw 240 rfl)) Via.refl e3 (SEm.ext f4.2) (g := (mkF m 13 #[rv x, rv p0] [(.ref x)])) rfl (hb hby d33_13)
  refine own_st (T' := T5) (g' := (mkF m 16 #[rv x, rv p0] [(.ref em), (.ref x)])) st5 ?_
  clear st5
  have f6 := P0.wr W3
  have f7 := P2.other W3 (Or.inr (slot_ne (Or.inr (wd hw 212 rfl)) (Or.inr (wd hw 210 rfl)) (by decide) (t := (.object "java/lang/Object")) (t' := (.object "java/lang/Object")) (by decide) (by decide)))
  obtain ⟨T8, h8, X8, e8, W8, st8⟩ := putF X5 hx hZ hown (host := "") (Or.inl (wd hw 211 rfl)) Via.refl e5 f7 f6 (Or.inr ⟨(wd hw 212 rfl), rfl, hnm⟩) (wd hw 198 rfl) (ty := (.object "java/lang/Object")) (by decide) rfl rfl (g := (mkF m 16 #[rv x, rv p0] [(.ref em), (.ref x)])) rfl rfl (hb hby d33_16)
  have Fw8 : Fld Z h8 x "java/util/ImmutableCollections$List12" "e1" "Ljava/lang/Object;" (.ref em) := Fld.same W8 f7
  have N8 := Fr.snoc X8 N3 fx
  refine own_st (T' := T8) (g' := (mkF m 19 #[rv x, rv p0] [])) st8 ?_
  clear st8
  have f9 := (Keep.refl h0 [x]).wr W3 (Or.inl (List.mem_of_getElem? (i := 0) rfl))
  have f10 := f9.wr W8 (Or.inl (List.mem_of_getElem? (i := 0) rfl))
  have f11 := f6.wr W8
  have f12 := Fw3.other W8 (Or.inr (slot_ne (Or.inr (wd hw 210 rfl)) (Or.inr (wd hw 212 rfl)) (by decide) (t := (.object "java/lang/Object")) (t' := (.object "java/lang/Object")) (by decide) (by decide)))
  exact own_retV X8 hx hret hlk (hb hby d33_19) (by decide) (by decide) (by rw [e8]; exact ⟨rfl, N8, f10, f11, f12, Fw8⟩)
theorem d26_0 : decode jdk_45_method_1_code 0 = .ok (.aload_n 0, 1) := by decide +kernel
theorem d26_1 : decode jdk_45_method_1_code 1 = .ok (.invokespecial 1, 3) := by decide +kernel
theorem d26_4 : decode jdk_45_method_1_code 4 = .ok (.aload_n 0, 1) := by decide +kernel
theorem d26_5 : decode jdk_45_method_1_code 5 = .ok (.aload_n 1, 1) := by decide +kernel
theorem d26_6 : decode jdk_45_method_1_code 6 = .ok (.putfield 7, 3) := by decide +kernel
theorem d26_9 : decode jdk_45_method_1_code 9 = .ok (.aload_n 0, 1) := by decide +kernel
theorem d26_10 : decode jdk_45_method_1_code 10 = .ok (.iload_n 2, 1) := by decide +kernel
theorem d26_11 : decode jdk_45_method_1_code 11 = .ok (.putfield 13, 3) := by decide +kernel
theorem d26_14 : decode jdk_45_method_1_code 14 = .ok (.return_, 1) := by decide +kernel
theorem pn_10 : plainName "java/util/ImmutableCollections$ListN" = true := by first | (simp [plainName, overriddenIn]; done) | decide +kernel
theorem ef_lni (m : MethodId) (x0 : Addr) (x1 : Addr) (x2 : Int32) : entryFrame m #[(.ref x0), (.ref x1), (.int x2)] 3 = mkF m 0 #[rv x0, rv x1, iv x2] [] := by first | (simp [entryFrame, mkF, argsToLocals, Value.category]; done) | rfl
def Q_lni (Z : State) (x : Addr) (u : Addr) (h0 : Heap) (n0 : Nat) (v : Option Value) (h : Heap) (L : List Loc) : Prop := (v = none) ∧ (Fr n0 L) ∧ (Keep h0 h [x]) ∧ (Exa Z h x "java/util/ImmutableCollections$ListN") ∧ (Fld Z h x "java/util/ImmutableCollections$ListN" "elements" "[Ljava/lang/Object;" (.ref u)) ∧ (Fld Z h x "java/util/ImmutableCollections$ListN" "allowNulls" "Z" (.int (0 : Int32)))
set_option maxRecDepth 65536 in
set_option maxHeartbeats 40000000 in
theorem rm_lni (l : Launch) (Z : State) (a0 : Array Value) (hw : ∀ d ∈ tables_1, d.before a0 Z = true) (ws : List Jvm.Cond) (x : Addr) (u : Addr) (h0 : Heap) (n0 : Nat) (O0 : Old Z n0 h0) (P0 : Exa Z h0 x "java/util/ImmutableCollections$ListN") (P1 : Fld Z h0 x "java/util/ImmutableCollections$ListN" "elements" "[Ljava/lang/Object;" .null) (P2 : Fld Z h0 x "java/util/ImmutableCollections$ListN" "allowNulls" "Z" (.int (0 : Int32))) (fx : n0 ≤ x) :
    own_MF l own_m22 (Jvm.Cond.code own_m22 jdk_45_method_1_code 3 none :: ws) ({ frames := 4, cells := 0, slots := 0, locals := 48 } : Room) #[(.ref x), (.ref u), (.int (0 : Int32))] Z h0 (Q_lni Z x u h0 n0) := by
  refine own_met (own := "java/util/ImmutableCollections$ListN") (nme := "<init>") rfl rfl (plainFor_of_name pn_10) ?_
  intro p e s m below meth c s₁ hx hby hml hown hnm X0 e0 hret hlk hZ
  have N0 := Fr.nil n0
  rw [ef_lni m x u (0 : Int32)]
  refine own_st (T' := s₁) (g' := (mkF m 1 #[rv x, rv u, iv (0 : Int32)] [(.ref x)])) (fun _ k_ => XS.aloadN X0.here hx rfl (hb hby d26_0) rfl rfl  k_) ?_
  obtain ⟨_, T1, L1, X1, hQ1, st1⟩ := own_callI X0 hx (y := own_m16) rfl hown (mvT hZ (wd hw 177 rfl)) (mvT hZ (wd hw 178 rfl)) (mvT hZ (wd hw 182 rfl)) (by decide) (backOf (W := 0) (rm_aili l Z a0 hw [] x h0 n0 O0) hZ (wd hw 182 rfl) (wd hw 181 rfl) (by decide) (by decide)) (g := (mkF m 1 #[rv x, rv u, iv (0 : Int32)] [(.ref x)])) rfl (by rw [hml]; rfl) (a := x) (argsL := []) (rest := []) (lenOf pd___V rfl) rfl (by show 2 * 0 + _ ≤ _; exact Nat.le_of_eq rfl) (hb hby d26_1) rfl e0 (by decide) (by decide) (c' := 0) (s' := 0) rfl rfl
  obtain ⟨rfl, Nq1, eq1⟩ := hQ1
  have N1 := Fr.app N0 Nq1
  refine own_st (T' := T1) (g' := (mkF m 4 #[rv x, rv u, iv (0 : Int32)] [])) st1 ?_
  clear st1
  refine own_st (T' := T1) (g' := (mkF m 5 #[rv x, rv u, iv (0 : Int32)] [(.ref x)])) (fun _ k_ => XS.aloadN X1.here hx rfl (hb hby d26_4) rfl rfl  k_) ?_
  refine own_st (T' := T1) (g' := (mkF m 6 #[rv x, rv u, iv (0 : Int32)] [(.ref u), (.ref x)])) (fun _ k_ => XS.aloadN X1.here hx rfl (hb hby d26_5) rfl rfl  k_) ?_
  obtain ⟨T2, h2, X2, e2, W2, st2⟩ := putF X1 hx hZ hown (host := "") (Or.inl (wd hw 191 rfl)) Via.refl eq1 P1 P0 (Or.inr ⟨(wd hw 192 rfl), rfl, hnm⟩) (wd hw 171 rfl) (ty := (.array (.object "java/lang/Object"))) (by decide) rfl rfl (g := (mkF m 6 #[rv x, rv u, iv (0 : Int32)] [(.ref u), (.ref x)])) rfl rfl (hb hby d26_6)
  have Fw2 : Fld Z h2 x "java/util/ImmutableCollections$ListN" "elements" "[Ljava/lang/Object;" (.ref u) := Fld.same W2 P1
  have N2 := Fr.snoc X2 N1 fx
  refine own_st (T' := T2) (g' := (mkF m 9 #[rv x, rv u, iv (0 : Int32)] [])) st2 ?_
  clear st2
  refine own_st (T' := T2) (g' := (mkF m 10 #[rv x, rv u, iv (0 : Int32)] [(.ref x)])) (fun _ k_ => XS.aloadN X2.here hx rfl (hb hby d26_9) rfl rfl  k_) ?_
  refine own_st (T' := T2) (g' := (mkF m 11 #[rv x, rv u, iv (0 : Int32)] [(.int (0 : Int32)), (.ref x)])) (fun _ k_ => XS.iloadN X2.here hx rfl (hb hby d26_10) rfl  k_) ?_
  have f3 := P0.wr W2
  have f4 := P2.other W2 (Or.inr (slot_ne (Or.inr (wd hw 194 rfl)) (Or.inr (wd hw 192 rfl)) (by decide) (t := .boolean) (t' := (.array (.object "java/lang/Object"))) (by decide) (by decide)))
  obtain ⟨T5, h5, X5, e5, W5, st5⟩ := putFN X2 hx hZ hown (wd hw 193 rfl) Via.refl e2 f4 f3 (Or.inr ⟨(wd hw 194 rfl), rfl, hnm⟩) (wd hw 171 rfl) (ty := .boolean) (v' := (.int (0 : Int32))) (by decide) rfl (by decide) (g := (mkF m 11 #[rv x, rv u, iv (0 : Int32)] [(.int (0 : Int32)), (.ref x)])) rfl rfl (hb hby d26_11)
  have Fw5 : Fld Z h5 x "java/util/ImmutableCollections$ListN" "allowNulls" "Z" (.int (0 : Int32)) := Fld.same W5 f4
  have N5 := Fr.snoc X5 N2 fx
  refine own_st (T' := T5) (g' := (mkF m 14 #[rv x, rv u, iv (0 : Int32)] [])) st5 ?_
  clear st5
  have f6 := (Keep.refl h0 [x]).wr W2 (Or.inl (List.mem_of_getElem? (i := 0) rfl))
  have f7 := f6.wr W5 (Or.inl (List.mem_of_getElem? (i := 0) rfl))
  have f8 := f3.wr W5
  have f9 := Fw2.other W5 (Or.inr (slot_ne (Or.inr (wd hw 192 rfl)) (Or.inr (wd hw 194 rfl)) (by decide) (t := (.array (.object "java/lang/Object"))) (t' := .boolean) (by decide) (by decide)))
  exact own_retV X5 hx hret hlk (hb hby d26_14) (by decide) (by decide) (by rw [e5]; exact ⟨rfl, N5, f7, f8, f9, Fw5⟩)
theorem d21_0 : decode jdk_65_method_120_code 0 = .ok (.aload_n 2, 1) := by decide +kernel
theorem d21_1 : decode jdk_65_method_120_code 1 = .ok (.ldc 110, 2) := by decide +kernel
theorem d21_3 : decode jdk_65_method_120_code 3 = .ok (.if_acmp .ne 10, 3) := by decide +kernel
theorem d21_6 : decode jdk_65_method_120_code 6 = .ok (.iload_n 1, 1) := by decide +kernel
theorem d21_7 : decode jdk_65_method_120_code 7 = .ok (.anewarray 2, 3) := by decide +kernel
theorem d21_10 : decode jdk_65_method_120_code 10 = .ok (.goto 14, 3) := by decide +kernel
theorem d21_24 : decode jdk_65_method_120_code 24 = .ok (.astore_n 3, 1) := by decide +kernel
theorem d21_25 : decode jdk_65_method_120_code 25 = .ok (.aload_n 0, 1) := by decide +kernel
theorem d21_26 : decode jdk_65_method_120_code 26 = .ok (.iconst 0, 1) := by decide +kernel
theorem d21_27 : decode jdk_65_method_120_code 27 = .ok (.aload_n 3, 1) := by decide +kernel
theorem d21_28 : decode jdk_65_method_120_code 28 = .ok (.iconst 0, 1) := by decide +kernel
theorem d21_29 : decode jdk_65_method_120_code 29 = .ok (.aload_n 0, 1) := by decide +kernel
theorem d21_30 : decode jdk_65_method_120_code 30 = .ok (.arraylength, 1) := by decide +kernel
theorem d21_31 : decode jdk_65_method_120_code 31 = .ok (.iload_n 1, 1) := by decide +kernel
theorem d21_32 : decode jdk_65_method_120_code 32 = .ok (.invokestatic 304, 3) := by decide +kernel
theorem d21_35 : decode jdk_65_method_120_code 35 = .ok (.invokestatic 150, 3) := by decide +kernel
theorem d21_38 : decode jdk_65_method_120_code 38 = .ok (.aload_n 3, 1) := by decide +kernel
theorem d21_39 : decode jdk_65_method_120_code 39 = .ok (.areturn, 1) := by decide +kernel
theorem pn_11 : plainName "java/util/Arrays" = true := by first | (simp [plainName, overriddenIn]; done) | decide +kernel
theorem ef_cp3_1 (m : MethodId) (x0 : Addr) (x1 : Int32) (x2 : Addr) : entryFrame m #[(.ref x0), (.int x1), (.ref x2)] 4 = mkF m 0 #[rv x0, iv x1, rv x2, .unset] [] := by first | (simp [entryFrame, mkF, argsToLocals, Value.category]; done) | rfl
def Q_cp3_1 (Z : State) (t : Addr) (kO : ClassId) (mir : Addr) (y0 : Addr) (h0 : Heap) (n0 : Nat) (v : Option Value) (h : Heap) (L : List Loc) : Prop := ∃ (u : Addr), (v = some (.ref u)) ∧ (Fr n0 L) ∧ (Keep h0 h []) ∧ (Arv Z h u kO (.object "java/lang/Object") (1 : Int32) [(.ref y0)] .null) ∧ (h0.size ≤ u)
set_option maxRecDepth 65536 in
set_option maxHeartbeats 40000000 in
theorem rm_cp3_1 (l : Launch) (Z : State) (a0 : Array Value) (hw : ∀ d ∈ tables_1, d.before a0 Z = true) (ws : List Jvm.Cond) (t : Addr) (kO : ClassId) (mir : Addr) (y0 : Addr) (h0 : Heap) (n0 : Nat) (O0 : Old Z n0 h0) (V_t : Arv Z h0 t kO (.object "java/lang/Object") (10 : Int32) [(.ref y0), .null, .null, .null, .null, .null, .null, .null, .null, .null] .null) (OV : Ovr Z kO "java/lang/Object") (FC : Z.vm.findClass "[Ljava/lang/Object;" = some kO) (MIR : own_Mir Z "[Ljava/lang/Object;" mir) (I_y0 : Ins Z h0 y0 "java/lang/Object" true) :
    own_MF l own_m23 (Jvm.Cond.code own_m23 jdk_65_method_120_code 4 (some (.array (.object "java/lang/Object"))) :: ws) ({ frames := 1, cells := 1, slots := 1, locals := 40 } : Room) #[(.ref t), (.int (1 : Int32)), (.ref mir)] Z h0 (Q_cp3_1 Z t kO mir y0 h0 n0) := by
  refine own_met (own := "java/util/Arrays") (nme := "copyOf") rfl rfl (plainFor_of_name pn_11) ?_
  intro p e s m below meth c s₁ hx hby hml hown hnm X0 e0 hret hlk hZ
  have N0 := Fr.nil n0
  rw [ef_cp3_1 m t (1 : Int32) mir]
  refine own_st (T' := s₁) (g' := (mkF m 1 #[rv t, iv (1 : Int32), rv mir, .unset] [(.ref mir)])) (fun _ k_ => XS.aloadN X0.here hx rfl (hb hby d21_0) rfl rfl  k_) ?_
  obtain ⟨T1, X1, e1, st1⟩ := own_ldk X0 hx hZ hown (wd hw 151 rfl) e0 MIR (g := (mkF m 1 #[rv t, iv (1 : Int32), rv mir, .unset] [(.ref mir)])) rfl (hb hby d21_1)
  refine own_st (T' := T1) (g' := (mkF m 3 #[rv t, iv (1 : Int32), rv mir, .unset] [(.ref mir), (.ref mir)])) st1 ?_
  clear st1
  refine own_st (T' := T1) (g' := (mkF m 6 #[rv t, iv (1 : Int32), rv mir, .unset] [])) (fun _ k_ => Jvm.RoadKit.acmp (g := (mkF m 3 #[rv t, iv (1 : Int32), rv mir, .unset] [(.ref mir), (.ref mir)])) X1 hx rfl rfl rfl (pc0 := 3) (pc' := 6) (same := true) rfl (hb hby d21_3) rfl (decide_eq_true rfl) (by decide) (by decide) k_) ?_
  refine own_st (T' := T1) (g' := (mkF m 7 #[rv t, iv (1 : Int32), rv mir, .unset] [(.int (1 : Int32))])) (fun _ k_ => XS.iloadN X1.here hx rfl (hb hby d21_6) rfl  k_) ?_
  obtain ⟨T2, h2, k2, X2, e2, E2, A2, EX2, O2, st2⟩ := newRE X1 hx hZ hown (wd hw 152 rfl) (wd hw 83 rfl) e1 (g := (mkF m 7 #[rv t, iv (1 : Int32), rv mir, .unset] [(.int (1 : Int32))])) rfl (hb hby d21_7) rfl (by decide) (cap := 1) (by decide) (by decide) (by decide) (by decide) (ad := "[Ljava/lang/Object;") (by decide)
  obtain rfl : kO = k2 := own_kk EX2 A2 FC
  clear EX2 O2
  obtain ⟨b2, g2⟩ : ∃ z, z = h0.size := ⟨_, rfl⟩
  rw [← g2] at A2 st2
  have fr2 : n0 ≤ b2 := Nat.le_trans (own_z O0) (Nat.le_of_eq g2.symm)
  have sz2 : h0.size ≤ b2 := Nat.le_trans (Keep.refl h0 []).1 (Nat.le_of_eq g2.symm)
  have V2 : Arv Z h2 b2 kO (.object "java/lang/Object") (1 : Int32) [.null] .null := (Arv.new A2 (by decide)).pad (pad_rep [] .null 1)
  refine own_st (T' := T2) (g' := (mkF m 10 #[rv t, iv (1 : Int32), rv mir, .unset] [(.ref b2)])) st2 ?_
  clear st2
  refine own_st (T' := T2) (g' := (mkF m 24 #[rv t, iv (1 : Int32), rv mir, .unset] [(.ref b2)])) (fun _ k_ => XS.goto X2.here hx rfl (pc0 := 10) (pc' := 24) rfl (hb hby d21_10) (by decide) (by decide) k_) ?_
  refine own_st (T' := T2) (g' := (mkF m 25 #[rv t, iv (1 : Int32), rv mir, rv b2] [])) (fun _ k_ => XS.astoreN X2.here hx rfl (hb hby d21_24) rfl rfl (l' := #[rv t, iv (1 : Int32), rv mir, rv b2]) rfl k_) ?_
  refine own_st (T' := T2) (g' := (mkF m 26 #[rv t, iv (1 : Int32), rv mir, rv b2] [(.ref t)])) (fun _ k_ => XS.aloadN X2.here hx rfl (hb hby d21_25) rfl rfl  k_) ?_
  refine own_st (T' := T2) (g' := (mkF m 27 #[rv t, iv (1 : Int32), rv mir, rv b2] [(.int (0 : Int32)), (.ref t)])) (fun _ k_ => XS.iconst X2.here hx rfl (hb hby d21_26) k_) ?_
  refine own_st (T' := T2) (g' := (mkF m 28 #[rv t, iv (1 : Int32), rv mir, rv b2] [(.ref b2), (.int (0 : Int32)), (.ref t)])) (fun _ k_ => XS.aloadN X2.here hx rfl (hb hby d21_27) rfl rfl  k_) ?_
  refine own_st (T' := T2) (g' := (mkF m 29 #[rv t, iv (1 : Int32), rv mir, rv b2] [(.int (0 : Int32)), (.ref b2), (.int (0 : Int32)), (.ref t)])) (fun _ k_ => XS.iconst X2.here hx rfl (hb hby d21_28) k_) ?_
  refine own_st (T' := T2) (g' := (mkF m 30 #[rv t, iv (1 : Int32), rv mir, rv b2] [(.ref t), (.int (0 : Int32)), (.ref b2), (.int (0 : Int32)), (.ref t)])) (fun _ k_ => XS.aloadN X2.here hx rfl (hb hby d21_29) rfl rfl  k_) ?_
  have f4 := V_t.ext E2
  obtain ⟨cl3, Ar3, -, S3, N3, -, -⟩ := id f4
  refine own_st (T' := T2) (g' := (mkF m 31 #[rv t, iv (1 : Int32), rv mir, rv b2] [(.int (10 : Int32)), (.int (0 : Int32)), (.ref b2), (.int (0 : Int32)), (.ref t)])) (fun t_ k_ => X2.arraylength hx (by rw [e2]; exact Ar3.1) (State.isArrayOf_alike hZ.alike Ar3.2.1) (g := (mkF m 30 #[rv t, iv (1 : Int32), rv mir, rv b2] [(.ref t), (.int (0 : Int32)), (.ref b2), (.int (0 : Int32)), (.ref t)])) rfl rfl (hb hby d21_30) _ (by rw [len_of S3 N3]; exact k_)) ?_
  refine own_st (T' := T2) (g' := (mkF m 32 #[rv t, iv (1 : Int32), rv mir, rv b2] [(.int (1 : Int32)), (.int (10 : Int32)), (.int (0 : Int32)), (.ref b2), (.int (0 : Int32)), (.ref t)])) (fun _ k_ => XS.iloadN X2.here hx rfl (hb hby d21_31) rfl  k_) ?_
  have f5 := O0.ext E2
  obtain ⟨_, T6, L6, X6, hQ6, st6⟩ := own_callS X2 hx (y := own_m18) hown (mvT hZ (wd hw 153 rfl)) (mvT hZ (wd hw 154 rfl)) (mvT hZ (wd hw 80 rfl)) (mvT hZ (wd hw 155 rfl)) (by decide) (backOf (W := 4) (rm_min l Z a0 hw [] (10 : Int32) (1 : Int32) h2 n0 f5 (by decide)) hZ (wd hw 155 rfl) (wd hw 80 rfl) (by decide) (by decide)) (g := (mkF m 32 #[rv t, iv (1 : Int32), rv mir, rv b2] [(.int (1 : Int32)), (.int (10 : Int32)), (.int (0 : Int32)), (.ref b2), (.int (0 : Int32)), (.ref t)])) rfl (by rw [hml]; rfl) (argsL := [(.int (10 : Int32)), (.int (1 : Int32))]) (rest := [(.int (0 : Int32)), (.ref b2), (.int (0 : Int32)), (.ref t)]) (lenOf pd__II_I rfl) rfl (by show 2 * 0 + _ ≤ _; exact Nat.le_of_eq rfl) (hb hby d21_32) rfl e2 (by decide) (by decide) (c' := 1) (s' := 1) rfl rfl
  obtain ⟨rfl, Nq6, eq6⟩ := hQ6
  have N6 := Fr.app N0 Nq6
  refine own_st (T' := T6) (g' := (mkF m 35 #[rv t, iv (1 : Int32), rv mir, rv b2] [(.int (1 : Int32)), (.int (0 : Int32)), (.ref b2), (.int (0 : Int32)), (.ref t)])) st6 ?_
  clear st6
  obtain ⟨cl7, Ar7, q7, -⟩ := id V2
  have f8 := Ins.ext E2 I_y0
  obtain ⟨T7, h7, L7, X7, e7, N7, K7, Va7, st7⟩ := cpA X6 hx hZ hown (wd hw 156 rfl) (wd hw 159 rfl) (wd hw 157 rfl) (wd hw 158 rfl) eq6 f4 V2 (sp := (0 : Int32)) (dp := (0 : Int32)) (nn := (1 : Int32)) (us := [(.ref y0)]) (Or.inr ⟨rfl, rfl, ⟨Sto.ofV Ar7 q7 OV f8, trivial⟩⟩) (by decide) (by decide) (by decide) (by decide) (by decide) rfl (Nat.le_of_ble_eq_true rfl) N6 fr2 (g := (mkF m 35 #[rv t, iv (1 : Int32), rv mir, rv b2] [(.int (1 : Int32)), (.int (0 : Int32)), (.ref b2), (.int (0 : Int32)), (.ref t)])) rfl (by rw [hml]; rfl) (rest := []) rfl (hb hby d21_35) (by decide) (W := 0) (by show 2 * 0 + _ ≤ _; exact Nat.le_of_eq rfl) (by decide)
  clear Ar7 q7 cl7
  have V7 : Arv Z h7 b2 kO (.object "java/lang/Object") (1 : Int32) [(.ref y0)] .null := Va7
  refine own_st (T' := T7) (g' := (mkF m 38 #[rv t, iv (1 : Int32), rv mir, rv b2] [])) st7 ?_
  clear st7
  refine own_st (T' := T7) (g' := (mkF m 39 #[rv t, iv (1 : Int32), rv mir, rv b2] [(.ref b2)])) (fun _ k_ => XS.aloadN X7.here hx rfl (hb hby d21_38) rfl rfl  k_) ?_
  have f9 := (Keep.refl h0 []).ext E2
  have f10 := f9.trans K7 (allS (Or.inr sz2) all0)
  exact own_retA X7 hx hret rfl rfl hlk (hb hby d21_39) (by decide) (by decide) (by rw [e7]; exact ⟨b2, rfl, N7, f10, V7, sz2⟩)
theorem d20_0 : decode jdk_65_method_119_code 0 = .ok (.aload_n 0, 1) := by decide +kernel
theorem d20_1 : decode jdk_65_method_119_code 1 = .ok (.iload_n 1, 1) := by decide +kernel
theorem d20_2 : decode jdk_65_method_119_code 2 = .ok (.aload_n 0, 1) := by decide +kernel
theorem d20_3 : decode jdk_65_method_119_code 3 = .ok (.invokevirtual 86, 3) := by decide +kernel
theorem d20_6 : decode jdk_65_method_119_code 6 = .ok (.invokestatic 300, 3) := by decide +kernel
theorem d20_9 : decode jdk_65_method_119_code 9 = .ok (.areturn, 1) := by decide +kernel
theorem pd___Ljava_lang_Object_ILjava_lang_Class___Ljava_lang_Object_ : parseMethodDescriptor "([Ljava/lang/Object;ILjava/lang/Class;)[Ljava/lang/Object;" = some ⟨[(.array (.object "java/lang/Object")), .int, (.object "java/lang/Class")], some (.array (.object "java/lang/Object"))⟩ := by decide +kernel
theorem ef_cp2_1 (m : MethodId) (x0 : Addr) (x1 : Int32) : entryFrame m #[(.ref x0), (.int x1)] 2 = mkF m 0 #[rv x0, iv x1] [] := by first | (simp [entryFrame, mkF, argsToLocals, Value.category]; done) | rfl
def Q_cp2_1 (Z : State) (t : Addr) (kO : ClassId) (mir : Addr) (y0 : Addr) (h0 : Heap) (n0 : Nat) (v : Option Value) (h : Heap) (L : List Loc) : Prop := ∃ (u : Addr), (v = some (.ref u)) ∧ (Fr n0 L) ∧ (Keep h0 h []) ∧ (Arv Z h u kO (.object "java/lang/Object") (1 : Int32) [(.ref y0)] .null) ∧ (h0.size ≤ u)
set_option maxRecDepth 65536 in
set_option maxHeartbeats 40000000 in
theorem rm_cp2_1 (l : Launch) (Z : State) (a0 : Array Value) (hw : ∀ d ∈ tables_1, d.before a0 Z = true) (ws : List Jvm.Cond) (t : Addr) (kO : ClassId) (mir : Addr) (y0 : Addr) (h0 : Heap) (n0 : Nat) (O0 : Old Z n0 h0) (V_t : Arv Z h0 t kO (.object "java/lang/Object") (10 : Int32) [(.ref y0), .null, .null, .null, .null, .null, .null, .null, .null, .null] .null) (OV : Ovr Z kO "java/lang/Object") (FC : Z.vm.findClass "[Ljava/lang/Object;" = some kO) (MIR : own_Mir Z "[Ljava/lang/Object;" mir) (I_y0 : Ins Z h0 y0 "java/lang/Object" true) :
    own_MF l own_m24 (Jvm.Cond.code own_m24 jdk_65_method_119_code 2 (some (.array (.object "java/lang/Object"))) :: ws) ({ frames := 2, cells := 1, slots := 1, locals := 55 } : Room) #[(.ref t), (.int (1 : Int32))] Z h0 (Q_cp2_1 Z t kO mir y0 h0 n0) := by
  refine own_met (own := "java/util/Arrays") (nme := "copyOf") rfl rfl (plainFor_of_name pn_11) ?_
  intro p e s m below meth c s₁ hx hby hml hown hnm X0 e0 hret hlk hZ
  have N0 := Fr.nil n0
  rw [ef_cp2_1 m t (1 : Int32)]
  refine own_st (T' := s₁) (g' := (mkF m 1 #[rv t, iv (1 : Int32)] [(.ref t)])) (fun _ k_ => XS.aloadN X0.here hx rfl (hb hby d20_0) rfl rfl  k_) ?_
  refine own_st (T' := s₁) (g' := (mkF m 2 #[rv t, iv (1 : Int32)] [(.int (1 : Int32)), (.ref t)])) (fun _ k_ => XS.iloadN X0.here hx rfl (hb hby d20_1) rfl  k_) ?_
  refine own_st (T' := s₁) (g' := (mkF m 3 #[rv t, iv (1 : Int32)] [(.ref t), (.int (1 : Int32)), (.ref t)])) (fun _ k_ => XS.aloadN X0.here hx rfl (hb hby d20_2) rfl rfl  k_) ?_
  obtain ⟨T1, X1, e1, st1⟩ := own_gcls X0 hx hZ hown (wd hw 142 rfl) (wd hw 143 rfl) (wd hw 119 rfl) (wd hw 145 rfl) (wd hw 144 rfl) (wd hw 146 rfl) e0 (own_exaArv V_t FC) MIR (g := (mkF m 3 #[rv t, iv (1 : Int32)] [(.ref t), (.int (1 : Int32)), (.ref t)])) rfl (by rw [hml]; rfl) (rest := [(.int (1 : Int32)), (.ref t)]) rfl (hb hby d20_3) (by decide) (W := 2) (by show 2 * 0 + _ ≤ _; exact Nat.le_of_eq rfl) (by decide)
  refine own_st (T' := T1) (g' := (mkF m 6 #[rv t, iv (1 : Int32)] [(.ref mir), (.int (1 : Int32)), (.ref t)])) st1 ?_
  clear st1
  obtain ⟨_, T2, L2, X2, hQ2, st2⟩ := own_callS X1 hx (y := own_m23) hown (mvT hZ (wd hw 148 rfl)) (mvT hZ (wd hw 149 rfl)) (mvT hZ (wd hw 140 rfl)) (mvT hZ (wd hw 150 rfl)) (by decide) (backOf (W := 0) (rm_cp3_1 l Z a0 hw [] t kO mir y0 h0 n0 O0 V_t OV FC MIR I_y0) hZ (wd hw 150 rfl) (wd hw 140 rfl) (by decide) (by decide)) (g := (mkF m 6 #[rv t, iv (1 : Int32)] [(.ref mir), (.int (1 : Int32)), (.ref t)])) rfl (by rw [hml]; rfl) (argsL := [(.ref t), (.int (1 : Int32)), (.ref mir)]) (rest := []) (lenOf pd___Ljava_lang_Object_ILjava_lang_Class___Ljava_lang_Object_ rfl) rfl (by show 2 * 0 + _ ≤ _; exact Nat.le_of_eq rfl) (hb hby d20_6) rfl e1 (by decide) (by decide) (c' := 1) (s' := 1) rfl rfl
  obtain ⟨u2, rfl, Nq2, K2, fq2_0, xq2_fresh_u⟩ := hQ2
  have N2 := Fr.app N0 Nq2
  refine own_st (T' := T2) (g' := (mkF m 9 #[rv t, iv (1 : Int32)] [(.ref u2)])) st2 ?_
  clear st2
  have f3 := (Keep.refl h0 []).trans K2 all0
  exact own_retA X2 hx hret rfl rfl hlk (hb hby d20_9) (by decide) (by decide) ⟨u2, rfl, N2, f3, fq2_0, (Nat.le_trans (Keep.refl h0 []).1 xq2_fresh_u)⟩
theorem d19_0 : decode jdk_38_method_16_code 0 = .ok (.aload_n 0, 1) := by decide +kernel
theorem d19_1 : decode jdk_38_method_16_code 1 = .ok (.getfield 9, 3) := by decide +kernel
theorem d19_4 : decode jdk_38_method_16_code 4 = .ok (.aload_n 0, 1) := by decide +kernel
theorem d19_5 : decode jdk_38_method_16_code 5 = .ok (.getfield 48, 3) := by decide +kernel
theorem d19_8 : decode jdk_38_method_16_code 8 = .ok (.invokestatic 66, 3) := by decide +kernel
theorem d19_11 : decode jdk_38_method_16_code 11 = .ok (.areturn, 1) := by decide +kernel
theorem pd___Ljava_lang_Object_I__Ljava_lang_Object_ : parseMethodDescriptor "([Ljava/lang/Object;I)[Ljava/lang/Object;" = some ⟨[(.array (.object "java/lang/Object")), .int], some (.array (.object "java/lang/Object"))⟩ := by decide +kernel
theorem ef_tar_1 (m : MethodId) (x0 : Addr) : entryFrame m #[(.ref x0)] 1 = mkF m 0 #[rv x0] [] := by first | (simp [entryFrame, mkF, argsToLocals, Value.category]; done) | rfl
def Q_tar_1 (Z : State) (a : Addr) (t : Addr) (kO : ClassId) (mir : Addr) (y0 : Addr) (h0 : Heap) (n0 : Nat) (v : Option Value) (h : Heap) (L : List Loc) : Prop := ∃ (u : Addr), (v = some (.ref u)) ∧ (Fr n0 L) ∧ (Keep h0 h []) ∧ (Arv Z h u kO (.object "java/lang/Object") (1 : Int32) [(.ref y0)] .null) ∧ (h0.size ≤ u)
set_option maxRecDepth 65536 in
set_option maxHeartbeats 40000000 in
theorem rm_tar_1 (l : Launch) (Z : State) (a0 : Array Value) (hw : ∀ d ∈ tables_1, d.before a0 Z = true) (ws : List Jvm.Cond) (a : Addr) (t : Addr) (kO : ClassId) (mir : Addr) (y0 : Addr) (h0 : Heap) (n0 : Nat) (O0 : Old Z n0 h0) (Fe : Fld Z h0 a "java/util/ArrayList" "elementData" "[Ljava/lang/Object;" (.ref t)) (Fz : Fld Z h0 a "java/util/ArrayList" "size" "I" (.int (1 : Int32))) (V_t : Arv Z h0 t kO (.object "java/lang/Object") (10 : Int32) [(.ref y0), .null, .null, .null, .null, .null, .null, .null, .null, .null] .null) (OV : Ovr Z kO "java/lang/Object") (FC : Z.vm.findClass "[Ljava/lang/Object;" = some kO) (MIR : own_Mir Z "[Ljava/lang/Object;" mir) (I_y0 : Ins Z h0 y0 "java/lang/Object" true) :
    own_MF l own_m25 (Jvm.Cond.code own_m25 jdk_38_method_16_code 1 (some (.array (.object "java/lang/Object"))) :: ws) ({ frames := 3, cells := 1, slots := 1, locals := 68 } : Room) #[(.ref a)] Z h0 (Q_tar_1 Z a t kO mir y0 h0 n0) := by
  refine own_met (own := "java/util/ArrayList") (nme := "toArray") rfl rfl (plainFor_of_name pn_5) ?_
  intro p e s m below meth c s₁ hx hby hml hown hnm X0 e0 hret hlk hZ
  have N0 := Fr.nil n0
  rw [ef_tar_1 m a]
  refine own_st (T' := s₁) (g' := (mkF m 1 #[rv a] [(.ref a)])) (fun _ k_ => XS.aloadN X0.here hx rfl (hb hby d19_0) rfl rfl  k_) ?_
  obtain ⟨T1, X1, e1, st1⟩ := getF X0 hx hZ hown (host := "") (Or.inl (wd hw 48 rfl)) Via.refl e0 Fe (g := (mkF m 1 #[rv a] [(.ref a)])) rfl rfl (hb hby d19_1)
  refine own_st (T' := T1) (g' := (mkF m 4 #[rv a] [(.ref t)])) st1 ?_
  clear st1
  refine own_st (T' := T1) (g' := (mkF m 5 #[rv a] [(.ref a), (.ref t)])) (fun _ k_ => XS.aloadN X1.here hx rfl (hb hby d19_4) rfl rfl  k_) ?_
  obtain ⟨T2, X2, e2, st2⟩ := getF X1 hx hZ hown (host := "") (Or.inl (wd hw 61 rfl)) Via.refl e1 Fz (g := (mkF m 5 #[rv a] [(.ref a), (.ref t)])) rfl rfl (hb hby d19_5)
  refine own_st (T' := T2) (g' := (mkF m 8 #[rv a] [(.int (1 : Int32)), (.ref t)])) st2 ?_
  clear st2
  obtain ⟨_, T3, L3, X3, hQ3, st3⟩ := own_callS X2 hx (y := own_m24) hown (mvT hZ (wd hw 138 rfl)) (mvT hZ (wd hw 139 rfl)) (mvT hZ (wd hw 140 rfl)) (mvT hZ (wd hw 141 rfl)) (by decide) (backOf (W := 0) (rm_cp2_1 l Z a0 hw [] t kO mir y0 h0 n0 O0 V_t OV FC MIR I_y0) hZ (wd hw 141 rfl) (wd hw 140 rfl) (by decide) (by decide)) (g := (mkF m 8 #[rv a] [(.int (1 : Int32)), (.ref t)])) rfl (by rw [hml]; rfl) (argsL := [(.ref t), (.int (1 : Int32))]) (rest := []) (lenOf pd___Ljava_lang_Object_I__Ljava_lang_Object_ rfl) rfl (by show 2 * 0 + _ ≤ _; exact Nat.le_of_eq rfl) (hb hby d19_8) rfl e2 (by decide) (by decide) (c' := 1) (s' := 1) rfl rfl
  obtain ⟨u3, rfl, Nq3, K3, fq3_0, xq3_fresh_u⟩ := hQ3
  have N3 := Fr.app N0 Nq3
  refine own_st (T' := T3) (g' := (mkF m 11 #[rv a] [(.ref u3)])) st3 ?_
  clear st3
  have f4 := (Keep.refl h0 []).trans K3 all0
  exact own_retA X3 hx hret rfl rfl hlk (hb hby d19_11) (by decide) (by decide) ⟨u3, rfl, N3, f4, fq3_0, (Nat.le_trans (Keep.refl h0 []).1 xq3_fresh_u)⟩
theorem d23_0 : decode jdk_40_method_47_code 0 = .ok (.aload_n 0, 1) := by decide +kernel
theorem d23_1 : decode jdk_40_method_47_code 1 = .ok (.arraylength, 1) := by decide +kernel
theorem d23_2 : decode jdk_40_method_47_code 2 = .ok (.tableswitch 57 0 2 #[26, 32, 43], 26) := by decide +kernel
theorem d23_34 : decode jdk_40_method_47_code 34 = .ok (.new 96, 3) := by decide +kernel
theorem d23_37 : decode jdk_40_method_47_code 37 = .ok (.dup, 1) := by decide +kernel
theorem d23_38 : decode jdk_40_method_47_code 38 = .ok (.aload_n 0, 1) := by decide +kernel
theorem d23_39 : decode jdk_40_method_47_code 39 = .ok (.iconst 0, 1) := by decide +kernel
theorem d23_40 : decode jdk_40_method_47_code 40 = .ok (.aaload, 1) := by decide +kernel
theorem d23_41 : decode jdk_40_method_47_code 41 = .ok (.invokespecial 98, 3) := by decide +kernel
theorem d23_44 : decode jdk_40_method_47_code 44 = .ok (.areturn, 1) := by decide +kernel
theorem pd__Ljava_lang_Object__V : parseMethodDescriptor "(Ljava/lang/Object;)V" = some ⟨[(.object "java/lang/Object")], none⟩ := by decide +kernel
theorem pn_12 : plainName "java/util/List" = true := by first | (simp [plainName, overriddenIn]; done) | decide +kernel
theorem ef_lof_1 (m : MethodId) (x0 : Addr) : entryFrame m #[(.ref x0)] 2 = mkF m 0 #[rv x0, .unset] [] := by first | (simp [entryFrame, mkF, argsToLocals, Value.category]; done) | rfl
def Q_lof_1 (Z : State) (u : Addr) (kO : ClassId) (em : Addr) (y0 : Addr) (h0 : Heap) (n0 : Nat) (v : Option Value) (h : Heap) (L : List Loc) : Prop := ∃ (x : Addr), (v = some (.ref x)) ∧ (Fr n0 L) ∧ (Keep h0 h []) ∧ (Exa Z h x "java/util/ImmutableCollections$List12") ∧ (Fld Z h x "java/util/ImmutableCollections$List12" "e0" "Ljava/lang/Object;" (.ref y0)) ∧ (Fld Z h x "java/util/ImmutableCollections$List12" "e1" "Ljava/lang/Object;" (.ref em)) ∧ (h0.size ≤ x)
set_option maxRecDepth 65536 in
set_option maxHeartbeats 40000000 in
theorem rm_lof_1 (l : Launch) (Z : State) (a0 : Array Value) (hw : ∀ d ∈ tables_1, d.before a0 Z = true) (ws : List Jvm.Cond) (u : Addr) (kO : ClassId) (em : Addr) (y0 : Addr) (h0 : Heap) (n0 : Nat) (O0 : Old Z n0 h0) (V_u : Arv Z h0 u kO (.object "java/lang/Object") (1 : Int32) [(.ref y0)] .null) (OV : Ovr Z kO "java/lang/Object") (FC : Z.vm.findClass "[Ljava/lang/Object;" = some kO) (SEm : Sta Z Z.heap "java/util/ImmutableCollections" "EMPTY" "Ljava/lang/Object;" (.ref em)) (I_y0 : Ins Z h0 y0 "java/lang/Object" true) :
    own_MF l own_m26 (Jvm.Cond.code own_m26 jdk_40_method_47_code 2 (some (.object "java/util/List")) :: ws) ({ frames := 5, cells := 1, slots := 2, locals := 62 } : Room) #[(.ref u)] Z h0 (Q_lof_1 Z u kO em y0 h0 n0) := by
  refine own_met (own := "java/util/List") (nme := "of") rfl rfl (plainFor_of_name pn_12) ?_
  intro p e s m below meth c s₁ hx hby hml hown hnm X0 e0 hret hlk hZ
  have N0 := Fr.nil n0
  rw [ef_lof_1 m u]
  refine own_st (T' := s₁) (g' := (mkF m 1 #[rv u, .unset] [(.ref u)])) (fun _ k_ => XS.aloadN X0.here hx rfl (hb hby d23_0) rfl rfl  k_) ?_
  obtain ⟨cl1, Ar1, -, S1, N1, -, -⟩ := id V_u
  refine own_st (T' := s₁) (g' := (mkF m 2 #[rv u, .unset] [(.int (1 : Int32))])) (fun t_ k_ => X0.arraylength hx (by rw [e0]; exact Ar1.1) (State.isArrayOf_alike hZ.alike Ar1.2.1) (g := (mkF m 1 #[rv u, .unset] [(.ref u)])) rfl rfl (hb hby d23_1) _ (by rw [len_of S1 N1]; exact k_)) ?_
  refine own_st (T' := s₁) (g' := (mkF m 34 #[rv u, .unset] [])) (fun t_ k_ => X0.tableswitchIn hx (g := (mkF m 2 #[rv u, .unset] [(.int (1 : Int32))])) rfl (k := (1 : Int32)) (rest := []) rfl (hb hby d23_2) (by decide) (off := 32) rfl (show (0 : Int) ≤ ((2 : Nat) : Int) + 32 by decide) _ k_) ?_
  obtain ⟨T2, h2, X2, e2, E2, A2, D2, -, st2⟩ := newO X0 hx hZ hown (wd hw 197 rfl) (wd hw 198 rfl) (wd hw 199 rfl) e0 (g := (mkF m 34 #[rv u, .unset] [])) rfl (hb hby d23_34) (by decide) (by decide)
  obtain ⟨b2, g2⟩ : ∃ z, z = h0.size := ⟨_, rfl⟩
  rw [← g2] at A2 D2 st2
  have fr2 : n0 ≤ b2 := Nat.le_trans (own_z O0) (Nat.le_of_eq g2.symm)
  have sz2 : h0.size ≤ b2 := Nat.le_trans (Keep.refl h0 []).1 (Nat.le_of_eq g2.symm)
  have F2_e0 : Fld Z h2 b2 "java/util/ImmutableCollections$List12" "e0" "Ljava/lang/Object;" .null := D2 (Or.inr (wd hw 210 rfl)) (ty := (.object "java/lang/Object")) (by decide)
  have F2_e1 : Fld Z h2 b2 "java/util/ImmutableCollections$List12" "e1" "Ljava/lang/Object;" .null := D2 (Or.inr (wd hw 212 rfl)) (ty := (.object "java/lang/Object")) (by decide)
  refine own_st (T' := T2) (g' := (mkF m 37 #[rv u, .unset] [(.ref b2)])) st2 ?_
  clear st2
  refine own_st (T' := T2) (g' := (mkF m 38 #[rv u, .unset] [(.ref b2), (.ref b2)])) (fun _ k_ => XS.dup X2.here hx rfl (hb hby d23_37) rfl rfl k_) ?_
  refine own_st (T' := T2) (g' := (mkF m 39 #[rv u, .unset] [(.ref u), (.ref b2), (.ref b2)])) (fun _ k_ => XS.aloadN X2.here hx rfl (hb hby d23_38) rfl rfl  k_) ?_
  refine own_st (T' := T2) (g' := (mkF m 40 #[rv u, .unset] [(.int (0 : Int32)), (.ref u), (.ref b2), (.ref b2)])) (fun _ k_ => XS.iconst X2.here hx rfl (hb hby d23_39) k_) ?_
  have f3 := V_u.ext E2
  obtain ⟨cl4, Ar4, q4, S4, N4, H4, G4⟩ := id f3
  have hin4 : ¬ ((0 : Int32) < 0 ∨ cl4.slots.size ≤ ((0 : Int32)).toNatClampNeg) := inb_of S4 ⟨by decide, by decide⟩
  refine own_st (T' := T2) (g' := (mkF m 41 #[rv u, .unset] [(.ref y0), (.ref b2), (.ref b2)])) (X2.aaload hx (j := (0 : Int32)) (v := (.ref y0)) (by rw [e2]; exact Ar4.1) (State.isArrayOf_alike hZ.alike Ar4.2.1) rfl Ar4.2.2 hin4 (H4.at hin4 rfl) (g := (mkF m 40 #[rv u, .unset] [(.int (0 : Int32)), (.ref u), (.ref b2), (.ref b2)])) rfl rfl (hb hby d23_40)) ?_
  clear hin4 G4 H4 N4 S4 q4 Ar4 cl4
  have f5 := O0.ext E2
  obtain ⟨_, T6, L6, X6, hQ6, st6⟩ := own_callI X2 hx (y := own_m21) rfl hown (mvT hZ (wd hw 237 rfl)) (mvT hZ (wd hw 238 rfl)) (mvT hZ (wd hw 239 rfl)) (by decide) (backOf (W := 1) (rm_l12a l Z a0 hw [] b2 y0 em h2 n0 f5 A2 F2_e0 F2_e1 fr2 SEm) hZ (wd hw 239 rfl) (wd hw 199 rfl) (by decide) (by decide)) (g := (mkF m 41 #[rv u, .unset] [(.ref y0), (.ref b2), (.ref b2)])) rfl (by rw [hml]; rfl) (a := b2) (argsL := [(.ref y0)]) (rest := [(.ref b2)]) (lenOf pd__Ljava_lang_Object__V rfl) rfl (by show 2 * 0 + _ ≤ _; exact Nat.le_of_eq rfl) (hb hby d23_41) rfl e2 (by decide) (by decide) (c' := 1) (s' := 2) rfl rfl
  obtain ⟨rfl, Nq6, K6, fq6_0, fq6_1, fq6_2⟩ := hQ6
  have N6 := Fr.app N0 Nq6
  refine own_st (T' := T6) (g' := (mkF m 44 #[rv u, .unset] [(.ref b2)])) st6 ?_
  clear st6
  have f7 := (Keep.refl h0 []).ext E2
  have f8 := f7.trans K6 (allS (Or.inr sz2) all0)
  exact own_retA X6 hx hret rfl rfl hlk (hb hby d23_44) (by decide) (by decide) ⟨b2, rfl, N6, f8, fq6_0, fq6_1, fq6_2, sz2⟩
theorem d17_0 : decode jdk_56_method_3_code 0 = .ok (.aload_n 0, 1) := by decide +kernel
theorem d17_1 : decode jdk_56_method_3_code 1 = .ok (.instanceof 10, 3) := by decide +kernel
theorem d17_4 : decode jdk_56_method_3_code 4 = .ok (.ifCond .ne 22, 3) := by decide +kernel
theorem d17_7 : decode jdk_56_method_3_code 7 = .ok (.aload_n 0, 1) := by decide +kernel
theorem d17_8 : decode jdk_56_method_3_code 8 = .ok (.instanceof 12, 3) := by decide +kernel
theorem d17_11 : decode jdk_56_method_3_code 11 = .ok (.ifCond .eq 20, 3) := by decide +kernel
theorem d17_31 : decode jdk_56_method_3_code 31 = .ok (.aload_n 0, 1) := by decide +kernel
theorem d17_32 : decode jdk_56_method_3_code 32 = .ok (.invokeinterface 20 1, 5) := by decide +kernel
theorem d17_37 : decode jdk_56_method_3_code 37 = .ok (.ifCond .eq 7, 3) := by decide +kernel
theorem d17_44 : decode jdk_56_method_3_code 44 = .ok (.aload_n 0, 1) := by decide +kernel
theorem d17_45 : decode jdk_56_method_3_code 45 = .ok (.invokeinterface 30 1, 5) := by decide +kernel
theorem d17_50 : decode jdk_56_method_3_code 50 = .ok (.invokestatic 34, 3) := by decide +kernel
theorem d17_53 : decode jdk_56_method_3_code 53 = .ok (.areturn, 1) := by decide +kernel
theorem pd___Z : parseMethodDescriptor "()Z" = some ⟨[], some .boolean⟩ := by decide +kernel
theorem pd___Ljava_lang_Object__Ljava_util_List_ : parseMethodDescriptor "([Ljava/lang/Object;)Ljava/util/List;" = some ⟨[(.array (.object "java/lang/Object"))], some (.object "java/util/List")⟩ := by decide +kernel
theorem pn_13 : plainName "java/util/ImmutableCollections" = true := by first | (simp [plainName, overriddenIn]; done) | decide +kernel
theorem ef_lcp_1 (m : MethodId) (x0 : Addr) : entryFrame m #[(.ref x0)] 2 = mkF m 0 #[rv x0, .unset] [] := by first | (simp [entryFrame, mkF, argsToLocals, Value.category]; done) | rfl
def Q_lcp_1 (Z : State) (a : Addr) (t : Addr) (kO : ClassId) (mir : Addr) (em : Addr) (y0 : Addr) (h0 : Heap) (n0 : Nat) (v : Option Value) (h : Heap) (L : List Loc) : Prop := ∃ (x : Addr), (v = some (.ref x)) ∧ (Fr n0 L) ∧ (Keep h0 h []) ∧ (Exa Z h x "java/util/ImmutableCollections$List12") ∧ (Fld Z h x "java/util/ImmutableCollections$List12" "e0" "Ljava/lang/Object;" (.ref y0)) ∧ (Fld Z h x "java/util/ImmutableCollections$List12" "e1" "Ljava/lang/Object;" (.ref em)) ∧ (h0.size ≤ x)
set_option maxRecDepth 65536 in
set_option maxHeartbeats 40000000 in
theorem rm_lcp_1 (l : Launch) (Z : State) (a0 : Array Value) (hw : ∀ d ∈ tables_1, d.before a0 Z = true) (ws : List Jvm.Cond) (a : Addr) (t : Addr) (kO : ClassId) (mir : Addr) (em : Addr) (y0 : Addr) (h0 : Heap) (n0 : Nat) (O0 : Old Z n0 h0) (E_a : Exa Z h0 a "java/util/ArrayList") (Fe : Fld Z h0 a "java/util/ArrayList" "elementData" "[Ljava/lang/Object;" (.ref t)) (Fz : Fld Z h0 a "java/util/ArrayList" "size" "I" (.int (1 : Int32))) (V_t : Arv Z h0 t kO (.object "java/lang/Object") (10 : Int32) [(.ref y0), .null, .null, .null, .null, .null, .null, .null, .null, .null] .null) (OV : Ovr Z kO "java/lang/Object") (FC : Z.vm.findClass "[Ljava/lang/Object;" = some kO) (MIR : own_Mir Z "[Ljava/lang/Object;" mir) (SEm : Sta Z Z.heap "java/util/ImmutableCollections" "EMPTY" "Ljava/lang/Object;" (.ref em)) (I_y0 : Ins Z h0 y0 "java/lang/Object" true) :
    own_MF l own_m29 (Jvm.Cond.code own_m29 jdk_56_method_3_code 2 (some (.object "java/util/List")) :: ws) ({ frames := 6, cells := 2, slots := 3, locals := 80 } : Room) #[(.ref a)] Z h0 (Q_lcp_1 Z a t kO mir em y0 h0 n0) := by
  refine own_met (own := "java/util/ImmutableCollections") (nme := "listCopy") rfl rfl (plainFor_of_name pn_13) ?_
  intro p e s m below meth c s₁ hx hby hml hown hnm X0 e0 hret hlk hZ
  have N0 := Fr.nil n0
  rw [ef_lcp_1 m a]
  refine own_st (T' := s₁) (g' := (mkF m 1 #[rv a, .unset] [(.ref a)])) (fun _ k_ => XS.aloadN X0.here hx rfl (hb hby d17_0) rfl rfl  k_) ?_
  obtain ⟨T1, X1, e1, st1⟩ := instNo X0 hx hZ hown (wd hw 115 rfl) e0 E_a (own_no0 hw) (g := (mkF m 1 #[rv a, .unset] [(.ref a)])) rfl rfl (hb hby d17_1)
  refine own_st (T' := T1) (g' := (mkF m 4 #[rv a, .unset] [(.int (0 : Int32))])) st1 ?_
  clear st1
  refine own_st (T' := T1) (g' := (mkF m 7 #[rv a, .unset] [])) (fun _ k_ => XS.ifNo X1.here hx rfl (hb hby d17_4) rfl ((if0 _ _).trans (teq (rfl : (0 : Int32) = (0 : Int32))).2) k_) ?_
  refine own_st (T' := T1) (g' := (mkF m 8 #[rv a, .unset] [(.ref a)])) (fun _ k_ => XS.aloadN X1.here hx rfl (hb hby d17_7) rfl rfl  k_) ?_
  obtain ⟨T2, X2, e2, st2⟩ := instNo X1 hx hZ hown (wd hw 120 rfl) e1 E_a (own_no1 hw) (g := (mkF m 8 #[rv a, .unset] [(.ref a)])) rfl rfl (hb hby d17_8)
  refine own_st (T' := T2) (g' := (mkF m 11 #[rv a, .unset] [(.int (0 : Int32))])) st2 ?_
  clear st2
  refine own_st (T' := T2) (g' := (mkF m 31 #[rv a, .unset] [])) (fun _ k_ => XS.ifYes X2.here hx rfl (pc0 := 11) (pc' := 31) rfl (hb hby d17_11) rfl ((if0 _ _).trans (teq (rfl : (0 : Int32) = (0 : Int32))).1) (by decide) (by decide) k_) ?_
  refine own_st (T' := T2) (g' := (mkF m 32 #[rv a, .unset] [(.ref a)])) (fun _ k_ => XS.aloadN X2.here hx rfl (hb hby d17_31) rfl rfl  k_) ?_
  obtain ⟨cq3, kq3, q3a, q3b, q3c⟩ := isOf hZ e2 E_a
  obtain ⟨_, T3, L3, X3, hQ3, st3⟩ := own_callF X2 hx (xi := own_m27) (y := own_m19) hown (mvT hZ (wd hw 121 rfl)) (mvT hZ (wd hw 122 rfl)) (mvT hZ (wd hw 123 rfl)) (mvT hZ (wd hw 124 rfl)) (mvT hZ (wd hw 125 rfl)) (mvT hZ (wd hw 126 rfl)) (mvT hZ (wd hw 127 rfl)) (mvT hZ (wd hw 128 rfl)) (by decide) (backOf (W := 0) (rm_alem l Z a0 hw [] a (1 : Int32) h0 n0 O0 Fz (by decide)) hZ (wd hw 129 rfl) (wd hw 28 rfl) (by decide) (by decide)) q3a q3b q3c (g := (mkF m 32 #[rv a, .unset] [(.ref a)])) rfl (by rw [hml]; rfl) (argsL := []) (rest := []) (lenOf pd___Z rfl) rfl (by show 2 * 0 + _ ≤ _; exact Nat.le_of_eq rfl) (hb hby d17_32) rfl e2 (by decide) (by decide) (c' := 0) (s' := 0) rfl rfl
  clear q3a q3b q3c kq3 cq3
  obtain ⟨rfl, Nq3, eq3⟩ := hQ3
  have N3 := Fr.app N0 Nq3
  refine own_st (T' := T3) (g' := (mkF m 37 #[rv a, .unset] [(.int (0 : Int32))])) st3 ?_
  clear st3
  refine own_st (T' := T3) (g' := (mkF m 44 #[rv a, .unset] [])) (fun _ k_ => XS.ifYes X3.here hx rfl (pc0 := 37) (pc' := 44) rfl (hb hby d17_37) rfl ((if0 _ _).trans (teq (rfl : (0 : Int32) = (0 : Int32))).1) (by decide) (by decide) k_) ?_
  refine own_st (T' := T3) (g' := (mkF m 45 #[rv a, .unset] [(.ref a)])) (fun _ k_ => XS.aloadN X3.here hx rfl (hb hby d17_44) rfl rfl  k_) ?_
  obtain ⟨cq4, kq4, q4a, q4b, q4c⟩ := isOf hZ eq3 E_a
  obtain ⟨_, T4, L4, X4, hQ4, st4⟩ := own_callF X3 hx (xi := own_m28) (y := own_m25) hown (mvT hZ (wd hw 130 rfl)) (mvT hZ (wd hw 131 rfl)) (mvT hZ (wd hw 132 rfl)) (mvT hZ (wd hw 133 rfl)) (mvT hZ (wd hw 134 rfl)) (mvT hZ (wd hw 135 rfl)) (mvT hZ (wd hw 136 rfl)) (mvT hZ (wd hw 128 rfl)) (by decide) (backOf (W := 0) (rm_tar_1 l Z a0 hw [] a t kO mir y0 h0 n0 O0 Fe Fz V_t OV FC MIR I_y0) hZ (wd hw 137 rfl) (wd hw 28 rfl) (by decide) (by decide)) q4a q4b q4c (g := (mkF m 45 #[rv a, .unset] [(.ref a)])) rfl (by rw [hml]; rfl) (argsL := []) (rest := []) (lenOf pd____Ljava_lang_Object_ rfl) rfl (by show 2 * 0 + _ ≤ _; exact Nat.le_of_eq rfl) (hb hby d17_45) rfl eq3 (by decide) (by decide) (c' := 1) (s' := 1) rfl rfl
  clear q4a q4b q4c kq4 cq4
  obtain ⟨u4, rfl, Nq4, K4, fq4_0, xq4_fresh_u⟩ := hQ4
  have N4 := Fr.app N3 Nq4
  refine own_st (T' := T4) (g' := (mkF m 50 #[rv a, .unset] [(.ref u4)])) st4 ?_
  clear st4
  have f5 := own_insK I_y0 K4
  have f6 := O0.keep K4 all0
  have f7 := (Keep.refl h0 []).trans K4 all0
  obtain ⟨_, T8, L8, X8, hQ8, st8⟩ := own_callS X4 hx (y := own_m26) hown (mvT hZ (wd hw 160 rfl)) (mvT hZ (wd hw 161 rfl)) (mvT hZ (wd hw 109 rfl)) (mvT hZ (wd hw 162 rfl)) (by decide) (backOf (W := 0) (rm_lof_1 l Z a0 hw [] u4 kO em y0 T4.heap n0 f6 fq4_0 OV FC SEm f5) hZ (wd hw 162 rfl) (wd hw 109 rfl) (by decide) (by decide)) (g := (mkF m 50 #[rv a, .unset] [(.ref u4)])) rfl (by rw [hml]; rfl) (argsL := [(.ref u4)]) (rest := []) (lenOf pd___Ljava_lang_Object__Ljava_util_List_ rfl) rfl (by show 2 * 0 + _ ≤ _; exact Nat.le_of_eq rfl) (hb hby d17_50) rfl rfl (by decide) (by decide) (c' := 2) (s' := 3) rfl rfl
  obtain ⟨x8, rfl, Nq8, K8, fq8_0, fq8_1, fq8_2, xq8_fresh_x⟩ := hQ8
  have N8 := Fr.app N4 Nq8
  refine own_st (T' := T8) (g' := (mkF m 53 #[rv a, .unset] [(.ref x8)])) st8 ?_
  clear st8
  have f9 := f7.trans K8 all0
  exact own_retA X8 hx hret rfl rfl hlk (hb hby d17_53) (by decide) (by decide) ⟨x8, rfl, N8, f9, fq8_0, fq8_1, fq8_2, (Nat.le_trans f7.1 xq8_fresh_x)⟩
theorem d16_0 : decode jdk_40_method_48_code 0 = .ok (.aload_n 0, 1) := by decide +kernel
theorem d16_1 : decode jdk_40_method_48_code 1 = .ok (.invokestatic 112, 3) := by decide +kernel
theorem d16_4 : decode jdk_40_method_48_code 4 = .ok (.areturn, 1) := by decide +kernel
theorem pd__Ljava_util_Collection__Ljava_util_List_ : parseMethodDescriptor "(Ljava/util/Collection;)Ljava/util/List;" = some ⟨[(.object "java/util/Collection")], some (.object "java/util/List")⟩ := by decide +kernel
theorem ef_cpy_1 (m : MethodId) (x0 : Addr) : entryFrame m #[(.ref x0)] 1 = mkF m 0 #[rv x0] [] := by first | (simp [entryFrame, mkF, argsToLocals, Value.category]; done) | rfl
def Q_cpy_1 (Z : State) (a : Addr) (t : Addr) (kO : ClassId) (mir : Addr) (em : Addr) (y0 : Addr) (h0 : Heap) (n0 : Nat) (v : Option Value) (h : Heap) (L : List Loc) : Prop := ∃ (x : Addr), (v = some (.ref x)) ∧ (Fr n0 L) ∧ (Keep h0 h []) ∧ (Exa Z h x "java/util/ImmutableCollections$List12") ∧ (Fld Z h x "java/util/ImmutableCollections$List12" "e0" "Ljava/lang/Object;" (.ref y0)) ∧ (Fld Z h x "java/util/ImmutableCollections$List12" "e1" "Ljava/lang/Object;" (.ref em)) ∧ (h0.size ≤ x)
set_option maxRecDepth 65536 in
set_option maxHeartbeats 40000000 in
theorem rm_cpy_1 (l : Launch) (Z : State) (a0 : Array Value) (hw : ∀ d ∈ tables_1, d.before a0 Z = true) (ws : List Jvm.Cond) (a : Addr) (t : Addr) (kO : ClassId) (mir : Addr) (em : Addr) (y0 : Addr) (h0 : Heap) (n0 : Nat) (O0 : Old Z n0 h0) (E_a : Exa Z h0 a "java/util/ArrayList") (Fe : Fld Z h0 a "java/util/ArrayList" "elementData" "[Ljava/lang/Object;" (.ref t)) (Fz : Fld Z h0 a "java/util/ArrayList" "size" "I" (.int (1 : Int32))) (V_t : Arv Z h0 t kO (.object "java/lang/Object") (10 : Int32) [(.ref y0), .null, .null, .null, .null, .null, .null, .null, .null, .null] .null) (OV : Ovr Z kO "java/lang/Object") (FC : Z.vm.findClass "[Ljava/lang/Object;" = some kO) (MIR : own_Mir Z "[Ljava/lang/Object;" mir) (SEm : Sta Z Z.heap "java/util/ImmutableCollections" "EMPTY" "Ljava/lang/Object;" (.ref em)) (I_y0 : Ins Z h0 y0 "java/lang/Object" true) :
    own_MF l own_m30 (Jvm.Cond.code own_m30 jdk_40_method_48_code 1 (some (.object "java/util/List")) :: ws) ({ frames := 7, cells := 2, slots := 3, locals := 93 } : Room) #[(.ref a)] Z h0 (Q_cpy_1 Z a t kO mir em y0 h0 n0) := by
  refine own_met (own := "java/util/List") (nme := "copyOf") rfl rfl (plainFor_of_name pn_12) ?_
  intro p e s m below meth c s₁ hx hby hml hown hnm X0 e0 hret hlk hZ
  have N0 := Fr.nil n0
  rw [ef_cpy_1 m a]
  refine own_st (T' := s₁) (g' := (mkF m 1 #[rv a] [(.ref a)])) (fun _ k_ => XS.aloadN X0.here hx rfl (hb hby d16_0) rfl rfl  k_) ?_
  obtain ⟨_, T1, L1, X1, hQ1, st1⟩ := own_callS X0 hx (y := own_m29) hown (mvT hZ (wd hw 111 rfl)) (mvT hZ (wd hw 112 rfl)) (mvT hZ (wd hw 113 rfl)) (mvT hZ (wd hw 114 rfl)) (by decide) (backOf (W := 0) (rm_lcp_1 l Z a0 hw [] a t kO mir em y0 h0 n0 O0 E_a Fe Fz V_t OV FC MIR SEm I_y0) hZ (wd hw 114 rfl) (wd hw 113 rfl) (by decide) (by decide)) (g := (mkF m 1 #[rv a] [(.ref a)])) rfl (by rw [hml]; rfl) (argsL := [(.ref a)]) (rest := []) (lenOf pd__Ljava_util_Collection__Ljava_util_List_ rfl) rfl (by show 2 * 0 + _ ≤ _; exact Nat.le_of_eq rfl) (hb hby d16_1) rfl e0 (by decide) (by decide) (c' := 2) (s' := 3) rfl rfl
  obtain ⟨x1, rfl, Nq1, K1, fq1_0, fq1_1, fq1_2, xq1_fresh_x⟩ := hQ1
  have N1 := Fr.app N0 Nq1
  refine own_st (T' := T1) (g' := (mkF m 4 #[rv a] [(.ref x1)])) st1 ?_
  clear st1
  have f2 := (Keep.refl h0 []).trans K1 all0
  exact own_retA X1 hx hret rfl rfl hlk (hb hby d16_4) (by decide) (by decide) ⟨x1, rfl, N1, f2, fq1_0, fq1_1, fq1_2, (Nat.le_trans (Keep.refl h0 []).1 xq1_fresh_x)⟩
theorem ef_cp3_2 (m : MethodId) (x0 : Addr) (x1 : Int32) (x2 : Addr) : entryFrame m #[(.ref x0), (.int x1), (.ref x2)] 4 = mkF m 0 #[rv x0, iv x1, rv x2, .unset] [] := by first | (simp [entryFrame, mkF, argsToLocals, Value.category]; done) | rfl
def Q_cp3_2 (Z : State) (t : Addr) (kO : ClassId) (mir : Addr) (y0 : Addr) (y1 : Addr) (h0 : Heap) (n0 : Nat) (v : Option Value) (h : Heap) (L : List Loc) : Prop := ∃ (u : Addr), (v = some (.ref u)) ∧ (Fr n0 L) ∧ (Keep h0 h []) ∧ (Arv Z h u kO (.object "java/lang/Object") (2 : Int32) [(.ref y0), (.ref y1)] .null) ∧ (h0.size ≤ u)
set_option maxRecDepth 65536 in
set_option maxHeartbeats 40000000 in
theorem rm_cp3_2 (l : Launch) (Z : State) (a0 : Array Value) (hw : ∀ d ∈ tables_1, d.before a0 Z = true) (ws : List Jvm.Cond) (t : Addr) (kO : ClassId) (mir : Addr) (y0 : Addr) (y1 : Addr) (h0 : Heap) (n0 : Nat) (O0 : Old Z n0 h0) (V_t : Arv Z h0 t kO (.object "java/lang/Object") (10 : Int32) [(.ref y0), (.ref y1), .null, .null, .null, .null, .null, .null, .null, .null] .null) (OV : Ovr Z kO "java/lang/Object") (FC : Z.vm.findClass "[Ljava/lang/Object;" = some kO) (MIR : own_Mir Z "[Ljava/lang/Object;" mir) (I_y0 : Ins Z h0 y0 "java/lang/Object" true) (I_y1 : Ins Z h0 y1 "java/lang/Object" true) :
    own_MF l own_m23 (Jvm.Cond.code own_m23 jdk_65_method_120_code 4 (some (.array (.object "java/lang/Object"))) :: ws) ({ frames := 1, cells := 1, slots := 2, locals := 40 } : Room) #[(.ref t), (.int (2 : Int32)), (.ref mir)] Z h0 (Q_cp3_2 Z t kO mir y0 y1 h0 n0) := by
  refine own_met (own := "java/util/Arrays") (nme := "copyOf") rfl rfl (plainFor_of_name pn_11) ?_
  intro p e s m below meth c s₁ hx hby hml hown hnm X0 e0 hret hlk hZ
  have N0 := Fr.nil n0
  rw [ef_cp3_2 m t (2 : Int32) mir]
  refine own_st (T' := s₁) (g' := (mkF m 1 #[rv t, iv (2 : Int32), rv mir, .unset] [(.ref mir)])) (fun _ k_ => XS.aloadN X0.here hx rfl (hb hby d21_0) rfl rfl  k_) ?_
  obtain ⟨T1, X1, e1, st1⟩ := own_ldk X0 hx hZ hown (wd hw 151 rfl) e0 MIR (g := (mkF m 1 #[rv t, iv (2 : Int32), rv mir, .unset] [(.ref mir)])) rfl (hb hby d21_1)
  refine own_st (T' := T1) (g' := (mkF m 3 #[rv t, iv (2 : Int32), rv mir, .unset] [(.ref mir), (.ref mir)])) st1 ?_
  clear st1
  refine own_st (T' := T1) (g' := (mkF m 6 #[rv t, iv (2 : Int32), rv mir, .unset] [])) (fun _ k_ => Jvm.RoadKit.acmp (g := (mkF m 3 #[rv t, iv (2 : Int32), rv mir, .unset] [(.ref mir), (.ref mir)])) X1 hx rfl rfl rfl (pc0 := 3) (pc' := 6) (same := true) rfl (hb hby d21_3) rfl (decide_eq_true rfl) (by decide) (by decide) k_) ?_
  refine own_st (T' := T1) (g' := (mkF m 7 #[rv t, iv (2 : Int32), rv mir, .unset] [(.int (2 : Int32))])) (fun _ k_ => XS.iloadN X1.here hx rfl (hb hby d21_6) rfl  k_) ?_
  obtain ⟨T2, h2, k2, X2, e2, E2, A2, EX2, O2, st2⟩ := newRE X1 hx hZ hown (wd hw 152 rfl) (wd hw 83 rfl) e1 (g := (mkF m 7 #[rv t, iv (2 : Int32), rv mir, .unset] [(.int (2 : Int32))])) rfl (hb hby d21_7) rfl (by decide) (cap := 2) (by decide) (by decide) (by decide) (by decide) (ad := "[Ljava/lang/Object;") (by decide)
  obtain rfl : kO = k2 := own_kk EX2 A2 FC
  clear EX2 O2
  obtain ⟨b2, g2⟩ : ∃ z, z = h0.size := ⟨_, rfl⟩
  rw [← g2] at A2 st2
  have fr2 : n0 ≤ b2 := Nat.le_trans (own_z O0) (Nat.le_of_eq g2.symm)
  have sz2 : h0.size ≤ b2 := Nat.le_trans (Keep.refl h0 []).1 (Nat.le_of_eq g2.symm)
  have V2 : Arv Z h2 b2 kO (.object "java/lang/Object") (2 : Int32) [.null, .null] .null := (Arv.new A2 (by decide)).pad (pad_rep [] .null 2)
  refine own_st (T' := T2) (g' := (mkF m 10 #[rv t, iv (2 : Int32), rv mir, .unset] [(.ref b2)])) st2 ?_
  clear st2
  refine own_st (T' := T2) (g' := (mkF m 24 #[rv t, iv (2 : Int32), rv mir, .unset] [(.ref b2)])) (fun _ k_ => XS.goto X2.here hx rfl (pc0 := 10) (pc' := 24) rfl (hb hby d21_10) (by decide) (by decide) k_) ?_
  refine own_st (T' := T2) (g' := (mkF m 25 #[rv t, iv (2 : Int32), rv mir, rv b2] [])) (fun _ k_ => XS.astoreN X2.here hx rfl (hb hby d21_24) rfl rfl (l' := #[rv t, iv (2 : Int32), rv mir, rv b2]) rfl k_) ?_
  refine own_st (T' := T2) (g' := (mkF m 26 #[rv t, iv (2 : Int32), rv mir, rv b2] [(.ref t)])) (fun _ k_ => XS.aloadN X2.here hx rfl (hb hby d21_25) rfl rfl  k_) ?_
  refine own_st (T' := T2) (g' := (mkF m 27 #[rv t, iv (2 : Int32), rv mir, rv b2] [(.int (0 : Int32)), (.ref t)])) (fun _ k_ => XS.iconst X2.here hx rfl (hb hby d21_26) k_) ?_
  refine own_st (T' := T2) (g' := (mkF m 28 #[rv t, iv (2 : Int32), rv mir, rv b2] [(.ref b2), (.int (0 : Int32)), (.ref t)])) (fun _ k_ => XS.aloadN X2.here hx rfl (hb hby d21_27) rfl rfl  k_) ?_
  refine own_st (T' := T2) (g' := (mkF m 29 #[rv t, iv (2 : Int32), rv mir, rv b2] [(.int (0 : Int32)), (.ref b2), (.int (0 : Int32)), (.ref t)])) (fun _ k_ => XS.iconst X2.here hx rfl (hb hby d21_28) k_) ?_
  refine own_st (T' := T2) (g' := (mkF m 30 #[rv t, iv (2 : Int32), rv mir, rv b2] [(.ref t), (.int (0 : Int32)), (.ref b2), (.int (0 : Int32)), (.ref t)])) (fun _ k_ => XS.aloadN X2.here hx rfl (hb hby d21_29) rfl rfl  k_) ?_
  have f4 := V_t.ext E2
  obtain ⟨cl3, Ar3, -, S3, N3, -, -⟩ := id f4
  refine own_st (T' := T2) (g' := (mkF m 31 #[rv t, iv (2 : Int32), rv mir, rv b2] [(.int (10 : Int32)), (.int (0 : Int32)), (.ref b2), (.int (0 : Int32)), (.ref t)])) (fun t_ k_ => X2.arraylength hx (by rw [e2]; exact Ar3.1) (State.isArrayOf_alike hZ.alike Ar3.2.1) (g := (mkF m 30 #[rv t, iv (2 : Int32), rv mir, rv b2] [(.ref t), (.int (0 : Int32)), (.ref b2), (.int (0 : Int32)), (.ref t)])) rfl rfl (hb hby d21_30) _ (by rw [len_of S3 N3]; exact k_)) ?_
  refine own_st (T' := T2) (g' := (mkF m 32 #[rv t, iv (2 : Int32), rv mir, rv b2] [(.int (2 : Int32)), (.int (10 : Int32)), (.int (0 : Int32)), (.ref b2), (.int (0 : Int32)), (.ref t)])) (fun _ k_ => XS.iloadN X2.here hx rfl (hb hby d21_31) rfl  k_) ?_
  have f5 := O0.ext E2
  obtain ⟨_, T6, L6, X6, hQ6, st6⟩ := own_callS X2 hx (y := own_m18) hown (mvT hZ (wd hw 153 rfl)) (mvT hZ (wd hw 154 rfl)) (mvT hZ (wd hw 80 rfl)) (mvT hZ (wd hw 155 rfl)) (by decide) (backOf (W := 4) (rm_min l Z a0 hw [] (10 : Int32) (2 : Int32) h2 n0 f5 (by decide)) hZ (wd hw 155 rfl) (wd hw 80 rfl) (by decide) (by decide)) (g := (mkF m 32 #[rv t, iv (2 : Int32), rv mir, rv b2] [(.int (2 : Int32)), (.int (10 : Int32)), (.int (0 : Int32)), (.ref b2), (.int (0 : Int32)), (.ref t)])) rfl (by rw [hml]; rfl) (argsL := [(.int (10 : Int32)), (.int (2 : Int32))]) (rest := [(.int (0 : Int32)), (.ref b2), (.int (0 : Int32)), (.ref t)]) (lenOf pd__II_I rfl) rfl (by show 2 * 0 + _ ≤ _; exact Nat.le_of_eq rfl) (hb hby d21_32) rfl e2 (by decide) (by decide) (c' := 1) (s' := 2) rfl rfl
  obtain ⟨rfl, Nq6, eq6⟩ := hQ6
  have N6 := Fr.app N0 Nq6
  refine own_st (T' := T6) (g' := (mkF m 35 #[rv t, iv (2 : Int32), rv mir, rv b2] [(.int (2 : Int32)), (.int (0 : Int32)), (.ref b2), (.int (0 : Int32)), (.ref t)])) st6 ?_
  clear st6
  obtain ⟨cl7, Ar7, q7, -⟩ := id V2
  have f8 := Ins.ext E2 I_y1
  have f9 := Ins.ext E2 I_y0
  obtain ⟨T7, h7, L7, X7, e7, N7, K7, Va7, st7⟩ := cpA X6 hx hZ hown (wd hw 156 rfl) (wd hw 159 rfl) (wd hw 157 rfl) (wd hw 158 rfl) eq6 f4 V2 (sp := (0 : Int32)) (dp := (0 : Int32)) (nn := (2 : Int32)) (us := [(.ref y0), (.ref y1)]) (Or.inr ⟨rfl, rfl, ⟨Sto.ofV Ar7 q7 OV f9, ⟨Sto.ofV Ar7 q7 OV f8, trivial⟩⟩⟩) (by decide) (by decide) (by decide) (by decide) (by decide) rfl (Nat.le_of_ble_eq_true rfl) N6 fr2 (g := (mkF m 35 #[rv t, iv (2 : Int32), rv mir, rv b2] [(.int (2 : Int32)), (.int (0 : Int32)), (.ref b2), (.int (0 : Int32)), (.ref t)])) rfl (by rw [hml]; rfl) (rest := []) rfl (hb hby d21_35) (by decide) (W := 0) (by show 2 * 0 + _ ≤ _; exact Nat.le_of_eq rfl) (by decide)
  clear Ar7 q7 cl7
  have V7 : Arv Z h7 b2 kO (.object "java/lang/Object") (2 : Int32) [(.ref y0), (.ref y1)] .null := Va7
  refine own_st (T' := T7) (g' := (mkF m 38 #[rv t, iv (2 : Int32), rv mir, rv b2] [])) st7 ?_
  clear st7
  refine own_st (T' := T7) (g' := (mkF m 39 #[rv t, iv (2 : Int32), rv mir, rv b2] [(.ref b2)])) (fun _ k_ => XS.aloadN X7.here hx rfl (hb hby d21_38) rfl rfl  k_) ?_
  have f10 := (Keep.refl h0 []).ext E2
  have f11 := f10.trans K7 (allS (Or.inr sz2) all0)
  exact own_retA X7 hx hret rfl rfl hlk (hb hby d21_39) (by decide) (by decide) (by rw [e7]; exact ⟨b2, rfl, N7, f11, V7, sz2⟩)
theorem ef_cp2_2 (m : MethodId) (x0 : Addr) (x1 : Int32) : entryFrame m #[(.ref x0), (.int x1)] 2 = mkF m 0 #[rv x0, iv x1] [] := by first | (simp [entryFrame, mkF, argsToLocals, Value.category]; done) | rfl
def Q_cp2_2 (Z : State) (t : Addr) (kO : ClassId) (mir : Addr) (y0 : Addr) (y1 : Addr) (h0 : Heap) (n0 : Nat) (v : Option Value) (h : Heap) (L : List Loc) : Prop := ∃ (u : Addr), (v = some (.ref u)) ∧ (Fr n0 L) ∧ (Keep h0 h []) ∧ (Arv Z h u kO (.object "java/lang/Object") (2 : Int32) [(.ref y0), (.ref y1)] .null) ∧ (h0.size ≤ u)
set_option maxRecDepth 65536 in
set_option maxHeartbeats 40000000 in
theorem rm_cp2_2 (l : Launch) (Z : State) (a0 : Array Value) (hw : ∀ d ∈ tables_1, d.before a0 Z = true) (ws : List Jvm.Cond) (t : Addr) (kO : ClassId) (mir : Addr) (y0 : Addr) (y1 : Addr) (h0 : Heap) (n0 : Nat) (O0 : Old Z n0 h0) (V_t : Arv Z h0 t kO (.object "java/lang/Object") (10 : Int32) [(.ref y0), (.ref y1), .null, .null, .null, .null, .null, .null, .null, .null] .null) (OV : Ovr Z kO "java/lang/Object") (FC : Z.vm.findClass "[Ljava/lang/Object;" = some kO) (MIR : own_Mir Z "[Ljava/lang/Object;" mir) (I_y0 : Ins Z h0 y0 "java/lang/Object" true) (I_y1 : Ins Z h0 y1 "java/lang/Object" true) :
    own_MF l own_m24 (Jvm.Cond.code own_m24 jdk_65_method_119_code 2 (some (.array (.object "java/lang/Object"))) :: ws) ({ frames := 2, cells := 1, slots := 2, locals := 55 } : Room) #[(.ref t), (.int (2 : Int32))] Z h0 (Q_cp2_2 Z t kO mir y0 y1 h0 n0) := by
  refine own_met (own := "java/util/Arrays") (nme := "copyOf") rfl rfl (plainFor_of_name pn_11) ?_
  intro p e s m below meth c s₁ hx hby hml hown hnm X0 e0 hret hlk hZ
  have N0 := Fr.nil n0
  rw [ef_cp2_2 m t (2 : Int32)]
  refine own_st (T' := s₁) (g' := (mkF m 1 #[rv t, iv (2 : Int32)] [(.ref t)])) (fun _ k_ => XS.aloadN X0.here hx rfl (hb hby d20_0) rfl rfl  k_) ?_
  refine own_st (T' := s₁) (g' := (mkF m 2 #[rv t, iv (2 : Int32)] [(.int (2 : Int32)), (.ref t)])) (fun _ k_ => XS.iloadN X0.here hx rfl (hb hby d20_1) rfl  k_) ?_
  refine own_st (T' := s₁) (g' := (mkF m 3 #[rv t, iv (2 : Int32)] [(.ref t), (.int (2 : Int32)), (.ref t)])) (fun _ k_ => XS.aloadN X0.here hx rfl (hb hby d20_2) rfl rfl  k_) ?_
  obtain ⟨T1, X1, e1, st1⟩ := own_gcls X0 hx hZ hown (wd hw 142 rfl) (wd hw 143 rfl) (wd hw 119 rfl) (wd hw 145 rfl) (wd hw 144 rfl) (wd hw 146 rfl) e0 (own_exaArv V_t FC) MIR (g := (mkF m 3 #[rv t, iv (2 : Int32)] [(.ref t), (.int (2 : Int32)), (.ref t)])) rfl (by rw [hml]; rfl) (rest := [(.int (2 : Int32)), (.ref t)]) rfl (hb hby d20_3) (by decide) (W := 2) (by show 2 * 0 + _ ≤ _; exact Nat.le_of_eq rfl) (by decide)
  refine own_st (T' := T1) (g' := (mkF m 6 #[rv t, iv (2 : Int32)] [(.ref mir), (.int (2 : Int32)), (.ref t)])) st1 ?_
  clear st1
  obtain ⟨_, T2, L2, X2, hQ2, st2⟩ := own_callS X1 hx (y := own_m23) hown (mvT hZ (wd hw 148 rfl)) (mvT hZ (wd hw 149 rfl)) (mvT hZ (wd hw 140 rfl)) (mvT hZ (wd hw 150 rfl)) (by decide) (backOf (W := 0) (rm_cp3_2 l Z a0 hw [] t kO mir y0 y1 h0 n0 O0 V_t OV FC MIR I_y0 I_y1) hZ (wd hw 150 rfl) (wd hw 140 rfl) (by decide) (by decide)) (g := (mkF m 6 #[rv t, iv (2 : Int32)] [(.ref mir), (.int (2 : Int32)), (.ref t)])) rfl (by rw [hml]; rfl) (argsL := [(.ref t), (.int (2 : Int32)), (.ref mir)]) (rest := []) (lenOf pd___Ljava_lang_Object_ILjava_lang_Class___Ljava_lang_Object_ rfl) rfl (by show 2 * 0 + _ ≤ _; exact Nat.le_of_eq rfl) (hb hby d20_6) rfl e1 (by decide) (by decide) (c' := 1) (s' := 2) rfl rfl
  obtain ⟨u2, rfl, Nq2, K2, fq2_0, xq2_fresh_u⟩ := hQ2
  have N2 := Fr.app N0 Nq2
  refine own_st (T' := T2) (g' := (mkF m 9 #[rv t, iv (2 : Int32)] [(.ref u2)])) st2 ?_
  clear st2
  have f3 := (Keep.refl h0 []).trans K2 all0
  exact own_retA X2 hx hret rfl rfl hlk (hb hby d20_9) (by decide) (by decide) ⟨u2, rfl, N2, f3, fq2_0, (Nat.le_trans (Keep.refl h0 []).1 xq2_fresh_u)⟩
theorem ef_tar_2 (m : MethodId) (x0 : Addr) : entryFrame m #[(.ref x0)] 1 = mkF m 0 #[rv x0] [] := by first | (simp [entryFrame, mkF, argsToLocals, Value.category]; done) | rfl
def Q_tar_2 (Z : State) (a : Addr) (t : Addr) (kO : ClassId) (mir : Addr) (y0 : Addr) (y1 : Addr) (h0 : Heap) (n0 : Nat) (v : Option Value) (h : Heap) (L : List Loc) : Prop := ∃ (u : Addr), (v = some (.ref u)) ∧ (Fr n0 L) ∧ (Keep h0 h []) ∧ (Arv Z h u kO (.object "java/lang/Object") (2 : Int32) [(.ref y0), (.ref y1)] .null) ∧ (h0.size ≤ u)
set_option maxRecDepth 65536 in
set_option maxHeartbeats 40000000 in
theorem rm_tar_2 (l : Launch) (Z : State) (a0 : Array Value) (hw : ∀ d ∈ tables_1, d.before a0 Z = true) (ws : List Jvm.Cond) (a : Addr) (t : Addr) (kO : ClassId) (mir : Addr) (y0 : Addr) (y1 : Addr) (h0 : Heap) (n0 : Nat) (O0 : Old Z n0 h0) (Fe : Fld Z h0 a "java/util/ArrayList" "elementData" "[Ljava/lang/Object;" (.ref t)) (Fz : Fld Z h0 a "java/util/ArrayList" "size" "I" (.int (2 : Int32))) (V_t : Arv Z h0 t kO (.object "java/lang/Object") (10 : Int32) [(.ref y0), (.ref y1), .null, .null, .null, .null, .null, .null, .null, .null] .null) (OV : Ovr Z kO "java/lang/Object") (FC : Z.vm.findClass "[Ljava/lang/Object;" = some kO) (MIR : own_Mir Z "[Ljava/lang/Object;" mir) (I_y0 : Ins Z h0 y0 "java/lang/Object" true) (I_y1 : Ins Z h0 y1 "java/lang/Object" true) :
    own_MF l own_m25 (Jvm.Cond.code own_m25 jdk_38_method_16_code 1 (some (.array (.object "java/lang/Object"))) :: ws) ({ frames := 3, cells := 1, slots := 2, locals := 68 } : Room) #[(.ref a)] Z h0 (Q_tar_2 Z a t kO mir y0 y1 h0 n0) := by
  refine own_met (own := "java/util/ArrayList") (nme := "toArray") rfl rfl (plainFor_of_name pn_5) ?_
  intro p e s m below meth c s₁ hx hby hml hown hnm X0 e0 hret hlk hZ
  have N0 := Fr.nil n0
  rw [ef_tar_2 m a]
  refine own_st (T' := s₁) (g' := (mkF m 1 #[rv a] [(.ref a)])) (fun _ k_ => XS.aloadN X0.here hx rfl (hb hby d19_0) rfl rfl  k_) ?_
  obtain ⟨T1, X1, e1, st1⟩ := getF X0 hx hZ hown (host := "") (Or.inl (wd hw 48 rfl)) Via.refl e0 Fe (g := (mkF m 1 #[rv a] [(.ref a)])) rfl rfl (hb hby d19_1)
  refine own_st (T' := T1) (g' := (mkF m 4 #[rv a] [(.ref t)])) st1 ?_
  clear st1
  refine own_st (T' := T1) (g' := (mkF m 5 #[rv a] [(.ref a), (.ref t)])) (fun _ k_ => XS.aloadN X1.here hx rfl (hb hby d19_4) rfl rfl  k_) ?_
  obtain ⟨T2, X2, e2, st2⟩ := getF X1 hx hZ hown (host := "") (Or.inl (wd hw 61 rfl)) Via.refl e1 Fz (g := (mkF m 5 #[rv a] [(.ref a), (.ref t)])) rfl rfl (hb hby d19_5)
  refine own_st (T' := T2) (g' := (mkF m 8 #[rv a] [(.int (2 : Int32)), (.ref t)])) st2 ?_
  clear st2
  obtain ⟨_, T3, L3, X3, hQ3, st3⟩ := own_callS X2 hx (y := own_m24) hown (mvT hZ (wd hw 138 rfl)) (mvT hZ (wd hw 139 rfl)) (mvT hZ (wd hw 140 rfl)) (mvT hZ (wd hw 141 rfl)) (by decide) (backOf (W := 0) (rm_cp2_2 l Z a0 hw [] t kO mir y0 y1 h0 n0 O0 V_t OV FC MIR I_y0 I_y1) hZ (wd hw 141 rfl) (wd hw 140 rfl) (by decide) (by decide)) (g := (mkF m 8 #[rv a] [(.int (2 : Int32)), (.ref t)])) rfl (by rw [hml]; rfl) (argsL := [(.ref t), (.int (2 : Int32))]) (rest := []) (lenOf pd___Ljava_lang_Object_I__Ljava_lang_Object_ rfl) rfl (by show 2 * 0 + _ ≤ _; exact Nat.le_of_eq rfl) (hb hby d19_8) rfl e2 (by decide) (by decide) (c' := 1) (s' := 2) rfl rfl
  obtain ⟨u3, rfl, Nq3, K3, fq3_0, xq3_fresh_u⟩ := hQ3
  have N3 := Fr.app N0 Nq3
  refine own_st (T' := T3) (g' := (mkF m 11 #[rv a] [(.ref u3)])) st3 ?_
  clear st3
  have f4 := (Keep.refl h0 []).trans K3 all0
  exact own_retA X3 hx hret rfl rfl hlk (hb hby d19_11) (by decide) (by decide) ⟨u3, rfl, N3, f4, fq3_0, (Nat.le_trans (Keep.refl h0 []).1 xq3_fresh_u)⟩
theorem d23_45 : decode jdk_40_method_47_code 45 = .ok (.new 96, 3) := by decide +kernel
theorem d23_48 : decode jdk_40_method_47_code 48 = .ok (.dup, 1) := by decide +kernel
theorem d23_49 : decode jdk_40_method_47_code 49 = .ok (.aload_n 0, 1) := by decide +kernel
theorem d23_50 : decode jdk_40_method_47_code 50 = .ok (.iconst 0, 1) := by decide +kernel
theorem d23_51 : decode jdk_40_method_47_code 51 = .ok (.aaload, 1) := by decide +kernel
theorem d23_52 : decode jdk_40_method_47_code 52 = .ok (.aload_n 0, 1) := by decide +kernel
theorem d23_53 : decode jdk_40_method_47_code 53 = .ok (.iconst 1, 1) := by decide +kernel
theorem d23_54 : decode jdk_40_method_47_code 54 = .ok (.aaload, 1) := by decide +kernel
theorem d23_55 : decode jdk_40_method_47_code 55 = .ok (.invokespecial 100, 3) := by decide +kernel
theorem d23_58 : decode jdk_40_method_47_code 58 = .ok (.areturn, 1) := by decide +kernel
theorem pd__Ljava_lang_Object_Ljava_lang_Object__V : parseMethodDescriptor "(Ljava/lang/Object;Ljava/lang/Object;)V" = some ⟨[(.object "java/lang/Object"), (.object "java/lang/Object")], none⟩ := by decide +kernel
theorem ef_lof_2 (m : MethodId) (x0 : Addr) : entryFrame m #[(.ref x0)] 2 = mkF m 0 #[rv x0, .unset] [] := by first | (simp [entryFrame, mkF, argsToLocals, Value.category]; done) | rfl
def Q_lof_2 (Z : State) (u : Addr) (kO : ClassId) (y0 : Addr) (y1 : Addr) (h0 : Heap) (n0 : Nat) (v : Option Value) (h : Heap) (L : List Loc) : Prop := ∃ (x : Addr), (v = some (.ref x)) ∧ (Fr n0 L) ∧ (Keep h0 h []) ∧ (Exa Z h x "java/util/ImmutableCollections$List12") ∧ (Fld Z h x "java/util/ImmutableCollections$List12" "e0" "Ljava/lang/Object;" (.ref y0)) ∧ (Fld Z h x "java/util/ImmutableCollections$List12" "e1" "Ljava/lang/Object;" (.ref y1)) ∧ (h0.size ≤ x)
set_option maxRecDepth 65536 in
set_option maxHeartbeats 40000000 in
theorem rm_lof_2 (l : Launch) (Z : State) (a0 : Array Value) (hw : ∀ d ∈ tables_1, d.before a0 Z = true) (ws : List Jvm.Cond) (u : Addr) (kO : ClassId) (y0 : Addr) (y1 : Addr) (h0 : Heap) (n0 : Nat) (O0 : Old Z n0 h0) (V_u : Arv Z h0 u kO (.object "java/lang/Object") (2 : Int32) [(.ref y0), (.ref y1)] .null) (OV : Ovr Z kO "java/lang/Object") (FC : Z.vm.findClass "[Ljava/lang/Object;" = some kO) (I_y0 : Ins Z h0 y0 "java/lang/Object" true) (I_y1 : Ins Z h0 y1 "java/lang/Object" true) :
    own_MF l own_m26 (Jvm.Cond.code own_m26 jdk_40_method_47_code 2 (some (.object "java/util/List")) :: ws) ({ frames := 5, cells := 1, slots := 2, locals := 63 } : Room) #[(.ref u)] Z h0 (Q_lof_2 Z u kO y0 y1 h0 n0) := by
  refine own_met (own := "java/util/List") (nme := "of") rfl rfl (plainFor_of_name pn_12) ?_
  intro p e s m below meth c s₁ hx hby hml hown hnm X0 e0 hret hlk hZ
  have N0 := Fr.nil n0
  rw [ef_lof_2 m u]
  refine own_st (T' := s₁) (g' := (mkF m 1 #[rv u, .unset] [(.ref u)])) (fun _ k_ => XS.aloadN X0.here hx rfl (hb hby d23_0) rfl rfl  k_) ?_
  obtain ⟨cl1, Ar1, -, S1, N1, -, -⟩ := id V_u
  refine own_st (T' := s₁) (g' := (mkF m 2 #[rv u, .unset] [(.int (2 : Int32))])) (fun t_ k_ => X0.arraylength hx (by rw [e0]; exact Ar1.1) (State.isArrayOf_alike hZ.alike Ar1.2.1) (g := (mkF m 1 #[rv u, .unset] [(.ref u)])) rfl rfl (hb hby d23_1) _ (by rw [len_of S1 N1]; exact k_)) ?_
  refine own_st (T' := s₁) (g' := (mkF m 45 #[rv u, .unset] [])) (fun t_ k_ => X0.tableswitchIn hx (g := (mkF m 2 #[rv u, .unset] [(.int (2 : Int32))])) rfl (k := (2 : Int32)) (rest := []) rfl (hb hby d23_2) (by decide) (off := 43) rfl (show (0 : Int) ≤ ((2 : Nat) : Int) + 43 by decide) _ k_) ?_
  obtain ⟨T2, h2, X2, e2, E2, A2, D2, -, st2⟩ := newO X0 hx hZ hown (wd hw 197 rfl) (wd hw 198 rfl) (wd hw 199 rfl) e0 (g := (mkF m 45 #[rv u, .unset] [])) rfl (hb hby d23_45) (by decide) (by decide)
  obtain ⟨b2, g2⟩ : ∃ z, z = h0.size := ⟨_, rfl⟩
  rw [← g2] at A2 D2 st2
  have fr2 : n0 ≤ b2 := Nat.le_trans (own_z O0) (Nat.le_of_eq g2.symm)
  have sz2 : h0.size ≤ b2 := Nat.le_trans (Keep.refl h0 []).1 (Nat.le_of_eq g2.symm)
  have F2_e0 : Fld Z h2 b2 "java/util/ImmutableCollections$List12" "e0" "Ljava/lang/Object;" .null := D2 (Or.inr (wd hw 210 rfl)) (ty := (.object "java/lang/Object")) (by decide)
  have F2_e1 : Fld Z h2 b2 "java/util/ImmutableCollections$List12" "e1" "Ljava/lang/Object;" .null := D2 (Or.inr (wd hw 212 rfl)) (ty := (.object "java/lang/Object")) (by decide)
  refine own_st (T' := T2) (g' := (mkF m 48 #[rv u, .unset] [(.ref b2)])) st2 ?_
  clear st2
  refine own_st (T' := T2) (g' := (mkF m 49 #[rv u, .unset] [(.ref b2), (.ref b2)])) (fun _ k_ => XS.dup X2.here hx rfl (hb hby d23_48) rfl rfl k_) ?_
  refine own_st (T' := T2) (g' := (mkF m 50 #[rv u, .unset] [(.ref u), (.ref b2), (.ref b2)])) (fun _ k_ => XS.aloadN X2.here hx rfl (hb hby d23_49) rfl rfl  k_) ?_
  refine own_st (T' := T2) (g' := (mkF m 51 #[rv u, .unset] [(.int (0 : Int32)), (.ref u), (.ref b2), (.ref b2)])) (fun _ k_ => XS.iconst X2.here hx rfl (hb hby d23_50) k_) ?_
  have f3 := V_u.ext E2
  obtain ⟨cl4, Ar4, q4, S4, N4, H4, G4⟩ := id f3
  have hin4 : ¬ ((0 : Int32) < 0 ∨ cl4.slots.size ≤ ((0 : Int32)).toNatClampNeg) := inb_of S4 ⟨by decide, by decide⟩
  refine own_st (T' := T2) (g' := (mkF m 52 #[rv u, .unset] [(.ref y0), (.ref b2), (.ref b2)])) (X2.aaload hx (j := (0 : Int32)) (v := (.ref y0)) (by rw [e2]; exact Ar4.1) (State.isArrayOf_alike hZ.alike Ar4.2.1) rfl Ar4.2.2 hin4 (H4.at hin4 rfl) (g := (mkF m 51 #[rv u, .unset] [(.int (0 : Int32)), (.ref u), (.ref b2), (.ref b2)])) rfl rfl (hb hby d23_51)) ?_
  clear hin4 G4 H4 N4 S4 q4 Ar4 cl4
  refine own_st (T' := T2) (g' := (mkF m 53 #[rv u, .unset] [(.ref u), (.ref y0), (.ref b2), (.ref b2)])) (fun _ k_ => XS.aloadN X2.here hx rfl (hb hby d23_52) rfl rfl  k_) ?_
  refine own_st (T' := T2) (g' := (mkF m 54 #[rv u, .unset] [(.int (1 : Int32)), (.ref u), (.ref y0), (.ref b2), (.ref b2)])) (fun _ k_ => XS.iconst X2.here hx rfl (hb hby d23_53) k_) ?_
  obtain ⟨cl5, Ar5, q5, S5, N5, H5, G5⟩ := id f3
  have hin5 : ¬ ((1 : Int32) < 0 ∨ cl5.slots.size ≤ ((1 : Int32)).toNatClampNeg) := inb_of S5 ⟨by decide, by decide⟩
  refine own_st (T' := T2) (g' := (mkF m 55 #[rv u, .unset] [(.ref y1), (.ref y0), (.ref b2), (.ref b2)])) (X2.aaload hx (j := (1 : Int32)) (v := (.ref y1)) (by rw [e2]; exact Ar5.1) (State.isArrayOf_alike hZ.alike Ar5.2.1) rfl Ar5.2.2 hin5 (H5.at hin5 rfl) (g := (mkF m 54 #[rv u, .unset] [(.int (1 : Int32)), (.ref u), (.ref y0), (.ref b2), (.ref b2)])) rfl rfl (hb hby d23_54)) ?_
  clear hin5 G5 H5 N5 S5 q5 Ar5 cl5
  have f6 := O0.ext E2
  obtain ⟨_, T7, L7, X7, hQ7, st7⟩ := own_callI X2 hx (y := own_m20) rfl hown (mvT hZ (wd hw 200 rfl)) (mvT hZ (wd hw 201 rfl)) (mvT hZ (wd hw 203 rfl)) (by decide) (backOf (W := 1) (rm_l12b l Z a0 hw [] b2 y0 y1 h2 n0 f6 A2 F2_e0 F2_e1 fr2) hZ (wd hw 203 rfl) (wd hw 199 rfl) (by decide) (by decide)) (g := (mkF m 55 #[rv u, .unset] [(.ref y1), (.ref y0), (.ref b2), (.ref b2)])) rfl (by rw [hml]; rfl) (a := b2) (argsL := [(.ref y0), (.ref y1)]) (rest := [(.ref b2)]) (lenOf pd__Ljava_lang_Object_Ljava_lang_Object__V rfl) rfl (by show 2 * 0 + _ ≤ _; exact Nat.le_of_eq rfl) (hb hby d23_55) rfl e2 (by decide) (by decide) (c' := 1) (s' := 2) rfl rfl
  obtain ⟨rfl, Nq7, K7, fq7_0, fq7_1, fq7_2⟩ := hQ7
  have N7 := Fr.app N0 Nq7
  refine own_st (T' := T7) (g' := (mkF m 58 #[rv u, .unset] [(.ref b2)])) st7 ?_
  clear st7
  have f8 := (Keep.refl h0 []).ext E2
  have f9 := f8.trans K7 (allS (Or.inr sz2) all0)
  exact own_retA X7 hx hret rfl rfl hlk (hb hby d23_58) (by decide) (by decide) ⟨b2, rfl, N7, f9, fq7_0, fq7_1, fq7_2, sz2⟩
theorem ef_lcp_2 (m : MethodId) (x0 : Addr) : entryFrame m #[(.ref x0)] 2 = mkF m 0 #[rv x0, .unset] [] := by first | (simp [entryFrame, mkF, argsToLocals, Value.category]; done) | rfl
def Q_lcp_2 (Z : State) (a : Addr) (t : Addr) (kO : ClassId) (mir : Addr) (y0 : Addr) (y1 : Addr) (h0 : Heap) (n0 : Nat) (v : Option Value) (h : Heap) (L : List Loc) : Prop := ∃ (x : Addr), (v = some (.ref x)) ∧ (Fr n0 L) ∧ (Keep h0 h []) ∧ (Exa Z h x "java/util/ImmutableCollections$List12") ∧ (Fld Z h x "java/util/ImmutableCollections$List12" "e0" "Ljava/lang/Object;" (.ref y0)) ∧ (Fld Z h x "java/util/ImmutableCollections$List12" "e1" "Ljava/lang/Object;" (.ref y1)) ∧ (h0.size ≤ x)
set_option maxRecDepth 65536 in
set_option maxHeartbeats 40000000 in
theorem rm_lcp_2 (l : Launch) (Z : State) (a0 : Array Value) (hw : ∀ d ∈ tables_1, d.before a0 Z = true) (ws : List Jvm.Cond) (a : Addr) (t : Addr) (kO : ClassId) (mir : Addr) (y0 : Addr) (y1 : Addr) (h0 : Heap) (n0 : Nat) (O0 : Old Z n0 h0) (E_a : Exa Z h0 a "java/util/ArrayList") (Fe : Fld Z h0 a "java/util/ArrayList" "elementData" "[Ljava/lang/Object;" (.ref t)) (Fz : Fld Z h0 a "java/util/ArrayList" "size" "I" (.int (2 : Int32))) (V_t : Arv Z h0 t kO (.object "java/lang/Object") (10 : Int32) [(.ref y0), (.ref y1), .null, .null, .null, .null, .null, .null, .null, .null] .null) (OV : Ovr Z kO "java/lang/Object") (FC : Z.vm.findClass "[Ljava/lang/Object;" = some kO) (MIR : own_Mir Z "[Ljava/lang/Object;" mir) (I_y0 : Ins Z h0 y0 "java/lang/Object" true) (I_y1 : Ins Z h0 y1 "java/lang/Object" true) :
    own_MF l own_m29 (Jvm.Cond.code own_m29 jdk_56_method_3_code 2 (some (.object "java/util/List")) :: ws) ({ frames := 6, cells := 2, slots := 4, locals := 80 } : Room) #[(.ref a)] Z h0 (Q_lcp_2 Z a t kO mir y0 y1 h0 n0) := by
  refine own_met (own := "java/util/ImmutableCollections") (nme := "listCopy") rfl rfl (plainFor_of_name pn_13) ?_
  intro p e s m below meth c s₁ hx hby hml hown hnm X0 e0 hret hlk hZ
  have N0 := Fr.nil n0
  rw [ef_lcp_2 m a]
  refine own_st (T' := s₁) (g' := (mkF m 1 #[rv a, .unset] [(.ref a)])) (fun _ k_ => XS.aloadN X0.here hx rfl (hb hby d17_0) rfl rfl  k_) ?_
  obtain ⟨T1, X1, e1, st1⟩ := instNo X0 hx hZ hown (wd hw 115 rfl) e0 E_a (own_no0 hw) (g := (mkF m 1 #[rv a, .unset] [(.ref a)])) rfl rfl (hb hby d17_1)
  refine own_st (T' := T1) (g' := (mkF m 4 #[rv a, .unset] [(.int (0 : Int32))])) st1 ?_
  clear st1
  refine own_st (T' := T1) (g' := (mkF m 7 #[rv a, .unset] [])) (fun _ k_ => XS.ifNo X1.here hx rfl (hb hby d17_4) rfl ((if0 _ _).trans (teq (rfl : (0 : Int32) = (0 : Int32))).2) k_) ?_
  refine own_st (T' := T1) (g' := (mkF m 8 #[rv a, .unset] [(.ref a)])) (fun _ k_ => XS.aloadN X1.here hx rfl (hb hby d17_7) rfl rfl  k_) ?_
  obtain ⟨T2, X2, e2, st2⟩ := instNo X1 hx hZ hown (wd hw 120 rfl) e1 E_a (own_no1 hw) (g := (mkF m 8 #[rv a, .unset] [(.ref a)])) rfl rfl (hb hby d17_8)
  refine own_st (T' := T2) (g' := (mkF m 11 #[rv a, .unset] [(.int (0 : Int32))])) st2 ?_
  clear st2
  refine own_st (T' := T2) (g' := (mkF m 31 #[rv a, .unset] [])) (fun _ k_ => XS.ifYes X2.here hx rfl (pc0 := 11) (pc' := 31) rfl (hb hby d17_11) rfl ((if0 _ _).trans (teq (rfl : (0 : Int32) = (0 : Int32))).1) (by decide) (by decide) k_) ?_
  refine own_st (T' := T2) (g' := (mkF m 32 #[rv a, .unset] [(.ref a)])) (fun _ k_ => XS.aloadN X2.here hx rfl (hb hby d17_31) rfl rfl  k_) ?_
  obtain ⟨cq3, kq3, q3a, q3b, q3c⟩ := isOf hZ e2 E_a
  obtain ⟨_, T3, L3, X3, hQ3, st3⟩ := own_callF X2 hx (xi := own_m27) (y := own_m19) hown (mvT hZ (wd hw 121 rfl)) (mvT hZ (wd hw 122 rfl)) (mvT hZ (wd hw 123 rfl)) (mvT hZ (wd hw 124 rfl)) (mvT hZ (wd hw 125 rfl)) (mvT hZ (wd hw 126 rfl)) (mvT hZ (wd hw 127 rfl)) (mvT hZ (wd hw 128 rfl)) (by decide) (backOf (W := 0) (rm_alem l Z a0 hw [] a (2 : Int32) h0 n0 O0 Fz (by decide)) hZ (wd hw 129 rfl) (wd hw 28 rfl) (by decide) (by decide)) q3a q3b q3c (g := (mkF m 32 #[rv a, .unset] [(.ref a)])) rfl (by rw [hml]; rfl) (argsL := []) (rest := []) (lenOf pd___Z rfl) rfl (by show 2 * 0 + _ ≤ _; exact Nat.le_of_eq rfl) (hb hby d17_32) rfl e2 (by decide) (by decide) (c' := 0) (s' := 0) rfl rfl
  clear q3a q3b q3c kq3 cq3
  obtain ⟨rfl, Nq3, eq3⟩ := hQ3
  have N3 := Fr.app N0 Nq3
  refine own_st (T' := T3) (g' := (mkF m 37 #[rv a, .unset] [(.int (0 : Int32))])) st3 ?_
  clear st3
  refine own_st (T' := T3) (g' := (mkF m 44 #[rv a, .unset] [])) (fun _ k_ => XS.ifYes X3.here hx rfl (pc0 := 37) (pc' := 44) rfl (hb hby d17_37) rfl ((if0 _ _).trans (teq (rfl : (0 : Int32) = (0 : Int32))).1) (by decide) (by decide) k_) ?_
  refine own_st (T' := T3) (g' := (mkF m 45 #[rv a, .unset] [(.ref a)])) (fun _ k_ => XS.aloadN X3.here hx rfl (hb hby d17_44) rfl rfl  k_) ?_
  obtain ⟨cq4, kq4, q4a, q4b, q4c⟩ := isOf hZ eq3 E_a
  obtain ⟨_, T4, L4, X4, hQ4, st4⟩ := own_callF X3 hx (xi := own_m28) (y := own_m25) hown (mvT hZ (wd hw 130 rfl)) (mvT hZ (wd hw 131 rfl)) (mvT hZ (wd hw 132 rfl)) (mvT hZ (wd hw 133 rfl)) (mvT hZ (wd hw 134 rfl)) (mvT hZ (wd hw 135 rfl)) (mvT hZ (wd hw 136 rfl)) (mvT hZ (wd hw 128 rfl)) (by decide) (backOf (W := 0) (rm_tar_2 l Z a0 hw [] a t kO mir y0 y1 h0 n0 O0 Fe Fz V_t OV FC MIR I_y0 I_y1) hZ (wd hw 137 rfl) (wd hw 28 rfl) (by decide) (by decide)) q4a q4b q4c (g := (mkF m 45 #[rv a, .unset] [(.ref a)])) rfl (by rw [hml]; rfl) (argsL := []) (rest := []) (lenOf pd____Ljava_lang_Object_ rfl) rfl (by show 2 * 0 + _ ≤ _; exact Nat.le_of_eq rfl) (hb hby d17_45) rfl eq3 (by decide) (by decide) (c' := 1) (s' := 2) rfl rfl
  clear q4a q4b q4c kq4 cq4
  obtain ⟨u4, rfl, Nq4, K4, fq4_0, xq4_fresh_u⟩ := hQ4
  have N4 := Fr.app N3 Nq4
  refine own_st (T' := T4) (g' := (mkF m 50 #[rv a, .unset] [(.ref u4)])) st4 ?_
  clear st4
  have f5 := own_insK I_y0 K4
  have f6 := own_insK I_y1 K4
  have f7 := O0.keep K4 all0
  have f8 := (Keep.refl h0 []).trans K4 all0
  obtain ⟨_, T9, L9, X9, hQ9, st9⟩ := own_callS X4 hx (y := own_m26) hown (mvT hZ (wd hw 160 rfl)) (mvT hZ (wd hw 161 rfl)) (mvT hZ (wd hw 109 rfl)) (mvT hZ (wd hw 162 rfl)) (by decide) (backOf (W := 0) (rm_lof_2 l Z a0 hw [] u4 kO y0 y1 T4.heap n0 f7 fq4_0 OV FC f5 f6) hZ (wd hw 162 rfl) (wd hw 109 rfl) (by decide) (by decide)) (g := (mkF m 50 #[rv a, .unset] [(.ref u4)])) rfl (by rw [hml]; rfl) (argsL := [(.ref u4)]) (rest := []) (lenOf pd___Ljava_lang_Object__Ljava_util_List_ rfl) rfl (by show 2 * 0 + _ ≤ _; exact Nat.le_of_eq rfl) (hb hby d17_50) rfl rfl (by decide) (by decide) (c' := 2) (s' := 4) rfl rfl
  obtain ⟨x9, rfl, Nq9, K9, fq9_0, fq9_1, fq9_2, xq9_fresh_x⟩ := hQ9
  have N9 := Fr.app N4 Nq9
  refine own_st (T' := T9) (g' := (mkF m 53 #[rv a, .unset] [(.ref x9)])) st9 ?_
  clear st9
  have f10 := f8.trans K9 all0
  exact own_retA X9 hx hret rfl rfl hlk (hb hby d17_53) (by decide) (by decide) ⟨x9, rfl, N9, f10, fq9_0, fq9_1, fq9_2, (Nat.le_trans f8.1 xq9_fresh_x)⟩
theorem ef_cpy_2 (m : MethodId) (x0 : Addr) : entryFrame m #[(.ref x0)] 1 = mkF m 0 #[rv x0] [] := by first | (simp [entryFrame, mkF, argsToLocals, Value.category]; done) | rfl
def Q_cpy_2 (Z : State) (a : Addr) (t : Addr) (kO : ClassId) (mir : Addr) (y0 : Addr) (y1 : Addr) (h0 : Heap) (n0 : Nat) (v : Option Value) (h : Heap) (L : List Loc) : Prop := ∃ (x : Addr), (v = some (.ref x)) ∧ (Fr n0 L) ∧ (Keep h0 h []) ∧ (Exa Z h x "java/util/ImmutableCollections$List12") ∧ (Fld Z h x "java/util/ImmutableCollections$List12" "e0" "Ljava/lang/Object;" (.ref y0)) ∧ (Fld Z h x "java/util/ImmutableCollections$List12" "e1" "Ljava/lang/Object;" (.ref y1)) ∧ (h0.size ≤ x)
set_option maxRecDepth 65536 in
set_option maxHeartbeats 40000000 in
theorem rm_cpy_2 (l : Launch) (Z : State) (a0 : Array Value) (hw : ∀ d ∈ tables_1, d.before a0 Z = true) (ws : List Jvm.Cond) (a : Addr) (t : Addr) (kO : ClassId) (mir : Addr) (y0 : Addr) (y1 : Addr) (h0 : Heap) (n0 : Nat) (O0 : Old Z n0 h0) (E_a : Exa Z h0 a "java/util/ArrayList") (Fe : Fld Z h0 a "java/util/ArrayList" "elementData" "[Ljava/lang/Object;" (.ref t)) (Fz : Fld Z h0 a "java/util/ArrayList" "size" "I" (.int (2 : Int32))) (V_t : Arv Z h0 t kO (.object "java/lang/Object") (10 : Int32) [(.ref y0), (.ref y1), .null, .null, .null, .null, .null, .null, .null, .null] .null) (OV : Ovr Z kO "java/lang/Object") (FC : Z.vm.findClass "[Ljava/lang/Object;" = some kO) (MIR : own_Mir Z "[Ljava/lang/Object;" mir) (I_y0 : Ins Z h0 y0 "java/lang/Object" true) (I_y1 : Ins Z h0 y1 "java/lang/Object" true) :
    own_MF l own_m30 (Jvm.Cond.code own_m30 jdk_40_method_48_code 1 (some (.object "java/util/List")) :: ws) ({ frames := 7, cells := 2, slots := 4, locals := 93 } : Room) #[(.ref a)] Z h0 (Q_cpy_2 Z a t kO mir y0 y1 h0 n0) := by
  refine own_met (own := "java/util/List") (nme := "copyOf") rfl rfl (plainFor_of_name pn_12) ?_
  intro p e s m below meth c s₁ hx hby hml hown hnm X0 e0 hret hlk hZ
  have N0 := Fr.nil n0
  rw [ef_cpy_2 m a]
  refine own_st (T' := s₁) (g' := (mkF m 1 #[rv a] [(.ref a)])) (fun _ k_ => XS.aloadN X0.here hx rfl (hb hby d16_0) rfl rfl  k_) ?_
  obtain ⟨_, T1, L1, X1, hQ1, st1⟩ := own_callS X0 hx (y := own_m29) hown (mvT hZ (wd hw 111 rfl)) (mvT hZ (wd hw 112 rfl)) (mvT hZ (wd hw 113 rfl)) (mvT hZ (wd hw 114 rfl)) (by decide) (backOf (W := 0) (rm_lcp_2 l Z a0 hw [] a t kO mir y0 y1 h0 n0 O0 E_a Fe Fz V_t OV FC MIR I_y0 I_y1) hZ (wd hw 114 rfl) (wd hw 113 rfl) (by decide) (by decide)) (g := (mkF m 1 #[rv a] [(.ref a)])) rfl (by rw [hml]; rfl) (argsL := [(.ref a)]) (rest := []) (lenOf pd__Ljava_util_Collection__Ljava_util_List_ rfl) rfl (by show 2 * 0 + _ ≤ _; exact Nat.le_of_eq rfl) (hb hby d16_1) rfl e0 (by decide) (by decide) (c' := 2) (s' := 4) rfl rfl
  obtain ⟨x1, rfl, Nq1, K1, fq1_0, fq1_1, fq1_2, xq1_fresh_x⟩ := hQ1
  have N1 := Fr.app N0 Nq1
  refine own_st (T' := T1) (g' := (mkF m 4 #[rv a] [(.ref x1)])) st1 ?_
  clear st1
  have f2 := (Keep.refl h0 []).trans K1 all0
  exact own_retA X1 hx hret rfl rfl hlk (hb hby d16_4) (by decide) (by decide) ⟨x1, rfl, N1, f2, fq1_0, fq1_1, fq1_2, (Nat.le_trans (Keep.refl h0 []).1 xq1_fresh_x)⟩
theorem ef_cp3_3 (m : MethodId) (x0 : Addr) (x1 : Int32) (x2 : Addr) : entryFrame m #[(.ref x0), (.int x1), (.ref x2)] 4 = mkF m 0 #[rv x0, iv x1, rv x2, .unset] [] := by first | (simp [entryFrame, mkF, argsToLocals, Value.category]; done) | rfl
def Q_cp3_3 (Z : State) (t : Addr) (kO : ClassId) (mir : Addr) (y0 : Addr) (y1 : Addr) (y2 : Addr) (h0 : Heap) (n0 : Nat) (v : Option Value) (h : Heap) (L : List Loc) : Prop := ∃ (u : Addr), (v = some (.ref u)) ∧ (Fr n0 L) ∧ (Keep h0 h []) ∧ (Arv Z h u kO (.object "java/lang/Object") (3 : Int32) [(.ref y0), (.ref y1), (.ref y2)] .null) ∧ (h0.size ≤ u)
set_option maxRecDepth 65536 in
set_option maxHeartbeats 40000000 in
theorem rm_cp3_3 (l : Launch) (Z : State) (a0 : Array Value) (hw : ∀ d ∈ tables_1, d.before a0 Z = true) (ws : List Jvm.Cond) (t : Addr) (kO : ClassId) (mir : Addr) (y0 : Addr) (y1 : Addr) (y2 : Addr) (h0 : Heap) (n0 : Nat) (O0 : Old Z n0 h0) (V_t : Arv Z h0 t kO (.object "java/lang/Object") (10 : Int32) [(.ref y0), (.ref y1), (.ref y2), .null, .null, .null, .null, .null, .null, .null] .null) (OV : Ovr Z kO "java/lang/Object") (FC : Z.vm.findClass "[Ljava/lang/Object;" = some kO) (MIR : own_Mir Z "[Ljava/lang/Object;" mir) (I_y0 : Ins Z h0 y0 "java/lang/Object" true) (I_y1 : Ins Z h0 y1 "java/lang/Object" true) (I_y2 : Ins Z h0 y2 "java/lang/Object" true) :
    own_MF l own_m23 (Jvm.Cond.code own_m23 jdk_65_method_120_code 4 (some (.array (.object "java/lang/Object"))) :: ws) ({ frames := 1, cells := 1, slots := 3, locals := 40 } : Room) #[(.ref t), (.int (3 : Int32)), (.ref mir)] Z h0 (Q_cp3_3 Z t kO mir y0 y1 y2 h0 n0) := by
  refine own_met (own := "java/util/Arrays") (nme := "copyOf") rfl rfl (plainFor_of_name pn_11) ?_
  intro p e s m below meth c s₁ hx hby hml hown hnm X0 e0 hret hlk hZ
  have N0 := Fr.nil n0
  rw [ef_cp3_3 m t (3 : Int32) mir]
  refine own_st (T' := s₁) (g' := (mkF m 1 #[rv t, iv (3 : Int32), rv mir, .unset] [(.ref mir)])) (fun _ k_ => XS.aloadN X0.here hx rfl (hb hby d21_0) rfl rfl  k_) ?_
  obtain ⟨T1, X1, e1, st1⟩ := own_ldk X0 hx hZ hown (wd hw 151 rfl) e0 MIR (g := (mkF m 1 #[rv t, iv (3 : Int32), rv mir, .unset] [(.ref mir)])) rfl (hb hby d21_1)
  refine own_st (T' := T1) (g' := (mkF m 3 #[rv t, iv (3 : Int32), rv mir, .unset] [(.ref mir), (.ref mir)])) st1 ?_
  clear st1
  refine own_st (T' := T1) (g' := (mkF m 6 #[rv t, iv (3 : Int32), rv mir, .unset] [])) (fun _ k_ => Jvm.RoadKit.acmp (g := (mkF m 3 #[rv t, iv (3 : Int32), rv mir, .unset] [(.ref mir), (.ref mir)])) X1 hx rfl rfl rfl (pc0 := 3) (pc' := 6) (same := true) rfl (hb hby d21_3) rfl (decide_eq_true rfl) (by decide) (by decide) k_) ?_
  refine own_st (T' := T1) (g' := (mkF m 7 #[rv t, iv (3 : Int32), rv mir, .unset] [(.int (3 : Int32))])) (fun _ k_ => XS.iloadN X1.here hx rfl (hb hby d21_6) rfl  k_) ?_
  obtain ⟨T2, h2, k2, X2, e2, E2, A2, EX2, O2, st2⟩ := newRE X1 hx hZ hown (wd hw 152 rfl) (wd hw 83 rfl) e1 (g := (mkF m 7 #[rv t, iv (3 : Int32), rv mir, .unset] [(.int (3 : Int32))])) rfl (hb hby d21_7) rfl (by decide) (cap := 3) (by decide) (by decide) (by decide) (by decide) (ad := "[Ljava/lang/Object;") (by decide)
  obtain rfl : kO = k2 := own_kk EX2 A2 FC
  clear EX2 O2
  obtain ⟨b2, g2⟩ : ∃ z, z = h0.size := ⟨_, rfl⟩
  rw [← g2] at A2 st2
  have fr2 : n0 ≤ b2 := Nat.le_trans (own_z O0) (Nat.le_of_eq g2.symm)
  have sz2 : h0.size ≤ b2 := Nat.le_trans (Keep.refl h0 []).1 (Nat.le_of_eq g2.symm)
  have V2 : Arv Z h2 b2 kO (.object "java/lang/Object") (3 : Int32) [.null, .null, .null] .null := (Arv.new A2 (by decide)).pad (pad_rep [] .null 3)
  refine own_st (T' := T2) (g' := (mkF m 10 #[rv t, iv (3 : Int32), rv mir, .unset] [(.ref b2)])) st2 ?_
  clear st2
  refine own_st (T' := T2) (g' := (mkF m 24 #[rv t, iv (3 : Int32), rv mir, .unset] [(.ref b2)])) (fun _ k_ => XS.goto X2.here hx rfl (pc0 := 10) (pc' := 24) rfl (hb hby d21_10) (by decide) (by decide) k_) ?_
  refine own_st (T' := T2) (g' := (mkF m 25 #[rv t, iv (3 : Int32), rv mir, rv b2] [])) (fun _ k_ => XS.astoreN X2.here hx rfl (hb hby d21_24) rfl rfl (l' := #[rv t, iv (3 : Int32), rv mir, rv b2]) rfl k_) ?_
  refine own_st (T' := T2) (g' := (mkF m 26 #[rv t, iv (3 : Int32), rv mir, rv b2] [(.ref t)])) (fun _ k_ => XS.aloadN X2.here hx rfl (hb hby d21_25) rfl rfl  k_) ?_
  refine own_st (T' := T2) (g' := (mkF m 27 #[rv t, iv (3 : Int32), rv mir, rv b2] [(.int (0 : Int32)), (.ref t)])) (fun _ k_ => XS.iconst X2.here hx rfl (hb hby d21_26) k_) ?_
  refine own_st (T' := T2) (g' := (mkF m 28 #[rv t, iv (3 : Int32), rv mir, rv b2] [(.ref b2), (.int (0 : Int32)), (.ref t)])) (fun _ k_ => XS.aloadN X2.here hx rfl (hb hby d21_27) rfl rfl  k_) ?_
  refine own_st (T' := T2) (g' := (mkF m 29 #[rv t, iv (3 : Int32), rv mir, rv b2] [(.int (0 : Int32)), (.ref b2), (.int (0 : Int32)), (.ref t)])) (fun _ k_ => XS.iconst X2.here hx rfl (hb hby d21_28) k_) ?_
  refine own_st (T' := T2) (g' := (mkF m 30 #[rv t, iv (3 : Int32), rv mir, rv b2] [(.ref t), (.int (0 : Int32)), (.ref b2), (.int (0 : Int32)), (.ref t)])) (fun _ k_ => XS.aloadN X2.here hx rfl (hb hby d21_29) rfl rfl  k_) ?_
  have f4 := V_t.ext E2
  obtain ⟨cl3, Ar3, -, S3, N3, -, -⟩ := id f4
  refine own_st (T' := T2) (g' := (mkF m 31 #[rv t, iv (3 : Int32), rv mir, rv b2] [(.int (10 : Int32)), (.int (0 : Int32)), (.ref b2), (.int (0 : Int32)), (.ref t)])) (fun t_ k_ => X2.arraylength hx (by rw [e2]; exact Ar3.1) (State.isArrayOf_alike hZ.alike Ar3.2.1) (g := (mkF m 30 #[rv t, iv (3 : Int32), rv mir, rv b2] [(.ref t), (.int (0 : Int32)), (.ref b2), (.int (0 : Int32)), (.ref t)])) rfl rfl (hb hby d21_30) _ (by rw [len_of S3 N3]; exact k_)) ?_
  refine own_st (T' := T2) (g' := (mkF m 32 #[rv t, iv (3 : Int32), rv mir, rv b2] [(.int (3 : Int32)), (.int (10 : Int32)), (.int (0 : Int32)), (.ref b2), (.int (0 : Int32)), (.ref t)])) (fun _ k_ => XS.iloadN X2.here hx rfl (hb hby d21_31) rfl  k_) ?_
  have f5 := O0.ext E2
  obtain ⟨_, T6, L6, X6, hQ6, st6⟩ := own_callS X2 hx (y := own_m18) hown (mvT hZ (wd hw 153 rfl)) (mvT hZ (wd hw 154 rfl)) (mvT hZ (wd hw 80 rfl)) (mvT hZ (wd hw 155 rfl)) (by decide) (backOf (W := 4) (rm_min l Z a0 hw [] (10 : Int32) (3 : Int32) h2 n0 f5 (by decide)) hZ (wd hw 155 rfl) (wd hw 80 rfl) (by decide) (by decide)) (g := (mkF m 32 #[rv t, iv (3 : Int32), rv mir, rv b2] [(.int (3 : Int32)), (.int (10 : Int32)), (.int (0 : Int32)), (.ref b2), (.int (0 : Int32)), (.ref t)])) rfl (by rw [hml]; rfl) (argsL := [(.int (10 : Int32)), (.int (3 : Int32))]) (rest := [(.int (0 : Int32)), (.ref b2), (.int (0 : Int32)), (.ref t)]) (lenOf pd__II_I rfl) rfl (by show 2 * 0 + _ ≤ _; exact Nat.le_of_eq rfl) (hb hby d21_32) rfl e2 (by decide) (by decide) (c' := 1) (s' := 3) rfl rfl
  obtain ⟨rfl, Nq6, eq6⟩ := hQ6
  have N6 := Fr.app N0 Nq6
  refine own_st (T' := T6) (g' := (mkF m 35 #[rv t, iv (3 : Int32), rv mir, rv b2] [(.int (3 : Int32)), (.int (0 : Int32)), (.ref b2), (.int (0 : Int32)), (.ref t)])) st6 ?_
  clear st6
  obtain ⟨cl7, Ar7, q7, -⟩ := id V2
  have f8 := Ins.ext E2 I_y2
  have f9 := Ins.ext E2 I_y1
  have f10 := Ins.ext E2 I_y0
  obtain ⟨T7, h7, L7, X7, e7, N7, K7, Va7, st7⟩ := cpA X6 hx hZ hown (wd hw 156 rfl) (wd hw 159 rfl) (wd hw 157 rfl) (wd hw 158 rfl) eq6 f4 V2 (sp := (0 : Int32)) (dp := (0 : Int32)) (nn := (3 : Int32)) (us := [(.ref y0), (.ref y1), (.ref y2)]) (Or.inr ⟨rfl, rfl, ⟨Sto.ofV Ar7 q7 OV f10, ⟨Sto.ofV Ar7 q7 OV f9, ⟨Sto.ofV Ar7 q7 OV f8, trivial⟩⟩⟩⟩) (by decide) (by decide) (by decide) (by decide) (by decide) rfl (Nat.le_of_ble_eq_true rfl) N6 fr2 (g := (mkF m 35 #[rv t, iv (3 : Int32), rv mir, rv b2] [(.int (3 : Int32)), (.int (0 : Int32)), (.ref b2), (.int (0 : Int32)), (.ref t)])) rfl (by rw [hml]; rfl) (rest := []) rfl (hb hby d21_35) (by decide) (W := 0) (by show 2 * 0 + _ ≤ _; exact Nat.le_of_eq rfl) (by decide)
  clear Ar7 q7 cl7
  have V7 : Arv Z h7 b2 kO (.object "java/lang/Object") (3 : Int32) [(.ref y0), (.ref y1), (.ref y2)] .null := Va7
  refine own_st (T' := T7) (g' := (mkF m 38 #[rv t, iv (3 : Int32), rv mir, rv b2] [])) st7 ?_
  clear st7
  refine own_st (T' := T7) (g' := (mkF m 39 #[rv t, iv (3 : Int32), rv mir, rv b2] [(.ref b2)])) (fun _ k_ => XS.aloadN X7.here hx rfl (hb hby d21_38) rfl rfl  k_) ?_
  have f11 := (Keep.refl h0 []).ext E2
  have f12 := f11.trans K7 (allS (Or.inr sz2) all0)
  exact own_retA X7 hx hret rfl rfl hlk (hb hby d21_39) (by decide) (by decide) (by rw [e7]; exact ⟨b2, rfl, N7, f12, V7, sz2⟩)
theorem ef_cp2_3 (m : MethodId) (x0 : Addr) (x1 : Int32) : entryFrame m #[(.ref x0), (.int x1)] 2 = mkF m 0 #[rv x0, iv x1] [] := by first | (simp [entryFrame, mkF, argsToLocals, Value.category]; done) | rfl
def Q_cp2_3 (Z : State) (t : Addr) (kO : ClassId) (mir : Addr) (y0 : Addr) (y1 : Addr) (y2 : Addr) (h0 : Heap) (n0 : Nat) (v : Option Value) (h : Heap) (L : List Loc) : Prop := ∃ (u : Addr), (v = some (.ref u)) ∧ (Fr n0 L) ∧ (Keep h0 h []) ∧ (Arv Z h u kO (.object "java/lang/Object") (3 : Int32) [(.ref y0), (.ref y1), (.ref y2)] .null) ∧ (h0.size ≤ u)
set_option maxRecDepth 65536 in
set_option maxHeartbeats 40000000 in
theorem rm_cp2_3 (l : Launch) (Z : State) (a0 : Array Value) (hw : ∀ d ∈ tables_1, d.before a0 Z = true) (ws : List Jvm.Cond) (t : Addr) (kO : ClassId) (mir : Addr) (y0 : Addr) (y1 : Addr) (y2 : Addr) (h0 : Heap) (n0 : Nat) (O0 : Old Z n0 h0) (V_t : Arv Z h0 t kO (.object "java/lang/Object") (10 : Int32) [(.ref y0), (.ref y1), (.ref y2), .null, .null, .null, .null, .null, .null, .null] .null) (OV : Ovr Z kO "java/lang/Object") (FC : Z.vm.findClass "[Ljava/lang/Object;" = some kO) (MIR : own_Mir Z "[Ljava/lang/Object;" mir) (I_y0 : Ins Z h0 y0 "java/lang/Object" true) (I_y1 : Ins Z h0 y1 "java/lang/Object" true) (I_y2 : Ins Z h0 y2 "java/lang/Object" true) :
    own_MF l own_m24 (Jvm.Cond.code own_m24 jdk_65_method_119_code 2 (some (.array (.object "java/lang/Object"))) :: ws) ({ frames := 2, cells := 1, slots := 3, locals := 55 } : Room) #[(.ref t), (.int (3 : Int32))] Z h0 (Q_cp2_3 Z t kO mir y0 y1 y2 h0 n0) := by
  refine own_met (own := "java/util/Arrays") (nme := "copyOf") rfl rfl (plainFor_of_name pn_11) ?_
  intro p e s m below meth c s₁ hx hby hml hown hnm X0 e0 hret hlk hZ
  have N0 := Fr.nil n0
  rw [ef_cp2_3 m t (3 : Int32)]
  refine own_st (T' := s₁) (g' := (mkF m 1 #[rv t, iv (3 : Int32)] [(.ref t)])) (fun _ k_ => XS.aloadN X0.here hx rfl (hb hby d20_0) rfl rfl  k_) ?_
  refine own_st (T' := s₁) (g' := (mkF m 2 #[rv t, iv (3 : Int32)] [(.int (3 : Int32)), (.ref t)])) (fun _ k_ => XS.iloadN X0.here hx rfl (hb hby d20_1) rfl  k_) ?_
  refine own_st (T' := s₁) (g' := (mkF m 3 #[rv t, iv (3 : Int32)] [(.ref t), (.int (3 : Int32)), (.ref t)])) (fun _ k_ => XS.aloadN X0.here hx rfl (hb hby d20_2) rfl rfl  k_) ?_
  obtain ⟨T1, X1, e1, st1⟩ := own_gcls X0 hx hZ hown (wd hw 142 rfl) (wd hw 143 rfl) (wd hw 119 rfl) (wd hw 145 rfl) (wd hw 144 rfl) (wd hw 146 rfl) e0 (own_exaArv V_t FC) MIR (g := (mkF m 3 #[rv t, iv (3 : Int32)] [(.ref t), (.int (3 : Int32)), (.ref t)])) rfl (by rw [hml]; rfl) (rest := [(.int (3 : Int32)), (.ref t)]) rfl (hb hby d20_3) (by decide) (W := 2) (by show 2 * 0 + _ ≤ _; exact Nat.le_of_eq rfl) (by decide)
  refine own_st (T' := T1) (g' := (mkF m 6 #[rv t, iv (3 : Int32)] [(.ref mir), (.int (3 : Int32)), (.ref t)])) st1 ?_
  clear st1
  obtain ⟨_, T2, L2, X2, hQ2, st2⟩ := own_callS X1 hx (y := own_m23) hown (mvT hZ (wd hw 148 rfl)) (mvT hZ (wd hw 149 rfl)) (mvT hZ (wd hw 140 rfl)) (mvT hZ (wd hw 150 rfl)) (by decide) (backOf (W := 0) (rm_cp3_3 l Z a0 hw [] t kO mir y0 y1 y2 h0 n0 O0 V_t OV FC MIR I_y0 I_y1 I_y2) hZ (wd hw 150 rfl) (wd hw 140 rfl) (by decide) (by decide)) (g := (mkF m 6 #[rv t, iv (3 : Int32)] [(.ref mir), (.int (3 : Int32)), (.ref t)])) rfl (by rw [hml]; rfl) (argsL := [(.ref t), (.int (3 : Int32)), (.ref mir)]) (rest := []) (lenOf pd___Ljava_lang_Object_ILjava_lang_Class___Ljava_lang_Object_ rfl) rfl (by show 2 * 0 + _ ≤ _; exact Nat.le_of_eq rfl) (hb hby d20_6) rfl e1 (by decide) (by decide) (c' := 1) (s' := 3) rfl rfl
  obtain ⟨u2, rfl, Nq2, K2, fq2_0, xq2_fresh_u⟩ := hQ2
  have N2 := Fr.app N0 Nq2
  refine own_st (T' := T2) (g' := (mkF m 9 #[rv t, iv (3 : Int32)] [(.ref u2)])) st2 ?_
  clear st2
  have f3 := (Keep.refl h0 []).trans K2 all0
  exact own_retA X2 hx hret rfl rfl hlk (hb hby d20_9) (by decide) (by decide) ⟨u2, rfl, N2, f3, fq2_0, (Nat.le_trans (Keep.refl h0 []).1 xq2_fresh_u)⟩
theorem ef_tar_3 (m : MethodId) (x0 : Addr) : entryFrame m #[(.ref x0)] 1 = mkF m 0 #[rv x0] [] := by first | (simp [entryFrame, mkF, argsToLocals, Value.category]; done) | rfl
def Q_tar_3 (Z : State) (a : Addr) (t : Addr) (kO : ClassId) (mir : Addr) (y0 : Addr) (y1 : Addr) (y2 : Addr) (h0 : Heap) (n0 : Nat) (v : Option Value) (h : Heap) (L : List Loc) : Prop := ∃ (u : Addr), (v = some (.ref u)) ∧ (Fr n0 L) ∧ (Keep h0 h []) ∧ (Arv Z h u kO (.object "java/lang/Object") (3 : Int32) [(.ref y0), (.ref y1), (.ref y2)] .null) ∧ (h0.size ≤ u)
set_option maxRecDepth 65536 in
set_option maxHeartbeats 40000000 in
theorem rm_tar_3 (l : Launch) (Z : State) (a0 : Array Value) (hw : ∀ d ∈ tables_1, d.before a0 Z = true) (ws : List Jvm.Cond) (a : Addr) (t : Addr) (kO : ClassId) (mir : Addr) (y0 : Addr) (y1 : Addr) (y2 : Addr) (h0 : Heap) (n0 : Nat) (O0 : Old Z n0 h0) (Fe : Fld Z h0 a "java/util/ArrayList" "elementData" "[Ljava/lang/Object;" (.ref t)) (Fz : Fld Z h0 a "java/util/ArrayList" "size" "I" (.int (3 : Int32))) (V_t : Arv Z h0 t kO (.object "java/lang/Object") (10 : Int32) [(.ref y0), (.ref y1), (.ref y2), .null, .null, .null, .null, .null, .null, .null] .null) (OV : Ovr Z kO "java/lang/Object") (FC : Z.vm.findClass "[Ljava/lang/Object;" = some kO) (MIR : own_Mir Z "[Ljava/lang/Object;" mir) (I_y0 : Ins Z h0 y0 "java/lang/Object" true) (I_y1 : Ins Z h0 y1 "java/lang/Object" true) (I_y2 : Ins Z h0 y2 "java/lang/Object" true) :
    own_MF l own_m25 (Jvm.Cond.code own_m25 jdk_38_method_16_code 1 (some (.array (.object "java/lang/Object"))) :: ws) ({ frames := 3, cells := 1, slots := 3, locals := 68 } : Room) #[(.ref a)] Z h0 (Q_tar_3 Z a t kO mir y0 y1 y2 h0 n0) := by
  refine own_met (own := "java/util/ArrayList") (nme := "toArray") rfl rfl (plainFor_of_name pn_5) ?_
  intro p e s m below meth c s₁ hx hby hml hown hnm X0 e0 hret hlk hZ
  have N0 := Fr.nil n0
  rw [ef_tar_3 m a]
  refine own_st (T' := s₁) (g' := (mkF m 1 #[rv a] [(.ref a)])) (fun _ k_ => XS.aloadN X0.here hx rfl (hb hby d19_0) rfl rfl  k_) ?_
  obtain ⟨T1, X1, e1, st1⟩ := getF X0 hx hZ hown (host := "") (Or.inl (wd hw 48 rfl)) Via.refl e0 Fe (g := (mkF m 1 #[rv a] [(.ref a)])) rfl rfl (hb hby d19_1)
  refine own_st (T' := T1) (g' := (mkF m 4 #[rv a] [(.ref t)])) st1 ?_
  clear st1
  refine own_st (T' := T1) (g' := (mkF m 5 #[rv a] [(.ref a), (.ref t)])) (fun _ k_ => XS.aloadN X1.here hx rfl (hb hby d19_4) rfl rfl  k_) ?_
  obtain ⟨T2, X2, e2, st2⟩ := getF X1 hx hZ hown (host := "") (Or.inl (wd hw 61 rfl)) Via.refl e1 Fz (g := (mkF m 5 #[rv a] [(.ref a), (.ref t)])) rfl rfl (hb hby d19_5)
  refine own_st (T' := T2) (g' := (mkF m 8 #[rv a] [(.int (3 : Int32)), (.ref t)])) st2 ?_
  clear st2
  obtain ⟨_, T3, L3, X3, hQ3, st3⟩ := own_callS X2 hx (y := own_m24) hown (mvT hZ (wd hw 138 rfl)) (mvT hZ (wd hw 139 rfl)) (mvT hZ (wd hw 140 rfl)) (mvT hZ (wd hw 141 rfl)) (by decide) (backOf (W := 0) (rm_cp2_3 l Z a0 hw [] t kO mir y0 y1 y2 h0 n0 O0 V_t OV FC MIR I_y0 I_y1 I_y2) hZ (wd hw 141 rfl) (wd hw 140 rfl) (by decide) (by decide)) (g := (mkF m 8 #[rv a] [(.int (3 : Int32)), (.ref t)])) rfl (by rw [hml]; rfl) (argsL := [(.ref t), (.int (3 : Int32))]) (rest := []) (lenOf pd___Ljava_lang_Object_I__Ljava_lang_Object_ rfl) rfl (by show 2 * 0 + _ ≤ _; exact Nat.le_of_eq rfl) (hb hby d19_8) rfl e2 (by decide) (by decide) (c' := 1) (s' := 3) rfl rfl
  obtain ⟨u3, rfl, Nq3, K3, fq3_0, xq3_fresh_u⟩ := hQ3
  have N3 := Fr.app N0 Nq3
  refine own_st (T' := T3) (g' := (mkF m 11 #[rv a] [(.ref u3)])) st3 ?_
  clear st3
  have f4 := (Keep.refl h0 []).trans K3 all0
  exact own_retA X3 hx hret rfl rfl hlk (hb hby d19_11) (by decide) (by decide) ⟨u3, rfl, N3, f4, fq3_0, (Nat.le_trans (Keep.refl h0 []).1 xq3_fresh_u)⟩
theorem d24_0 : decode jdk_56_method_4_code 0 = .ok (.aload_n 0, 1) := by decide +kernel
theorem d24_1 : decode jdk_56_method_4_code 1 = .ok (.arraylength, 1) := by decide +kernel
theorem d24_2 : decode jdk_56_method_4_code 2 = .ok (.anewarray 2, 3) := by decide +kernel
theorem d24_5 : decode jdk_56_method_4_code 5 = .ok (.astore_n 1, 1) := by decide +kernel
theorem d24_6 : decode jdk_56_method_4_code 6 = .ok (.iconst 0, 1) := by decide +kernel
theorem d24_7 : decode jdk_56_method_4_code 7 = .ok (.istore_n 2, 1) := by decide +kernel
theorem d24_8 : decode jdk_56_method_4_code 8 = .ok (.iload_n 2, 1) := by decide +kernel
theorem d24_9 : decode jdk_56_method_4_code 9 = .ok (.aload_n 0, 1) := by decide +kernel
theorem d24_10 : decode jdk_56_method_4_code 10 = .ok (.arraylength, 1) := by decide +kernel
theorem d24_11 : decode jdk_56_method_4_code 11 = .ok (.if_icmp .ge 18, 3) := by decide +kernel
theorem d24_14 : decode jdk_56_method_4_code 14 = .ok (.aload_n 1, 1) := by decide +kernel
theorem d24_15 : decode jdk_56_method_4_code 15 = .ok (.iload_n 2, 1) := by decide +kernel
theorem d24_16 : decode jdk_56_method_4_code 16 = .ok (.aload_n 0, 1) := by decide +kernel
theorem d24_17 : decode jdk_56_method_4_code 17 = .ok (.iload_n 2, 1) := by decide +kernel
theorem d24_18 : decode jdk_56_method_4_code 18 = .ok (.aaload, 1) := by decide +kernel
theorem d24_19 : decode jdk_56_method_4_code 19 = .ok (.invokestatic 37, 3) := by decide +kernel
theorem d24_22 : decode jdk_56_method_4_code 22 = .ok (.aastore, 1) := by decide +kernel
theorem d24_23 : decode jdk_56_method_4_code 23 = .ok (.iinc 2 1, 3) := by decide +kernel
theorem d24_26 : decode jdk_56_method_4_code 26 = .ok (.goto (-18), 3) := by decide +kernel
theorem d24_29 : decode jdk_56_method_4_code 29 = .ok (.new 12, 3) := by decide +kernel
theorem d24_32 : decode jdk_56_method_4_code 32 = .ok (.dup, 1) := by decide +kernel
theorem d24_33 : decode jdk_56_method_4_code 33 = .ok (.aload_n 1, 1) := by decide +kernel
theorem d24_34 : decode jdk_56_method_4_code 34 = .ok (.iconst 0, 1) := by decide +kernel
theorem d24_35 : decode jdk_56_method_4_code 35 = .ok (.invokespecial 43, 3) := by decide +kernel
theorem d24_38 : decode jdk_56_method_4_code 38 = .ok (.areturn, 1) := by decide +kernel
theorem pd___Ljava_lang_Object_Z_V : parseMethodDescriptor "([Ljava/lang/Object;Z)V" = some ⟨[(.array (.object "java/lang/Object")), .boolean], none⟩ := by decide +kernel
theorem ef_lfa_3 (m : MethodId) (x0 : Addr) : entryFrame m #[(.ref x0)] 3 = mkF m 0 #[rv x0, .unset, .unset] [] := by first | (simp [entryFrame, mkF, argsToLocals, Value.category]; done) | rfl
def Q_lfa_3 (Z : State) (u : Addr) (kO : ClassId) (y0 : Addr) (y1 : Addr) (y2 : Addr) (h0 : Heap) (n0 : Nat) (v : Option Value) (h : Heap) (L : List Loc) : Prop := ∃ (x : Addr) (uu : Addr), (v = some (.ref x)) ∧ (Fr n0 L) ∧ (Keep h0 h []) ∧ (Exa Z h x "java/util/ImmutableCollections$ListN") ∧ (Fld Z h x "java/util/ImmutableCollections$ListN" "elements" "[Ljava/lang/Object;" (.ref uu)) ∧ (Fld Z h x "java/util/ImmutableCollections$ListN" "allowNulls" "Z" (.int (0 : Int32))) ∧ (Arv Z h uu kO (.object "java/lang/Object") (3 : Int32) [(.ref y0), (.ref y1), (.ref y2)] .null) ∧ (h0.size ≤ x) ∧ (h0.size ≤ uu)
set_option maxRecDepth 65536 in
set_option maxHeartbeats 40000000 in
theorem rm_lfa_3 (l : Launch) (Z : State) (a0 : Array Value) (hw : ∀ d ∈ tables_1, d.before a0 Z = true) (ws : List Jvm.Cond) (u : Addr) (kO : ClassId) (y0 : Addr) (y1 : Addr) (y2 : Addr) (h0 : Heap) (n0 : Nat) (O0 : Old Z n0 h0) (V_u : Arv Z h0 u kO (.object "java/lang/Object") (3 : Int32) [(.ref y0), (.ref y1), (.ref y2)] .null) (OV : Ovr Z kO "java/lang/Object") (FC : Z.vm.findClass "[Ljava/lang/Object;" = some kO) (I_y0 : Ins Z h0 y0 "java/lang/Object" true) (I_y1 : Ins Z h0 y1 "java/lang/Object" true) (I_y2 : Ins Z h0 y2 "java/lang/Object" true) :
    own_MF l own_m31 (Jvm.Cond.code own_m31 jdk_56_method_4_code 3 (some (.object "java/util/List")) :: ws) ({ frames := 5, cells := 2, slots := 5, locals := 63 } : Room) #[(.ref u)] Z h0 (Q_lfa_3 Z u kO y0 y1 y2 h0 n0) := by
  refine own_met (own := "java/util/ImmutableCollections") (nme := "listFromArray") rfl rfl (plainFor_of_name pn_13) ?_
  intro p e s m below meth c s₁ hx hby hml hown hnm X0 e0 hret hlk hZ
  have N0 := Fr.nil n0
  rw [ef_lfa_3 m u]
  refine own_st (T' := s₁) (g' := (mkF m 1 #[rv u, .unset, .unset] [(.ref u)])) (fun _ k_ => XS.aloadN X0.here hx rfl (hb hby d24_0) rfl rfl  k_) ?_
  obtain ⟨cl1, Ar1, -, S1, N1, -, -⟩ := id V_u
  refine own_st (T' := s₁) (g' := (mkF m 2 #[rv u, .unset, .unset] [(.int (3 : Int32))])) (fun t_ k_ => X0.arraylength hx (by rw [e0]; exact Ar1.1) (State.isArrayOf_alike hZ.alike Ar1.2.1) (g := (mkF m 1 #[rv u, .unset, .unset] [(.ref u)])) rfl rfl (hb hby d24_1) _ (by rw [len_of S1 N1]; exact k_)) ?_
  obtain ⟨T2, h2, k2, X2, e2, E2, A2, EX2, O2, st2⟩ := newRE X0 hx hZ hown (wd hw 166 rfl) (wd hw 83 rfl) e0 (g := (mkF m 2 #[rv u, .unset, .unset] [(.int (3 : Int32))])) rfl (hb hby d24_2) rfl (by decide) (cap := 3) (by decide) (by decide) (by decide) (by decide) (ad := "[Ljava/lang/Object;") (by decide)
  obtain rfl : kO = k2 := own_kk EX2 A2 FC
  clear EX2 O2
  obtain ⟨b2, g2⟩ : ∃ z, z = h0.size := ⟨_, rfl⟩
  rw [← g2] at A2 st2
  have fr2 : n0 ≤ b2 := Nat.le_trans (own_z O0) (Nat.le_of_eq g2.symm)
  have sz2 : h0.size ≤ b2 := Nat.le_trans (Keep.refl h0 []).1 (Nat.le_of_eq g2.symm)
  have V2 : Arv Z h2 b2 kO (.object "java/lang/Object") (3 : Int32) [.null, .null, .null] .null := (Arv.new A2 (by decide)).pad (pad_rep [] .null 3)
  refine own_st (T' := T2) (g' := (mkF m 5 #[rv u, .unset, .unset] [(.ref b2)])) st2 ?_
  clear st2
  refine own_st (T' := T2) (g' := (mkF m 6 #[rv u, rv b2, .unset] [])) (fun _ k_ => XS.astoreN X2.here hx rfl (hb hby d24_5) rfl rfl (l' := #[rv u, rv b2, .unset]) rfl k_) ?_
  refine own_st (T' := T2) (g' := (mkF m 7 #[rv u, rv b2, .unset] [(.int (0 : Int32))])) (fun _ k_ => XS.iconst X2.here hx rfl (hb hby d24_6) k_) ?_
  refine own_st (T' := T2) (g' := (mkF m 8 #[rv u, rv b2, iv (0 : Int32)] [])) (fun _ k_ => XS.istoreN X2.here hx rfl (hb hby d24_7) rfl (l' := #[rv u, rv b2, iv (0 : Int32)]) rfl k_) ?_
  refine own_st (T' := T2) (g' := (mkF m 9 #[rv u, rv b2, iv (0 : Int32)] [(.int (0 : Int32))])) (fun _ k_ => XS.iloadN X2.here hx rfl (hb hby d24_8) rfl  k_) ?_
  refine own_st (T' := T2) (g' := (mkF m 10 #[rv u, rv b2, iv (0 : Int32)] [(.ref u), (.int (0 : Int32))])) (fun _ k_ => XS.aloadN X2.here hx rfl (hb hby d24_9) rfl rfl  k_) ?_
  have f4 := V_u.ext E2
  obtain ⟨cl3, Ar3, -, S3, N3, -, -⟩ := id f4
  refine own_st (T' := T2) (g' := (mkF m 11 #[rv u, rv b2, iv (0 : Int32)] [(.int (3 : Int32)), (.int (0 : Int32))])) (fun t_ k_ => X2.arraylength hx (by rw [e2]; exact Ar3.1) (State.isArrayOf_alike hZ.alike Ar3.2.1) (g := (mkF m 10 #[rv u, rv b2, iv (0 : Int32)] [(.ref u), (.int (0 : Int32))])) rfl rfl (hb hby d24_10) _ (by rw [len_of S3 N3]; exact k_)) ?_
  refine own_st (T' := T2) (g' := (mkF m 14 #[rv u, rv b2, iv (0 : Int32)] [])) (fun _ k_ => XS.icmpNo X2.here hx rfl (hb hby d24_11) rfl (tlt (by decide : (0 : Int32) < (3 : Int32))).2.1 k_) ?_
  refine own_st (T' := T2) (g' := (mkF m 15 #[rv u, rv b2, iv (0 : Int32)] [(.ref b2)])) (fun _ k_ => XS.aloadN X2.here hx rfl (hb hby d24_14) rfl rfl  k_) ?_
  refine own_st (T' := T2) (g' := (mkF m 16 #[rv u, rv b2, iv (0 : Int32)] [(.int (0 : Int32)), (.ref b2)])) (fun _ k_ => XS.iloadN X2.here hx rfl (hb hby d24_15) rfl  k_) ?_
  refine own_st (T' := T2) (g' := (mkF m 17 #[rv u, rv b2, iv (0 : Int32)] [(.ref u), (.int (0 : Int32)), (.ref b2)])) (fun _ k_ => XS.aloadN X2.here hx rfl (hb hby d24_16) rfl rfl  k_) ?_
  refine own_st (T' := T2) (g' := (mkF m 18 #[rv u, rv b2, iv (0 : Int32)] [(.int (0 : Int32)), (.ref u), (.int (0 : Int32)), (.ref b2)])) (fun _ k_ => XS.iloadN X2.here hx rfl (hb hby d24_17) rfl  k_) ?_
  obtain ⟨cl5, Ar5, q5, S5, N5, H5, G5⟩ := id f4
  have hin5 : ¬ ((0 : Int32) < 0 ∨ cl5.slots.size ≤ ((0 : Int32)).toNatClampNeg) := inb_of S5 ⟨by decide, by decide⟩
  refine own_st (T' := T2) (g' := (mkF m 19 #[rv u, rv b2, iv (0 : Int32)] [(.ref y0), (.int (0 : Int32)), (.ref b2)])) (X2.aaload hx (j := (0 : Int32)) (v := (.ref y0)) (by rw [e2]; exact Ar5.1) (State.isArrayOf_alike hZ.alike Ar5.2.1) rfl Ar5.2.2 hin5 (H5.at hin5 rfl) (g := (mkF m 18 #[rv u, rv b2, iv (0 : Int32)] [(.int (0 : Int32)), (.ref u), (.int (0 : Int32)), (.ref b2)])) rfl rfl (hb hby d24_18)) ?_
  clear hin5 G5 H5 N5 S5 q5 Ar5 cl5
  have f6 := O0.ext E2
  obtain ⟨_, T7, L7, X7, hQ7, st7⟩ := own_callS X2 hx (y := own_m17) hown (mvT hZ (wd hw 167 rfl)) (mvT hZ (wd hw 168 rfl)) (mvT hZ (wd hw 169 rfl)) (mvT hZ (wd hw 170 rfl)) (by decide) (backOf (W := 2) (rm_rnn l Z a0 hw [] y0 h2 n0 f6) hZ (wd hw 170 rfl) (wd hw 169 rfl) (by decide) (by decide)) (g := (mkF m 19 #[rv u, rv b2, iv (0 : Int32)] [(.ref y0), (.int (0 : Int32)), (.ref b2)])) rfl (by rw [hml]; rfl) (argsL := [(.ref y0)]) (rest := [(.int (0 : Int32)), (.ref b2)]) (lenOf pd__Ljava_lang_Object__Ljava_lang_Object_ rfl) rfl (by show 2 * 0 + _ ≤ _; exact Nat.le_of_eq rfl) (hb hby d24_19) rfl e2 (by decide) (by decide) (c' := 1) (s' := 3) rfl rfl
  obtain ⟨rfl, Nq7, eq7⟩ := hQ7
  have N7 := Fr.app N0 Nq7
  refine own_st (T' := T7) (g' := (mkF m 22 #[rv u, rv b2, iv (0 : Int32)] [(.ref y0), (.int (0 : Int32)), (.ref b2)])) st7 ?_
  clear st7
  obtain ⟨cl8, Ar8, q8, S8, N8, H8, G8⟩ := id V2
  have hin8 : ¬ ((0 : Int32) < 0 ∨ cl8.slots.size ≤ ((0 : Int32)).toNatClampNeg) := inb_of S8 ⟨by decide, by decide⟩
  have f9 := Ins.ext E2 I_y0
  obtain ⟨T10, h10, X10, e10, W10, st10⟩ := stR X7 hx hZ eq7 Ar8 (j := (0 : Int32)) hin8 rfl (Sto.of Ar8 (q8 ▸ OV) f9) (g := (mkF m 22 #[rv u, rv b2, iv (0 : Int32)] [(.ref y0), (.int (0 : Int32)), (.ref b2)])) rfl rfl (hb hby d24_22)
  have V10 : Arv Z h10 b2 kO (.object "java/lang/Object") (3 : Int32) [(.ref y0), .null, .null] .null := Arv.set Ar8 q8 S8 N8 H8 G8 rfl W10 0 rfl (Nat.le_of_ble_eq_true rfl)
  have Nx10 := Fr.snoc X10 N7 fr2
  refine own_st (T' := T10) (g' := (mkF m 23 #[rv u, rv b2, iv (0 : Int32)] [])) st10 ?_
  clear hin8 G8 H8 N8 S8 q8 Ar8 cl8 st10
  refine own_st (T' := T10) (g' := (mkF m 26 #[rv u, rv b2, iv (1 : Int32)] [])) (fun _ k_ => XS.iinc X10.here hx rfl (hb hby d24_23) rfl (l' := #[rv u, rv b2, iv (1 : Int32)]) rfl k_) ?_
  refine own_st (T' := T10) (g' := (mkF m 8 #[rv u, rv b2, iv (1 : Int32)] [])) (fun _ k_ => XS.goto X10.here hx rfl (pc0 := 26) (pc' := 8) rfl (hb hby d24_26) (by decide) (by decide) k_) ?_
  refine own_st (T' := T10) (g' := (mkF m 9 #[rv u, rv b2, iv (1 : Int32)] [(.int (1 : Int32))])) (fun _ k_ => XS.iloadN X10.here hx rfl (hb hby d24_8) rfl  k_) ?_
  refine own_st (T' := T10) (g' := (mkF m 10 #[rv u, rv b2, iv (1 : Int32)] [(.ref u), (.int (1 : Int32))])) (fun _ k_ => XS.aloadN X10.here hx rfl (hb hby d24_9) rfl rfl  k_) ?_
  have ne12 : u ≠ b2 := Nat.ne_of_lt (Nat.lt_of_lt_of_le V_u.lt (Nat.le_of_eq g2.symm))
  have f13 := f4.other W10 ne12
  obtain ⟨cl11, Ar11, -, S11, N11, -, -⟩ := id f13
  refine own_st (T' := T10) (g' := (mkF m 11 #[rv u, rv b2, iv (1 : Int32)] [(.int (3 : Int32)), (.int (1 : Int32))])) (fun t_ k_ => X10.arraylength hx (by rw [e10]; exact Ar11.1) (State.isArrayOf_alike hZ.alike Ar11.2.1) (g := (mkF m 10 #[rv u, rv b2, iv (1 : Int32)] [(.ref u), (.int (1 : Int32))])) rfl rfl (hb hby d24_10) _ (by rw [len_of S11 N11]; exact k_)) ?_
  refine own_st (T' := T10) (g' := (mkF m 14 #[rv u, rv b2, iv (1 : Int32)] [])) (fun _ k_ => XS.icmpNo X10.here hx rfl (hb hby d24_11) rfl (tlt (by decide : (1 : Int32) < (3 : Int32))).2.1 k_) ?_
  refine own_st (T' := T10) (g' := (mkF m 15 #[rv u, rv b2, iv (1 : Int32)] [(.ref b2)])) (fun _ k_ => XS.aloadN X10.here hx rfl (hb hby d24_14) rfl rfl  k_) ?_
  refine own_st (T' := T10) (g' := (mkF m 16 #[rv u, rv b2, iv (1 : Int32)] [(.int (1 : Int32)), (.ref b2)])) (fun _ k_ => XS.iloadN X10.here hx rfl (hb hby d24_15) rfl  k_) ?_
  refine own_st (T' := T10) (g' := (mkF m 17 #[rv u, rv b2, iv (1 : Int32)] [(.ref u), (.int (1 : Int32)), (.ref b2)])) (fun _ k_ => XS.aloadN X10.here hx rfl (hb hby d24_16) rfl rfl  k_) ?_
  refine own_st (T' := T10) (g' := (mkF m 18 #[rv u, rv b2, iv (1 : Int32)] [(.int (1 : Int32)), (.ref u), (.int (1 : Int32)), (.ref b2)])) (fun _ k_ => XS.iloadN X10.here hx rfl (hb hby d24_17) rfl  k_) ?_
  obtain ⟨cl14, Ar14, q14, S14, N14, H14, G14⟩ := id f13
  have hin14 : ¬ ((1 : Int32) < 0 ∨ cl14.slots.size ≤ ((1 : Int32)).toNatClampNeg) := inb_of S14 ⟨by decide, by decide⟩
  refine own_st (T' := T10) (g' := (mkF m 19 #[rv u, rv b2, iv (1 : Int32)] [(.ref y1), (.int (1 : Int32)), (.ref b2)])) (X10.aaload hx (j := (1 : Int32)) (v := (.ref y1)) (by rw [e10]; exact Ar14.1) (State.isArrayOf_alike hZ.alike Ar14.2.1) rfl Ar14.2.2 hin14 (H14.at hin14 rfl) (g := (mkF m 18 #[rv u, rv b2, iv (1 : Int32)] [(.int (1 : Int32)), (.ref u), (.int (1 : Int32)), (.ref b2)])) rfl rfl (hb hby d24_18)) ?_
  clear hin14 G14 H14 N14 S14 q14 Ar14 cl14
  have f15 := f6.wr W10 fr2
  obtain ⟨_, T16, L16, X16, hQ16, st16⟩ := own_callS X10 hx (y := own_m17) hown (mvT hZ (wd hw 167 rfl)) (mvT hZ (wd hw 168 rfl)) (mvT hZ (wd hw 169 rfl)) (mvT hZ (wd hw 170 rfl)) (by decide) (backOf (W := 2) (rm_rnn l Z a0 hw [] y1 h10 n0 f15) hZ (wd hw 170 rfl) (wd hw 169 rfl) (by decide) (by decide)) (g := (mkF m 19 #[rv u, rv b2, iv (1 : Int32)] [(.ref y1), (.int (1 : Int32)), (.ref b2)])) rfl (by rw [hml]; rfl) (argsL := [(.ref y1)]) (rest := [(.int (1 : Int32)), (.ref b2)]) (lenOf pd__Ljava_lang_Object__Ljava_lang_Object_ rfl) rfl (by show 2 * 0 + _ ≤ _; exact Nat.le_of_eq rfl) (hb hby d24_19) rfl e10 (by decide) (by decide) (c' := 1) (s' := 3) rfl rfl
  obtain ⟨rfl, Nq16, eq16⟩ := hQ16
  have N16 := Fr.app Nx10 Nq16
  refine own_st (T' := T16) (g' := (mkF m 22 #[rv u, rv b2, iv (1 : Int32)] [(.ref y1), (.int (1 : Int32)), (.ref b2)])) st16 ?_
  clear st16
  obtain ⟨cl17, Ar17, q17, S17, N17, H17, G17⟩ := id V10
  have hin17 : ¬ ((1 : Int32) < 0 ∨ cl17.slots.size ≤ ((1 : Int32)).toNatClampNeg) := inb_of S17 ⟨by decide, by decide⟩
  have f18 := Ins.ext E2 I_y1
  have f19 := Ins.wr W10 f18
  obtain ⟨T20, h20, X20, e20, W20, st20⟩ := stR X16 hx hZ eq16 Ar17 (j := (1 : Int32)) hin17 rfl (Sto.of Ar17 (q17 ▸ OV) f19) (g := (mkF m 22 #[rv u, rv b2, iv (1 : Int32)] [(.ref y1), (.int (1 : Int32)), (.ref b2)])) rfl rfl (hb hby d24_22)
  have V20 : Arv Z h20 b2 kO (.object "java/lang/Object") (3 : Int32) [(.ref y0), (.ref y1), .null] .null := Arv.set Ar17 q17 S17 N17 H17 G17 rfl W20 1 rfl (Nat.le_of_ble_eq_true rfl)
  have Nx20 := Fr.snoc X20 N16 fr2
  refine own_st (T' := T20) (g' := (mkF m 23 #[rv u, rv b2, iv (1 : Int32)] [])) st20 ?_
  clear hin17 G17 H17 N17 S17 q17 Ar17 cl17 st20
  refine own_st (T' := T20) (g' := (mkF m 26 #[rv u, rv b2, iv (2 : Int32)] [])) (fun _ k_ => XS.iinc X20.here hx rfl (hb hby d24_23) rfl (l' := #[rv u, rv b2, iv (2 : Int32)]) rfl k_) ?_
  refine own_st (T' := T20) (g' := (mkF m 8 #[rv u, rv b2, iv (2 : Int32)] [])) (fun _ k_ => XS.goto X20.here hx rfl (pc0 := 26) (pc' := 8) rfl (hb hby d24_26) (by decide) (by decide) k_) ?_
  refine own_st (T' := T20) (g' := (mkF m 9 #[rv u, rv b2, iv (2 : Int32)] [(.int (2 : Int32))])) (fun _ k_ => XS.iloadN X20.here hx rfl (hb hby d24_8) rfl  k_) ?_
  refine own_st (T' := T20) (g' := (mkF m 10 #[rv u, rv b2, iv (2 : Int32)] [(.ref u), (.int (2 : Int32))])) (fun _ k_ => XS.aloadN X20.here hx rfl (hb hby d24_9) rfl rfl  k_) ?_
  have f22 := f13.other W20 ne12
  obtain ⟨cl21, Ar21, -, S21, N21, -, -⟩ := id f22
  refine own_st (T' := T20) (g' := (mkF m 11 #[rv u, rv b2, iv (2 : Int32)] [(.int (3 : Int32)), (.int (2 : Int32))])) (fun t_ k_ => X20.arraylength hx (by rw [e20]; exact Ar21.1) (State.isArrayOf_alike hZ.alike Ar21.2.1) (g := (mkF m 10 #[rv u, rv b2, iv (2 : Int32)] [(.ref u), (.int (2 : Int32))])) rfl rfl (hb hby d24_10) _ (by rw [len_of S21 N21]; exact k_)) ?_
  refine own_st (T' := T20) (g' := (mkF m 14 #[rv u, rv b2, iv (2 : Int32)] [])) (fun _ k_ => XS.icmpNo X20.here hx rfl (hb hby d24_11) rfl (tlt (by decide : (2 : Int32) < (3 : Int32))).2.1 k_) ?_
  refine own_st (T' := T20) (g' := (mkF m 15 #[rv u, rv b2, iv (2 : Int32)] [(.ref b2)])) (fun _ k_ => XS.aloadN X20.here hx rfl (hb hby d24_14) rfl rfl  k_) ?_
  refine own_st (T' := T20) (g' := (mkF m 16 #[rv u, rv b2, iv (2 : Int32)] [(.int (2 : Int32)), (.ref b2)])) (fun _ k_ => XS.iloadN X20.here hx rfl (hb hby d24_15) rfl  k_) ?_
  refine own_st (T' := T20) (g' := (mkF m 17 #[rv u, rv b2, iv (2 : Int32)] [(.ref u), (.int (2 : Int32)), (.ref b2)])) (fun _ k_ => XS.aloadN X20.here hx rfl (hb hby d24_16) rfl rfl  k_) ?_
  refine own_st (T' := T20) (g' := (mkF m 18 #[rv u, rv b2, iv (2 : Int32)] [(.int (2 : Int32)), (.ref u), (.int (2 : Int32)), (.ref b2)])) (fun _ k_ => XS.iloadN X20.here hx rfl (hb hby d24_17) rfl  k_) ?_
  obtain ⟨cl23, Ar23, q23, S23, N23, H23, G23⟩ := id f22
  have hin23 : ¬ ((2 : Int32) < 0 ∨ cl23.slots.size ≤ ((2 : Int32)).toNatClampNeg) := inb_of S23 ⟨by decide, by decide⟩
  refine own_st (T' := T20) (g' := (mkF m 19 #[rv u, rv b2, iv (2 : Int32)] [(.ref y2), (.int (2 : Int32)), (.ref b2)])) (X20.aaload hx (j := (2 : Int32)) (v := (.ref y2)) (by rw [e20]; exact Ar23.1) (State.isArrayOf_alike hZ.alike Ar23.2.1) rfl Ar23.2.2 hin23 (H23.at hin23 rfl) (g := (mkF m 18 #[rv u, rv b2, iv (2 : Int32)] [(.int (2 : Int32)), (.ref u), (.int (2 : Int32)), (.ref b2)])) rfl rfl (hb hby d24_18)) ?_
  clear hin23 G23 H23 N23 S23 q23 Ar23 cl23
  have f24 := f15.wr W20 fr2
  obtain ⟨_, T25, L25, X25, hQ25, st25⟩ := own_callS X20 hx (y := own_m17) hown (mvT hZ (wd hw 167 rfl)) (mvT hZ (wd hw 168 rfl)) (mvT hZ (wd hw 169 rfl)) (mvT hZ (wd hw 170 rfl)) (by decide) (backOf (W := 2) (rm_rnn l Z a0 hw [] y2 h20 n0 f24) hZ (wd hw 170 rfl) (wd hw 169 rfl) (by decide) (by decide)) (g := (mkF m 19 #[rv u, rv b2, iv (2 : Int32)] [(.ref y2), (.int (2 : Int32)), (.ref b2)])) rfl (by rw [hml]; rfl) (argsL := [(.ref y2)]) (rest := [(.int (2 : Int32)), (.ref b2)]) (lenOf pd__Ljava_lang_Object__Ljava_lang_Object_ rfl) rfl (by show 2 * 0 + _ ≤ _; exact Nat.le_of_eq rfl) (hb hby d24_19) rfl e20 (by decide) (by decide) (c' := 1) (s' := 3) rfl rfl
  obtain ⟨rfl, Nq25, eq25⟩ := hQ25
  have N25 := Fr.app Nx20 Nq25
  refine own_st (T' := T25) (g' := (mkF m 22 #[rv u, rv b2, iv (2 : Int32)] [(.ref y2), (.int (2 : Int32)), (.ref b2)])) st25 ?_
  clear st25
  obtain ⟨cl26, Ar26, q26, S26, N26, H26, G26⟩ := id V20
  have hin26 : ¬ ((2 : Int32) < 0 ∨ cl26.slots.size ≤ ((2 : Int32)).toNatClampNeg) := inb_of S26 ⟨by decide, by decide⟩
  have f27 := Ins.ext E2 I_y2
  have f28 := Ins.wr W10 f27
  have f29 := Ins.wr W20 f28
  obtain ⟨T30, h30, X30, e30, W30, st30⟩ := stR X25 hx hZ eq25 Ar26 (j := (2 : Int32)) hin26 rfl (Sto.of Ar26 (q26 ▸ OV) f29) (g := (mkF m 22 #[rv u, rv b2, iv (2 : Int32)] [(.ref y2), (.int (2 : Int32)), (.ref b2)])) rfl rfl (hb hby d24_22)
  have V30 : Arv Z h30 b2 kO (.object "java/lang/Object") (3 : Int32) [(.ref y0), (.ref y1), (.ref y2)] .null := Arv.set Ar26 q26 S26 N26 H26 G26 rfl W30 2 rfl (Nat.le_of_ble_eq_true rfl)
  have Nx30 := Fr.snoc X30 N25 fr2
  refine own_st (T' := T30) (g' := (mkF m 23 #[rv u, rv b2, iv (2 : Int32)] [])) st30 ?_
  clear hin26 G26 H26 N26 S26 q26 Ar26 cl26 st30
  refine own_st (T' := T30) (g' := (mkF m 26 #[rv u, rv b2, iv (3 : Int32)] [])) (fun _ k_ => XS.iinc X30.here hx rfl (hb hby d24_23) rfl (l' := #[rv u, rv b2, iv (3 : Int32)]) rfl k_) ?_
  refine own_st (T' := T30) (g' := (mkF m 8 #[rv u, rv b2, iv (3 : Int32)] [])) (fun _ k_ => XS.goto X30.here hx rfl (pc0 := 26) (pc' := 8) rfl (hb hby d24_26) (by decide) (by decide) k_) ?_
  refine own_st (T' := T30) (g' := (mkF m 9 #[rv u, rv b2, iv (3 : Int32)] [(.int (3 : Int32))])) (fun _ k_ => XS.iloadN X30.here hx rfl (hb hby d24_8) rfl  k_) ?_
  refine own_st (T' := T30) (g' := (mkF m 10 #[rv u, rv b2, iv (3 : Int32)] [(.ref u), (.int (3 : Int32))])) (fun _ k_ => XS.aloadN X30.here hx rfl (hb hby d24_9) rfl rfl  k_) ?_
  have f32 := f22.other W30 ne12
  obtain ⟨cl31, Ar31, -, S31, N31, -, -⟩ := id f32
  refine own_st (T' := T30) (g' := (mkF m 11 #[rv u, rv b2, iv (3 : Int32)] [(.int (3 : Int32)), (.int (3 : Int32))])) (fun t_ k_ => X30.arraylength hx (by rw [e30]; exact Ar31.1) (State.isArrayOf_alike hZ.alike Ar31.2.1) (g := (mkF m 10 #[rv u, rv b2, iv (3 : Int32)] [(.ref u), (.int (3 : Int32))])) rfl rfl (hb hby d24_10) _ (by rw [len_of S31 N31]; exact k_)) ?_
  refine own_st (T' := T30) (g' := (mkF m 29 #[rv u, rv b2, iv (3 : Int32)] [])) (fun _ k_ => XS.icmpYes X30.here hx rfl (pc0 := 11) (pc' := 29) rfl (hb hby d24_11) rfl (flt (by decide : ¬ ((3 : Int32) < (3 : Int32)))).2.1 (by decide) (by decide) k_) ?_
  have f33 := f24.wr W30 fr2
  have f34 := (Keep.refl h0 []).ext E2
  have f35 := f34.wr W10 (Or.inr sz2)
  have f36 := f35.wr W20 (Or.inr sz2)
  have f37 := f36.wr W30 (Or.inr sz2)
  obtain ⟨T38, h38, X38, e38, E38, A38, D38, -, st38⟩ := newO X30 hx hZ hown (wd hw 120 rfl) (wd hw 171 rfl) (wd hw 172 rfl) e30 (g := (mkF m 29 #[rv u, rv b2, iv (3 : Int32)] [])) rfl (hb hby d24_29) (by decide) (by decide)
  obtain ⟨b38, g38⟩ : ∃ z, z = h30.size := ⟨_, rfl⟩
  rw [← g38] at A38 D38 st38
  have fr38 : n0 ≤ b38 := Nat.le_trans (own_z f33) (Nat.le_of_eq g38.symm)
  have sz38 : h0.size ≤ b38 := Nat.le_trans f37.1 (Nat.le_of_eq g38.symm)
  have F38_elements : Fld Z h38 b38 "java/util/ImmutableCollections$ListN" "elements" "[Ljava/lang/Object;" .null := D38 (Or.inr (wd hw 192 rfl)) (ty := (.array (.object "java/lang/Object"))) (by decide)
  have F38_allowNulls : Fld Z h38 b38 "java/util/ImmutableCollections$ListN" "allowNulls" "Z" (.int (0 : Int32)) := D38 (Or.inr (wd hw 194 rfl)) (ty := .boolean) (by decide)
  refine own_st (T' := T38) (g' := (mkF m 32 #[rv u, rv b2, iv (3 : Int32)] [(.ref b38)])) st38 ?_
  clear st38
  refine own_st (T' := T38) (g' := (mkF m 33 #[rv u, rv b2, iv (3 : Int32)] [(.ref b38), (.ref b38)])) (fun _ k_ => XS.dup X38.here hx rfl (hb hby d24_32) rfl rfl k_) ?_
  refine own_st (T' := T38) (g' := (mkF m 34 #[rv u, rv b2, iv (3 : Int32)] [(.ref b2), (.ref b38), (.ref b38)])) (fun _ k_ => XS.aloadN X38.here hx rfl (hb hby d24_33) rfl rfl  k_) ?_
  refine own_st (T' := T38) (g' := (mkF m 35 #[rv u, rv b2, iv (3 : Int32)] [(.int (0 : Int32)), (.ref b2), (.ref b38), (.ref b38)])) (fun _ k_ => XS.iconst X38.here hx rfl (hb hby d24_34) k_) ?_
  have f39 := f33.ext E38
  obtain ⟨_, T40, L40, X40, hQ40, st40⟩ := own_callIN X38 hx (y := own_m22) rfl hown (Cond.methodLinkNest_wide hZ (wd hw 173 rfl)) (mvT hZ (wd hw 174 rfl)) (mvT hZ (wd hw 176 rfl)) (by decide) (backOf (W := 1) (rm_lni l Z a0 hw [] b38 b2 h38 n0 f39 A38 F38_elements F38_allowNulls fr38) hZ (wd hw 176 rfl) (wd hw 172 rfl) (by decide) (by decide)) (g := (mkF m 35 #[rv u, rv b2, iv (3 : Int32)] [(.int (0 : Int32)), (.ref b2), (.ref b38), (.ref b38)])) rfl (by rw [hml]; rfl) (a := b38) (argsL := [(.ref b2), (.int (0 : Int32))]) (rest := [(.ref b38)]) (lenOf pd___Ljava_lang_Object_Z_V rfl) rfl (by show 2 * 0 + _ ≤ _; exact Nat.le_of_eq rfl) (hb hby d24_35) rfl e38 (by decide) (by decide) (c' := 2) (s' := 5) rfl rfl
  obtain ⟨rfl, Nq40, K40, fq40_0, fq40_1, fq40_2⟩ := hQ40
  have N40 := Fr.app Nx30 Nq40
  refine own_st (T' := T40) (g' := (mkF m 38 #[rv u, rv b2, iv (3 : Int32)] [(.ref b38)])) st40 ?_
  clear st40
  have f41 := f37.ext E38
  have f42 := f41.trans K40 (allS (Or.inr sz38) all0)
  have f43 := V30.ext E38
  have ne44 : b2 ≠ b38 := Nat.ne_of_lt (Nat.lt_of_lt_of_le (Nat.lt_of_lt_of_le (Nat.lt_of_lt_of_le (Nat.lt_of_lt_of_le V2.lt (Nat.le_of_eq (Wr.size W10).symm)) (Nat.le_of_eq (Wr.size W20).symm)) (Nat.le_of_eq (Wr.size W30).symm)) (Nat.le_of_eq g38.symm))
  have f45 := f43.keep K40 (ninS ne44 nin0)
  exact own_retA X40 hx hret rfl rfl hlk (hb hby d24_38) (by decide) (by decide) ⟨b38, b2, rfl, N40, f42, fq40_0, fq40_1, fq40_2, f45, sz38, sz2⟩
theorem d23_59 : decode jdk_40_method_47_code 59 = .ok (.aload_n 0, 1) := by decide +kernel
theorem d23_60 : decode jdk_40_method_47_code 60 = .ok (.invokestatic 109, 3) := by decide +kernel
theorem d23_63 : decode jdk_40_method_47_code 63 = .ok (.areturn, 1) := by decide +kernel
theorem ef_lof_3 (m : MethodId) (x0 : Addr) : entryFrame m #[(.ref x0)] 2 = mkF m 0 #[rv x0, .unset] [] := by first | (simp [entryFrame, mkF, argsToLocals, Value.category]; done) | rfl
def Q_lof_3 (Z : State) (u : Addr) (kO : ClassId) (y0 : Addr) (y1 : Addr) (y2 : Addr) (h0 : Heap) (n0 : Nat) (v : Option Value) (h : Heap) (L : List Loc) : Prop := ∃ (x : Addr) (uu : Addr), (v = some (.ref x)) ∧ (Fr n0 L) ∧ (Keep h0 h []) ∧ (Exa Z h x "java/util/ImmutableCollections$ListN") ∧ (Fld Z h x "java/util/ImmutableCollections$ListN" "elements" "[Ljava/lang/Object;" (.ref uu)) ∧ (Fld Z h x "java/util/ImmutableCollections$ListN" "allowNulls" "Z" (.int (0 : Int32))) ∧ (Arv Z h uu kO (.object "java/lang/Object") (3 : Int32) [(.ref y0), (.ref y1), (.ref y2)] .null) ∧ (h0.size ≤ x) ∧ (h0.size ≤ uu)
set_option maxRecDepth 65536 in
set_option maxHeartbeats 40000000 in
theorem rm_lof_3 (l : Launch) (Z : State) (a0 : Array Value) (hw : ∀ d ∈ tables_1, d.before a0 Z = true) (ws : List Jvm.Cond) (u : Addr) (kO : ClassId) (y0 : Addr) (y1 : Addr) (y2 : Addr) (h0 : Heap) (n0 : Nat) (O0 : Old Z n0 h0) (V_u : Arv Z h0 u kO (.object "java/lang/Object") (3 : Int32) [(.ref y0), (.ref y1), (.ref y2)] .null) (OV : Ovr Z kO "java/lang/Object") (FC : Z.vm.findClass "[Ljava/lang/Object;" = some kO) (I_y0 : Ins Z h0 y0 "java/lang/Object" true) (I_y1 : Ins Z h0 y1 "java/lang/Object" true) (I_y2 : Ins Z h0 y2 "java/lang/Object" true) :
    own_MF l own_m26 (Jvm.Cond.code own_m26 jdk_40_method_47_code 2 (some (.object "java/util/List")) :: ws) ({ frames := 6, cells := 2, slots := 5, locals := 77 } : Room) #[(.ref u)] Z h0 (Q_lof_3 Z u kO y0 y1 y2 h0 n0) := by
  refine own_met (own := "java/util/List") (nme := "of") rfl rfl (plainFor_of_name pn_12) ?_
  intro p e s m below meth c s₁ hx hby hml hown hnm X0 e0 hret hlk hZ
  have N0 := Fr.nil n0
  rw [ef_lof_3 m u]
  refine own_st (T' := s₁) (g' := (mkF m 1 #[rv u, .unset] [(.ref u)])) (fun _ k_ => XS.aloadN X0.here hx rfl (hb hby d23_0) rfl rfl  k_) ?_
  obtain ⟨cl1, Ar1, -, S1, N1, -, -⟩ := id V_u
  refine own_st (T' := s₁) (g' := (mkF m 2 #[rv u, .unset] [(.int (3 : Int32))])) (fun t_ k_ => X0.arraylength hx (by rw [e0]; exact Ar1.1) (State.isArrayOf_alike hZ.alike Ar1.2.1) (g := (mkF m 1 #[rv u, .unset] [(.ref u)])) rfl rfl (hb hby d23_1) _ (by rw [len_of S1 N1]; exact k_)) ?_
  refine own_st (T' := s₁) (g' := (mkF m 59 #[rv u, .unset] [])) (fun t_ k_ => X0.tableswitchOut hx (g := (mkF m 2 #[rv u, .unset] [(.int (3 : Int32))])) rfl (k := (3 : Int32)) (rest := []) rfl (hb hby d23_2) (by decide) (show (0 : Int) ≤ ((2 : Nat) : Int) + 57 by decide) _ k_) ?_
  refine own_st (T' := s₁) (g' := (mkF m 60 #[rv u, .unset] [(.ref u)])) (fun _ k_ => XS.aloadN X0.here hx rfl (hb hby d23_59) rfl rfl  k_) ?_
  obtain ⟨_, T2, L2, X2, hQ2, st2⟩ := own_callS X0 hx (y := own_m31) hown (mvT hZ (wd hw 163 rfl)) (mvT hZ (wd hw 164 rfl)) (mvT hZ (wd hw 113 rfl)) (mvT hZ (wd hw 165 rfl)) (by decide) (backOf (W := 0) (rm_lfa_3 l Z a0 hw [] u kO y0 y1 y2 h0 n0 O0 V_u OV FC I_y0 I_y1 I_y2) hZ (wd hw 165 rfl) (wd hw 113 rfl) (by decide) (by decide)) (g := (mkF m 60 #[rv u, .unset] [(.ref u)])) rfl (by rw [hml]; rfl) (argsL := [(.ref u)]) (rest := []) (lenOf pd___Ljava_lang_Object__Ljava_util_List_ rfl) rfl (by show 2 * 0 + _ ≤ _; exact Nat.le_of_eq rfl) (hb hby d23_60) rfl e0 (by decide) (by decide) (c' := 2) (s' := 5) rfl rfl
  obtain ⟨x2, uu2, rfl, Nq2, K2, fq2_0, fq2_1, fq2_2, fq2_3, xq2_fresh_x, xq2_fresh_uu⟩ := hQ2
  have N2 := Fr.app N0 Nq2
  refine own_st (T' := T2) (g' := (mkF m 63 #[rv u, .unset] [(.ref x2)])) st2 ?_
  clear st2
  have f3 := (Keep.refl h0 []).trans K2 all0
  exact own_retA X2 hx hret rfl rfl hlk (hb hby d23_63) (by decide) (by decide) ⟨x2, uu2, rfl, N2, f3, fq2_0, fq2_1, fq2_2, fq2_3, (Nat.le_trans (Keep.refl h0 []).1 xq2_fresh_x), (Nat.le_trans (Keep.refl h0 []).1 xq2_fresh_uu)⟩
theorem ef_lcp_3 (m : MethodId) (x0 : Addr) : entryFrame m #[(.ref x0)] 2 = mkF m 0 #[rv x0, .unset] [] := by first | (simp [entryFrame, mkF, argsToLocals, Value.category]; done) | rfl
def Q_lcp_3 (Z : State) (a : Addr) (t : Addr) (kO : ClassId) (mir : Addr) (y0 : Addr) (y1 : Addr) (y2 : Addr) (h0 : Heap) (n0 : Nat) (v : Option Value) (h : Heap) (L : List Loc) : Prop := ∃ (x : Addr) (uu : Addr), (v = some (.ref x)) ∧ (Fr n0 L) ∧ (Keep h0 h []) ∧ (Exa Z h x "java/util/ImmutableCollections$ListN") ∧ (Fld Z h x "java/util/ImmutableCollections$ListN" "elements" "[Ljava/lang/Object;" (.ref uu)) ∧ (Fld Z h x "java/util/ImmutableCollections$ListN" "allowNulls" "Z" (.int (0 : Int32))) ∧ (Arv Z h uu kO (.object "java/lang/Object") (3 : Int32) [(.ref y0), (.ref y1), (.ref y2)] .null) ∧ (h0.size ≤ x) ∧ (h0.size ≤ uu)
set_option maxRecDepth 65536 in
set_option maxHeartbeats 40000000 in
theorem rm_lcp_3 (l : Launch) (Z : State) (a0 : Array Value) (hw : ∀ d ∈ tables_1, d.before a0 Z = true) (ws : List Jvm.Cond) (a : Addr) (t : Addr) (kO : ClassId) (mir : Addr) (y0 : Addr) (y1 : Addr) (y2 : Addr) (h0 : Heap) (n0 : Nat) (O0 : Old Z n0 h0) (E_a : Exa Z h0 a "java/util/ArrayList") (Fe : Fld Z h0 a "java/util/ArrayList" "elementData" "[Ljava/lang/Object;" (.ref t)) (Fz : Fld Z h0 a "java/util/ArrayList" "size" "I" (.int (3 : Int32))) (V_t : Arv Z h0 t kO (.object "java/lang/Object") (10 : Int32) [(.ref y0), (.ref y1), (.ref y2), .null, .null, .null, .null, .null, .null, .null] .null) (OV : Ovr Z kO "java/lang/Object") (FC : Z.vm.findClass "[Ljava/lang/Object;" = some kO) (MIR : own_Mir Z "[Ljava/lang/Object;" mir) (I_y0 : Ins Z h0 y0 "java/lang/Object" true) (I_y1 : Ins Z h0 y1 "java/lang/Object" true) (I_y2 : Ins Z h0 y2 "java/lang/Object" true) :
    own_MF l own_m29 (Jvm.Cond.code own_m29 jdk_56_method_3_code 2 (some (.object "java/util/List")) :: ws) ({ frames := 7, cells := 3, slots := 8, locals := 90 } : Room) #[(.ref a)] Z h0 (Q_lcp_3 Z a t kO mir y0 y1 y2 h0 n0) := by
  refine own_met (own := "java/util/ImmutableCollections") (nme := "listCopy") rfl rfl (plainFor_of_name pn_13) ?_
  intro p e s m below meth c s₁ hx hby hml hown hnm X0 e0 hret hlk hZ
  have N0 := Fr.nil n0
  rw [ef_lcp_3 m a]
  refine own_st (T' := s₁) (g' := (mkF m 1 #[rv a, .unset] [(.ref a)])) (fun _ k_ => XS.aloadN X0.here hx rfl (hb hby d17_0) rfl rfl  k_) ?_
  obtain ⟨T1, X1, e1, st1⟩ := instNo X0 hx hZ hown (wd hw 115 rfl) e0 E_a (own_no0 hw) (g := (mkF m 1 #[rv a, .unset] [(.ref a)])) rfl rfl (hb hby d17_1)
  refine own_st (T' := T1) (g' := (mkF m 4 #[rv a, .unset] [(.int (0 : Int32))])) st1 ?_
  clear st1
  refine own_st (T' := T1) (g' := (mkF m 7 #[rv a, .unset] [])) (fun _ k_ => XS.ifNo X1.here hx rfl (hb hby d17_4) rfl ((if0 _ _).trans (teq (rfl : (0 : Int32) = (0 : Int32))).2) k_) ?_
  refine own_st (T' := T1) (g' := (mkF m 8 #[rv a, .unset] [(.ref a)])) (fun _ k_ => XS.aloadN X1.here hx rfl (hb hby d17_7) rfl rfl  k_) ?_
  obtain ⟨T2, X2, e2, st2⟩ := instNo X1 hx hZ hown (wd hw 120 rfl) e1 E_a (own_no1 hw) (g := (mkF m 8 #[rv a, .unset] [(.ref a)])) rfl rfl (hb hby d17_8)
  refine own_st (T' := T2) (g' := (mkF m 11 #[rv a, .unset] [(.int (0 : Int32))])) st2 ?_
  clear st2
  refine own_st (T' := T2) (g' := (mkF m 31 #[rv a, .unset] [])) (fun _ k_ => XS.ifYes X2.here hx rfl (pc0 := 11) (pc' := 31) rfl (hb hby d17_11) rfl ((if0 _ _).trans (teq (rfl : (0 : Int32) = (0 : Int32))).1) (by decide) (by decide) k_) ?_
  refine own_st (T' := T2) (g' := (mkF m 32 #[rv a, .unset] [(.ref a)])) (fun _ k_ => XS.aloadN X2.here hx rfl (hb hby d17_31) rfl rfl  k_) ?_
  obtain ⟨cq3, kq3, q3a, q3b, q3c⟩ := isOf hZ e2 E_a
  obtain ⟨_, T3, L3, X3, hQ3, st3⟩ := own_callF X2 hx (xi := own_m27) (y := own_m19) hown (mvT hZ (wd hw 121 rfl)) (mvT hZ (wd hw 122 rfl)) (mvT hZ (wd hw 123 rfl)) (mvT hZ (wd hw 124 rfl)) (mvT hZ (wd hw 125 rfl)) (mvT hZ (wd hw 126 rfl)) (mvT hZ (wd hw 127 rfl)) (mvT hZ (wd hw 128 rfl)) (by decide) (backOf (W := 0) (rm_alem l Z a0 hw [] a (3 : Int32) h0 n0 O0 Fz (by decide)) hZ (wd hw 129 rfl) (wd hw 28 rfl) (by decide) (by decide)) q3a q3b q3c (g := (mkF m 32 #[rv a, .unset] [(.ref a)])) rfl (by rw [hml]; rfl) (argsL := []) (rest := []) (lenOf pd___Z rfl) rfl (by show 2 * 0 + _ ≤ _; exact Nat.le_of_eq rfl) (hb hby d17_32) rfl e2 (by decide) (by decide) (c' := 0) (s' := 0) rfl rfl
  clear q3a q3b q3c kq3 cq3
  obtain ⟨rfl, Nq3, eq3⟩ := hQ3
  have N3 := Fr.app N0 Nq3
  refine own_st (T' := T3) (g' := (mkF m 37 #[rv a, .unset] [(.int (0 : Int32))])) st3 ?_
  clear st3
  refine own_st (T' := T3) (g' := (mkF m 44 #[rv a, .unset] [])) (fun _ k_ => XS.ifYes X3.here hx rfl (pc0 := 37) (pc' := 44) rfl (hb hby d17_37) rfl ((if0 _ _).trans (teq (rfl : (0 : Int32) = (0 : Int32))).1) (by decide) (by decide) k_) ?_
  refine own_st (T' := T3) (g' := (mkF m 45 #[rv a, .unset] [(.ref a)])) (fun _ k_ => XS.aloadN X3.here hx rfl (hb hby d17_44) rfl rfl  k_) ?_
  obtain ⟨cq4, kq4, q4a, q4b, q4c⟩ := isOf hZ eq3 E_a
  obtain ⟨_, T4, L4, X4, hQ4, st4⟩ := own_callF X3 hx (xi := own_m28) (y := own_m25) hown (mvT hZ (wd hw 130 rfl)) (mvT hZ (wd hw 131 rfl)) (mvT hZ (wd hw 132 rfl)) (mvT hZ (wd hw 133 rfl)) (mvT hZ (wd hw 134 rfl)) (mvT hZ (wd hw 135 rfl)) (mvT hZ (wd hw 136 rfl)) (mvT hZ (wd hw 128 rfl)) (by decide) (backOf (W := 0) (rm_tar_3 l Z a0 hw [] a t kO mir y0 y1 y2 h0 n0 O0 Fe Fz V_t OV FC MIR I_y0 I_y1 I_y2) hZ (wd hw 137 rfl) (wd hw 28 rfl) (by decide) (by decide)) q4a q4b q4c (g := (mkF m 45 #[rv a, .unset] [(.ref a)])) rfl (by rw [hml]; rfl) (argsL := []) (rest := []) (lenOf pd____Ljava_lang_Object_ rfl) rfl (by show 2 * 0 + _ ≤ _; exact Nat.le_of_eq rfl) (hb hby d17_45) rfl eq3 (by decide) (by decide) (c' := 1) (s' := 3) rfl rfl
  clear q4a q4b q4c kq4 cq4
  obtain ⟨u4, rfl, Nq4, K4, fq4_0, xq4_fresh_u⟩ := hQ4
  have N4 := Fr.app N3 Nq4
  refine own_st (T' := T4) (g' := (mkF m 50 #[rv a, .unset] [(.ref u4)])) st4 ?_
  clear st4
  have f5 := own_insK I_y0 K4
  have f6 := own_insK I_y1 K4
  have f7 := own_insK I_y2 K4
  have f8 := O0.keep K4 all0
  have f9 := (Keep.refl h0 []).trans K4 all0
  obtain ⟨_, T10, L10, X10, hQ10, st10⟩ := own_callS X4 hx (y := own_m26) hown (mvT hZ (wd hw 160 rfl)) (mvT hZ (wd hw 161 rfl)) (mvT hZ (wd hw 109 rfl)) (mvT hZ (wd hw 162 rfl)) (by decide) (backOf (W := 0) (rm_lof_3 l Z a0 hw [] u4 kO y0 y1 y2 T4.heap n0 f8 fq4_0 OV FC f5 f6 f7) hZ (wd hw 162 rfl) (wd hw 109 rfl) (by decide) (by decide)) (g := (mkF m 50 #[rv a, .unset] [(.ref u4)])) rfl (by rw [hml]; rfl) (argsL := [(.ref u4)]) (rest := []) (lenOf pd___Ljava_lang_Object__Ljava_util_List_ rfl) rfl (by show 2 * 0 + _ ≤ _; exact Nat.le_of_eq rfl) (hb hby d17_50) rfl rfl (by decide) (by decide) (c' := 3) (s' := 8) rfl rfl
  obtain ⟨x10, uu10, rfl, Nq10, K10, fq10_0, fq10_1, fq10_2, fq10_3, xq10_fresh_x, xq10_fresh_uu⟩ := hQ10
  have N10 := Fr.app N4 Nq10
  refine own_st (T' := T10) (g' := (mkF m 53 #[rv a, .unset] [(.ref x10)])) st10 ?_
  clear st10
  have f11 := f9.trans K10 all0
  exact own_retA X10 hx hret rfl rfl hlk (hb hby d17_53) (by decide) (by decide) ⟨x10, uu10, rfl, N10, f11, fq10_0, fq10_1, fq10_2, fq10_3, (Nat.le_trans f9.1 xq10_fresh_x), (Nat.le_trans f9.1 xq10_fresh_uu)⟩
theorem ef_cpy_3 (m : MethodId) (x0 : Addr) : entryFrame m #[(.ref x0)] 1 = mkF m 0 #[rv x0] [] := by first | (simp [entryFrame, mkF, argsToLocals, Value.category]; done) | rfl
def Q_cpy_3 (Z : State) (a : Addr) (t : Addr) (kO : ClassId) (mir : Addr) (y0 : Addr) (y1 : Addr) (y2 : Addr) (h0 : Heap) (n0 : Nat) (v : Option Value) (h : Heap) (L : List Loc) : Prop := ∃ (x : Addr) (uu : Addr), (v = some (.ref x)) ∧ (Fr n0 L) ∧ (Keep h0 h []) ∧ (Exa Z h x "java/util/ImmutableCollections$ListN") ∧ (Fld Z h x "java/util/ImmutableCollections$ListN" "elements" "[Ljava/lang/Object;" (.ref uu)) ∧ (Fld Z h x "java/util/ImmutableCollections$ListN" "allowNulls" "Z" (.int (0 : Int32))) ∧ (Arv Z h uu kO (.object "java/lang/Object") (3 : Int32) [(.ref y0), (.ref y1), (.ref y2)] .null) ∧ (h0.size ≤ x) ∧ (h0.size ≤ uu)
set_option maxRecDepth 65536 in
set_option maxHeartbeats 40000000 in
theorem rm_cpy_3 (l : Launch) (Z : State) (a0 : Array Value) (hw : ∀ d ∈ tables_1, d.before a0 Z = true) (ws : List Jvm.Cond) (a : Addr) (t : Addr) (kO : ClassId) (mir : Addr) (y0 : Addr) (y1 : Addr) (y2 : Addr) (h0 : Heap) (n0 : Nat) (O0 : Old Z n0 h0) (E_a : Exa Z h0 a "java/util/ArrayList") (Fe : Fld Z h0 a "java/util/ArrayList" "elementData" "[Ljava/lang/Object;" (.ref t)) (Fz : Fld Z h0 a "java/util/ArrayList" "size" "I" (.int (3 : Int32))) (V_t : Arv Z h0 t kO (.object "java/lang/Object") (10 : Int32) [(.ref y0), (.ref y1), (.ref y2), .null, .null, .null, .null, .null, .null, .null] .null) (OV : Ovr Z kO "java/lang/Object") (FC : Z.vm.findClass "[Ljava/lang/Object;" = some kO) (MIR : own_Mir Z "[Ljava/lang/Object;" mir) (I_y0 : Ins Z h0 y0 "java/lang/Object" true) (I_y1 : Ins Z h0 y1 "java/lang/Object" true) (I_y2 : Ins Z h0 y2 "java/lang/Object" true) :
    own_MF l own_m30 (Jvm.Cond.code own_m30 jdk_40_method_48_code 1 (some (.object "java/util/List")) :: ws) ({ frames := 8, cells := 3, slots := 8, locals := 103 } : Room) #[(.ref a)] Z h0 (Q_cpy_3 Z a t kO mir y0 y1 y2 h0 n0) := by
  refine own_met (own := "java/util/List") (nme := "copyOf") rfl rfl (plainFor_of_name pn_12) ?_
  intro p e s m below meth c s₁ hx hby hml hown hnm X0 e0 hret hlk hZ
  have N0 := Fr.nil n0
  rw [ef_cpy_3 m a]
  refine own_st (T' := s₁) (g' := (mkF m 1 #[rv a] [(.ref a)])) (fun _ k_ => XS.aloadN X0.here hx rfl (hb hby d16_0) rfl rfl  k_) ?_
  obtain ⟨_, T1, L1, X1, hQ1, st1⟩ := own_callS X0 hx (y := own_m29) hown (mvT hZ (wd hw 111 rfl)) (mvT hZ (wd hw 112 rfl)) (mvT hZ (wd hw 113 rfl)) (mvT hZ (wd hw 114 rfl)) (by decide) (backOf (W := 0) (rm_lcp_3 l Z a0 hw [] a t kO mir y0 y1 y2 h0 n0 O0 E_a Fe Fz V_t OV FC MIR I_y0 I_y1 I_y2) hZ (wd hw 114 rfl) (wd hw 113 rfl) (by decide) (by decide)) (g := (mkF m 1 #[rv a] [(.ref a)])) rfl (by rw [hml]; rfl) (argsL := [(.ref a)]) (rest := []) (lenOf pd__Ljava_util_Collection__Ljava_util_List_ rfl) rfl (by show 2 * 0 + _ ≤ _; exact Nat.le_of_eq rfl) (hb hby d16_1) rfl e0 (by decide) (by decide) (c' := 3) (s' := 8) rfl rfl
  obtain ⟨x1, uu1, rfl, Nq1, K1, fq1_0, fq1_1, fq1_2, fq1_3, xq1_fresh_x, xq1_fresh_uu⟩ := hQ1
  have N1 := Fr.app N0 Nq1
  refine own_st (T' := T1) (g' := (mkF m 4 #[rv a] [(.ref x1)])) st1 ?_
  clear st1
  have f2 := (Keep.refl h0 []).trans K1 all0
  exact own_retA X1 hx hret rfl rfl hlk (hb hby d16_4) (by decide) (by decide) ⟨x1, uu1, rfl, N1, f2, fq1_0, fq1_1, fq1_2, fq1_3, (Nat.le_trans (Keep.refl h0 []).1 xq1_fresh_x), (Nat.le_trans (Keep.refl h0 []).1 xq1_fresh_uu)⟩
theorem d13_0 : decode method_3_code 0 = .ok (.iload_n 0, 1) := by decide +kernel
theorem d13_1 : decode method_3_code 1 = .ok (.iconst 3, 1) := by decide +kernel
theorem d13_2 : decode method_3_code 2 = .ok (.iand, 1) := by decide +kernel
theorem d13_3 : decode method_3_code 3 = .ok (.istore_n 1, 1) := by decide +kernel
theorem d13_4 : decode method_3_code 4 = .ok (.iload_n 1, 1) := by decide +kernel
theorem d13_5 : decode method_3_code 5 = .ok (.ifCond .ne 7, 3) := by decide +kernel
theorem d13_8 : decode method_3_code 8 = .ok (.getstatic 12, 3) := by decide +kernel
theorem d13_11 : decode method_3_code 11 = .ok (.areturn, 1) := by decide +kernel
theorem d13_12 : decode method_3_code 12 = .ok (.iload_n 1, 1) := by decide +kernel
theorem d13_13 : decode method_3_code 13 = .ok (.iconst 1, 1) := by decide +kernel
theorem d13_14 : decode method_3_code 14 = .ok (.if_icmp .ne 7, 3) := by decide +kernel
theorem d13_17 : decode method_3_code 17 = .ok (.getstatic 18, 3) := by decide +kernel
theorem d13_20 : decode method_3_code 20 = .ok (.areturn, 1) := by decide +kernel
theorem d13_21 : decode method_3_code 21 = .ok (.iload_n 1, 1) := by decide +kernel
theorem d13_22 : decode method_3_code 22 = .ok (.iconst 2, 1) := by decide +kernel
theorem d13_23 : decode method_3_code 23 = .ok (.if_icmp .ne 7, 3) := by decide +kernel
theorem d13_26 : decode method_3_code 26 = .ok (.getstatic 21, 3) := by decide +kernel
theorem d13_29 : decode method_3_code 29 = .ok (.areturn, 1) := by decide +kernel
theorem d13_30 : decode method_3_code 30 = .ok (.getstatic 24, 3) := by decide +kernel
theorem d13_33 : decode method_3_code 33 = .ok (.areturn, 1) := by decide +kernel
theorem ef_let (m : MethodId) (x0 : Int32) : entryFrame m #[(.int x0)] 2 = mkF m 0 #[iv x0, .unset] [] := by first | (simp [entryFrame, mkF, argsToLocals, Value.category]; done) | rfl
def Q_let (Z : State) (bits : Int32) (w_TAKE_OUT : Addr) (w_TAKE_IN : Addr) (w_GRANT_OUT : Addr) (w_GRANT_IN : Addr) (h0 : Heap) (n0 : Nat) (v : Option Value) (h : Heap) (L : List Loc) : Prop := ∃ (b : Addr), (v = some (.ref b)) ∧ (Fr n0 L) ∧ (h = h0) ∧ (Exa Z Z.heap b "com/example/rights_leak_checker/rightsleakchecker/takegrant/Bridge$Letter")
set_option maxRecDepth 65536 in
set_option maxHeartbeats 40000000 in
theorem rm_let (l : Launch) (Z : State) (a0 : Array Value) (hw : ∀ d ∈ tables_1, d.before a0 Z = true) (ws : List Jvm.Cond) (bits : Int32) (w_TAKE_OUT : Addr) (w_TAKE_IN : Addr) (w_GRANT_OUT : Addr) (w_GRANT_IN : Addr) (h0 : Heap) (n0 : Nat) (O0 : Old Z n0 h0) (S_TAKE_OUT : Sta Z Z.heap "com/example/rights_leak_checker/rightsleakchecker/takegrant/Bridge$Letter" "TAKE_OUT" "Lcom/example/rights_leak_checker/rightsleakchecker/takegrant/Bridge$Letter;" (.ref w_TAKE_OUT)) (X_TAKE_OUT : Exa Z Z.heap w_TAKE_OUT "com/example/rights_leak_checker/rightsleakchecker/takegrant/Bridge$Letter") (S_TAKE_IN : Sta Z Z.heap "com/example/rights_leak_checker/rightsleakchecker/takegrant/Bridge$Letter" "TAKE_IN" "Lcom/example/rights_leak_checker/rightsleakchecker/takegrant/Bridge$Letter;" (.ref w_TAKE_IN)) (X_TAKE_IN : Exa Z Z.heap w_TAKE_IN "com/example/rights_leak_checker/rightsleakchecker/takegrant/Bridge$Letter") (S_GRANT_OUT : Sta Z Z.heap "com/example/rights_leak_checker/rightsleakchecker/takegrant/Bridge$Letter" "GRANT_OUT" "Lcom/example/rights_leak_checker/rightsleakchecker/takegrant/Bridge$Letter;" (.ref w_GRANT_OUT)) (X_GRANT_OUT : Exa Z Z.heap w_GRANT_OUT "com/example/rights_leak_checker/rightsleakchecker/takegrant/Bridge$Letter") (S_GRANT_IN : Sta Z Z.heap "com/example/rights_leak_checker/rightsleakchecker/takegrant/Bridge$Letter" "GRANT_IN" "Lcom/example/rights_leak_checker/rightsleakchecker/takegrant/Bridge$Letter;" (.ref w_GRANT_IN)) (X_GRANT_IN : Exa Z Z.heap w_GRANT_IN "com/example/rights_leak_checker/rightsleakchecker/takegrant/Bridge$Letter") :
    own_MF l own_m32 (Jvm.Cond.code own_m32 method_3_code 2 (some (.object "com/example/rights_leak_checker/rightsleakchecker/takegrant/Bridge$Letter")) :: ws) ({ frames := 0, cells := 0, slots := 0, locals := 0 } : Room) #[(.int bits)] Z h0 (Q_let Z bits w_TAKE_OUT w_TAKE_IN w_GRANT_OUT w_GRANT_IN h0 n0) := by
  refine own_met (own := "com/example/rights_leak_checker/rightsleakchecker/takegrant/BridgeFromPinLaw") (nme := "letter") rfl rfl (plainFor_of_name pn_2) ?_
  intro p e s m below meth c s₁ hx hby hml hown hnm X0 e0 hret hlk hZ
  have N0 := Fr.nil n0
  rw [ef_let m bits]
  refine own_st (T' := s₁) (g' := (mkF m 1 #[iv bits, .unset] [(.int bits)])) (fun _ k_ => XS.iloadN X0.here hx rfl (hb hby d13_0) rfl  k_) ?_
  refine own_st (T' := s₁) (g' := (mkF m 2 #[iv bits, .unset] [(.int (3 : Int32)), (.int bits)])) (fun _ k_ => XS.iconst X0.here hx rfl (hb hby d13_1) k_) ?_
  refine own_st (T' := s₁) (g' := (mkF m 3 #[iv bits, .unset] [(.int (bits &&& (3 : Int32)))])) (fun _ k_ => XS.iand X0.here hx rfl (hb hby d13_2) rfl k_) ?_
  refine own_st (T' := s₁) (g' := (mkF m 4 #[iv bits, iv (bits &&& (3 : Int32))] [])) (fun _ k_ => XS.istoreN X0.here hx rfl (hb hby d13_3) rfl (l' := #[iv bits, iv (bits &&& (3 : Int32))]) rfl k_) ?_
  refine own_st (T' := s₁) (g' := (mkF m 5 #[iv bits, iv (bits &&& (3 : Int32))] [(.int (bits &&& (3 : Int32)))])) (fun _ k_ => XS.iloadN X0.here hx rfl (hb hby d13_4) rfl  k_) ?_
  by_cases hc1 : (bits &&& (3 : Int32)) = (0 : Int32)
  · refine own_st (T' := s₁) (g' := (mkF m 8 #[iv bits, iv (bits &&& (3 : Int32))] [])) (fun _ k_ => XS.ifNo X0.here hx rfl (hb hby d13_5) rfl ((if0 _ _).trans (teq hc1).2) k_) ?_
    obtain ⟨T2, X2, e2, st2⟩ := getS2 X0 hx hZ hown (host := "") (Or.inl (wd hw 88 rfl)) Via.refl e0 (S_TAKE_OUT.ext O0.2) (g := (mkF m 8 #[iv bits, iv (bits &&& (3 : Int32))] [])) rfl (hb hby d13_8)
    refine own_st (T' := T2) (g' := (mkF m 11 #[iv bits, iv (bits &&& (3 : Int32))] [(.ref w_TAKE_OUT)])) st2 ?_
    clear st2
    exact own_retA X2 hx hret rfl rfl hlk (hb hby d13_11) (by decide) (by decide) ⟨w_TAKE_OUT, rfl, N0, e2, X_TAKE_OUT⟩
  · refine own_st (T' := s₁) (g' := (mkF m 12 #[iv bits, iv (bits &&& (3 : Int32))] [])) (fun _ k_ => XS.ifYes X0.here hx rfl (pc0 := 5) (pc' := 12) rfl (hb hby d13_5) rfl ((if0 _ _).trans (feq hc1).2) (by decide) (by decide) k_) ?_
    refine own_st (T' := s₁) (g' := (mkF m 13 #[iv bits, iv (bits &&& (3 : Int32))] [(.int (bits &&& (3 : Int32)))])) (fun _ k_ => XS.iloadN X0.here hx rfl (hb hby d13_12) rfl  k_) ?_
    refine own_st (T' := s₁) (g' := (mkF m 14 #[iv bits, iv (bits &&& (3 : Int32))] [(.int (1 : Int32)), (.int (bits &&& (3 : Int32)))])) (fun _ k_ => XS.iconst X0.here hx rfl (hb hby d13_13) k_) ?_
    by_cases hc3 : (bits &&& (3 : Int32)) = (1 : Int32)
    · refine own_st (T' := s₁) (g' := (mkF m 17 #[iv bits, iv (bits &&& (3 : Int32))] [])) (fun _ k_ => XS.icmpNo X0.here hx rfl (hb hby d13_14) rfl (teq hc3).2 k_) ?_
      obtain ⟨T4, X4, e4, st4⟩ := getS2 X0 hx hZ hown (host := "") (Or.inl (wd hw 235 rfl)) Via.refl e0 (S_TAKE_IN.ext O0.2) (g := (mkF m 17 #[iv bits, iv (bits &&& (3 : Int32))] [])) rfl (hb hby d13_17)
      refine own_st (T' := T4) (g' := (mkF m 20 #[iv bits, iv (bits &&& (3 : Int32))] [(.ref w_TAKE_IN)])) st4 ?_
      clear st4
      exact own_retA X4 hx hret rfl rfl hlk (hb hby d13_20) (by decide) (by decide) ⟨w_TAKE_IN, rfl, N0, e4, X_TAKE_IN⟩
    · refine own_st (T' := s₁) (g' := (mkF m 21 #[iv bits, iv (bits &&& (3 : Int32))] [])) (fun _ k_ => XS.icmpYes X0.here hx rfl (pc0 := 14) (pc' := 21) rfl (hb hby d13_14) rfl (feq hc3).2 (by decide) (by decide) k_) ?_
      refine own_st (T' := s₁) (g' := (mkF m 22 #[iv bits, iv (bits &&& (3 : Int32))] [(.int (bits &&& (3 : Int32)))])) (fun _ k_ => XS.iloadN X0.here hx rfl (hb hby d13_21) rfl  k_) ?_
      refine own_st (T' := s₁) (g' := (mkF m 23 #[iv bits, iv (bits &&& (3 : Int32))] [(.int (2 : Int32)), (.int (bits &&& (3 : Int32)))])) (fun _ k_ => XS.iconst X0.here hx rfl (hb hby d13_22) k_) ?_
      by_cases hc5 : (bits &&& (3 : Int32)) = (2 : Int32)
      · refine own_st (T' := s₁) (g' := (mkF m 26 #[iv bits, iv (bits &&& (3 : Int32))] [])) (fun _ k_ => XS.icmpNo X0.here hx rfl (hb hby d13_23) rfl (teq hc5).2 k_) ?_
        obtain ⟨T6, X6, e6, st6⟩ := getS2 X0 hx hZ hown (host := "") (Or.inl (wd hw 258 rfl)) Via.refl e0 (S_GRANT_OUT.ext O0.2) (g := (mkF m 26 #[iv bits, iv (bits &&& (3 : Int32))] [])) rfl (hb hby d13_26)
        refine own_st (T' := T6) (g' := (mkF m 29 #[iv bits, iv (bits &&& (3 : Int32))] [(.ref w_GRANT_OUT)])) st6 ?_
        clear st6
        exact own_retA X6 hx hret rfl rfl hlk (hb hby d13_29) (by decide) (by decide) ⟨w_GRANT_OUT, rfl, N0, e6, X_GRANT_OUT⟩
      · refine own_st (T' := s₁) (g' := (mkF m 30 #[iv bits, iv (bits &&& (3 : Int32))] [])) (fun _ k_ => XS.icmpYes X0.here hx rfl (pc0 := 23) (pc' := 30) rfl (hb hby d13_23) rfl (feq hc5).2 (by decide) (by decide) k_) ?_
        obtain ⟨T7, X7, e7, st7⟩ := getS2 X0 hx hZ hown (host := "") (Or.inl (wd hw 260 rfl)) Via.refl e0 (S_GRANT_IN.ext O0.2) (g := (mkF m 30 #[iv bits, iv (bits &&& (3 : Int32))] [])) rfl (hb hby d13_30)
        refine own_st (T' := T7) (g' := (mkF m 33 #[iv bits, iv (bits &&& (3 : Int32))] [(.ref w_GRANT_IN)])) st7 ?_
        clear st7
        exact own_retA X7 hx hret rfl rfl hlk (hb hby d13_33) (by decide) (by decide) ⟨w_GRANT_IN, rfl, N0, e7, X_GRANT_IN⟩
theorem d14_0 : decode prog_42_method_1_code 0 = .ok (.aload_n 0, 1) := by decide +kernel
theorem d14_1 : decode prog_42_method_1_code 1 = .ok (.invokespecial 1, 3) := by decide +kernel
theorem d14_4 : decode prog_42_method_1_code 4 = .ok (.aload_n 1, 1) := by decide +kernel
theorem d14_5 : decode prog_42_method_1_code 5 = .ok (.invokeinterface 7 1, 5) := by decide +kernel
theorem d14_10 : decode prog_42_method_1_code 10 = .ok (.iconst 2, 1) := by decide +kernel
theorem d14_11 : decode prog_42_method_1_code 11 = .ok (.if_icmp .lt 20, 3) := by decide +kernel
theorem d14_14 : decode prog_42_method_1_code 14 = .ok (.aload_n 2, 1) := by decide +kernel
theorem d14_15 : decode prog_42_method_1_code 15 = .ok (.invokeinterface 7 1, 5) := by decide +kernel
theorem d14_20 : decode prog_42_method_1_code 20 = .ok (.aload_n 1, 1) := by decide +kernel
theorem d14_21 : decode prog_42_method_1_code 21 = .ok (.invokeinterface 7 1, 5) := by decide +kernel
theorem d14_26 : decode prog_42_method_1_code 26 = .ok (.iconst 1, 1) := by decide +kernel
theorem d14_27 : decode prog_42_method_1_code 27 = .ok (.isub, 1) := by decide +kernel
theorem d14_28 : decode prog_42_method_1_code 28 = .ok (.if_icmp .eq 22, 3) := by decide +kernel
theorem d14_50 : decode prog_42_method_1_code 50 = .ok (.aload_n 0, 1) := by decide +kernel
theorem d14_51 : decode prog_42_method_1_code 51 = .ok (.aload_n 1, 1) := by decide +kernel
theorem d14_52 : decode prog_42_method_1_code 52 = .ok (.invokestatic 22, 3) := by decide +kernel
theorem d14_55 : decode prog_42_method_1_code 55 = .ok (.putfield 26, 3) := by decide +kernel
theorem d14_58 : decode prog_42_method_1_code 58 = .ok (.aload_n 0, 1) := by decide +kernel
theorem d14_59 : decode prog_42_method_1_code 59 = .ok (.aload_n 2, 1) := by decide +kernel
theorem d14_60 : decode prog_42_method_1_code 60 = .ok (.invokestatic 22, 3) := by decide +kernel
theorem d14_63 : decode prog_42_method_1_code 63 = .ok (.putfield 32, 3) := by decide +kernel
theorem d14_66 : decode prog_42_method_1_code 66 = .ok (.return_, 1) := by decide +kernel
theorem pd___I : parseMethodDescriptor "()I" = some ⟨[], some .int⟩ := by decide +kernel
theorem pn_14 : plainName "com/example/rights_leak_checker/rightsleakchecker/takegrant/Bridge" = true := by first | (simp [plainName, overriddenIn]; done) | decide +kernel
theorem ef_bri_2 (m : MethodId) (x0 : Addr) (x1 : Addr) (x2 : Addr) : entryFrame m #[(.ref x0), (.ref x1), (.ref x2)] 3 = mkF m 0 #[rv x0, rv x1, rv x2] [] := by first | (simp [entryFrame, mkF, argsToLocals, Value.category]; done) | rfl
def Q_bri_2 (Z : State) (br : Addr) (a1 : Addr) (t1 : Addr) (a2 : Addr) (t2 : Addr) (kO : ClassId) (mir : Addr) (em : Addr) (y0 : Addr) (y1 : Addr) (z0 : Addr) (h0 : Heap) (n0 : Nat) (v : Option Value) (h : Heap) (L : List Loc) : Prop := ∃ (x : Addr), (v = none) ∧ (Fr n0 L) ∧ (Keep h0 h [br]) ∧ (Exa Z h br "com/example/rights_leak_checker/rightsleakchecker/takegrant/Bridge") ∧ (Fld Z h br "com/example/rights_leak_checker/rightsleakchecker/takegrant/Bridge" "walk" "Ljava/util/List;" (.ref x)) ∧ (Exa Z h x "java/util/ImmutableCollections$List12") ∧ (Fld Z h x "java/util/ImmutableCollections$List12" "e0" "Ljava/lang/Object;" (.ref y0)) ∧ (Fld Z h x "java/util/ImmutableCollections$List12" "e1" "Ljava/lang/Object;" (.ref y1)) ∧ (h0.size ≤ x)
set_option maxRecDepth 65536 in
set_option maxHeartbeats 40000000 in
theorem rm_bri_2 (l : Launch) (Z : State) (a0 : Array Value) (hw : ∀ d ∈ tables_1, d.before a0 Z = true) (ws : List Jvm.Cond) (br : Addr) (a1 : Addr) (t1 : Addr) (a2 : Addr) (t2 : Addr) (kO : ClassId) (mir : Addr) (em : Addr) (y0 : Addr) (y1 : Addr) (z0 : Addr) (h0 : Heap) (n0 : Nat) (O0 : Old Z n0 h0) (P0 : Exa Z h0 br "com/example/rights_leak_checker/rightsleakchecker/takegrant/Bridge") (P1 : Fld Z h0 br "com/example/rights_leak_checker/rightsleakchecker/takegrant/Bridge" "walk" "Ljava/util/List;" .null) (P2 : Fld Z h0 br "com/example/rights_leak_checker/rightsleakchecker/takegrant/Bridge" "letters" "Ljava/util/List;" .null) (fb : n0 ≤ br) (nab : br ≠ a2) (E_a1 : Exa Z h0 a1 "java/util/ArrayList") (Fe_a1 : Fld Z h0 a1 "java/util/ArrayList" "elementData" "[Ljava/lang/Object;" (.ref t1)) (Fz_a1 : Fld Z h0 a1 "java/util/ArrayList" "size" "I" (.int (2 : Int32))) (V_a1 : Arv Z h0 t1 kO (.object "java/lang/Object") (10 : Int32) [(.ref y0), (.ref y1), .null, .null, .null, .null, .null, .null, .null, .null] .null) (E_a2 : Exa Z h0 a2 "java/util/ArrayList") (Fe_a2 : Fld Z h0 a2 "java/util/ArrayList" "elementData" "[Ljava/lang/Object;" (.ref t2)) (Fz_a2 : Fld Z h0 a2 "java/util/ArrayList" "size" "I" (.int (1 : Int32))) (V_a2 : Arv Z h0 t2 kO (.object "java/lang/Object") (10 : Int32) [(.ref z0), .null, .null, .null, .null, .null, .null, .null, .null, .null] .null) (OV : Ovr Z kO "java/lang/Object") (FC : Z.vm.findClass "[Ljava/lang/Object;" = some kO) (MIR : own_Mir Z "[Ljava/lang/Object;" mir) (SEm : Sta Z Z.heap "java/util/ImmutableCollections" "EMPTY" "Ljava/lang/Object;" (.ref em)) (I_y0 : Ins Z h0 y0 "java/lang/Object" true) (I_y1 : Ins Z h0 y1 "java/lang/Object" true) (I_z0 : Ins Z h0 z0 "java/lang/Object" true) :
    own_MF l own_m34 (Jvm.Cond.code own_m34 prog_42_method_1_code 3 none :: ws) ({ frames := 8, cells := 4, slots := 7, locals := 106 } : Room) #[(.ref br), (.ref a1), (.ref a2)] Z h0 (Q_bri_2 Z br a1 t1 a2 t2 kO mir em y0 y1 z0 h0 n0) := by
  refine own_met (own := "com/example/rights_leak_checker/rightsleakchecker/takegrant/Bridge") (nme := "<init>") rfl rfl (plainFor_of_name pn_14) ?_
  intro p e s m below meth c s₁ hx hby hml hown hnm X0 e0 hret hlk hZ
  have N0 := Fr.nil n0
  rw [ef_bri_2 m br a1 a2]
  refine own_st (T' := s₁) (g' := (mkF m 1 #[rv br, rv a1, rv a2] [(.ref br)])) (fun _ k_ => XS.aloadN X0.here hx rfl (hb hby d14_0) rfl rfl  k_) ?_
  obtain ⟨T1, X1, e1, st1⟩ := initO X0 hx hZ hown (wd hw 98 rfl) (wd hw 16 rfl) (wd hw 17 rfl) e0 (g := (mkF m 1 #[rv br, rv a1, rv a2] [(.ref br)])) rfl (by rw [hml]; rfl) rfl (hb hby d14_1) (by decide) (W := 0) (by show 2 * 0 + _ ≤ _; exact Nat.le_of_eq rfl) (by decide)
  refine own_st (T' := T1) (g' := (mkF m 4 #[rv br, rv a1, rv a2] [])) st1 ?_
  clear st1
  refine own_st (T' := T1) (g' := (mkF m 5 #[rv br, rv a1, rv a2] [(.ref a1)])) (fun _ k_ => XS.aloadN X1.here hx rfl (hb hby d14_4) rfl rfl  k_) ?_
  obtain ⟨cq2, kq2, q2a, q2b, q2c⟩ := isOf hZ e1 E_a1
  obtain ⟨_, T2, L2, X2, hQ2, st2⟩ := own_callF X1 hx (xi := own_m33) (y := own_m14) hown (mvT hZ (wd hw 99 rfl)) (mvT hZ (wd hw 100 rfl)) (mvT hZ (wd hw 101 rfl)) (mvT hZ (wd hw 102 rfl)) (mvT hZ (wd hw 103 rfl)) (mvT hZ (wd hw 104 rfl)) (mvT hZ (wd hw 105 rfl)) (mvT hZ (wd hw 57 rfl)) (by decide) (backOf (W := 0) (rm_alsz l Z a0 hw [] a1 (2 : Int32) h0 n0 O0 Fz_a1) hZ (wd hw 106 rfl) (wd hw 28 rfl) (by decide) (by decide)) q2a q2b q2c (g := (mkF m 5 #[rv br, rv a1, rv a2] [(.ref a1)])) rfl (by rw [hml]; rfl) (argsL := []) (rest := []) (lenOf pd___I rfl) rfl (by show 2 * 0 + _ ≤ _; exact Nat.le_of_eq rfl) (hb hby d14_5) rfl e1 (by decide) (by decide) (c' := 0) (s' := 0) rfl rfl
  clear q2a q2b q2c kq2 cq2
  obtain ⟨rfl, Nq2, eq2⟩ := hQ2
  have N2 := Fr.app N0 Nq2
  refine own_st (T' := T2) (g' := (mkF m 10 #[rv br, rv a1, rv a2] [(.int (2 : Int32))])) st2 ?_
  clear st2
  refine own_st (T' := T2) (g' := (mkF m 11 #[rv br, rv a1, rv a2] [(.int (2 : Int32)), (.int (2 : Int32))])) (fun _ k_ => XS.iconst X2.here hx rfl (hb hby d14_10) k_) ?_
  refine own_st (T' := T2) (g' := (mkF m 14 #[rv br, rv a1, rv a2] [])) (fun _ k_ => XS.icmpNo X2.here hx rfl (hb hby d14_11) rfl (flt (by decide : ¬ ((2 : Int32) < (2 : Int32)))).1 k_) ?_
  refine own_st (T' := T2) (g' := (mkF m 15 #[rv br, rv a1, rv a2] [(.ref a2)])) (fun _ k_ => XS.aloadN X2.here hx rfl (hb hby d14_14) rfl rfl  k_) ?_
  obtain ⟨cq3, kq3, q3a, q3b, q3c⟩ := isOf hZ eq2 E_a2
  obtain ⟨_, T3, L3, X3, hQ3, st3⟩ := own_callF X2 hx (xi := own_m33) (y := own_m14) hown (mvT hZ (wd hw 99 rfl)) (mvT hZ (wd hw 100 rfl)) (mvT hZ (wd hw 101 rfl)) (mvT hZ (wd hw 102 rfl)) (mvT hZ (wd hw 103 rfl)) (mvT hZ (wd hw 104 rfl)) (mvT hZ (wd hw 105 rfl)) (mvT hZ (wd hw 57 rfl)) (by decide) (backOf (W := 0) (rm_alsz l Z a0 hw [] a2 (1 : Int32) h0 n0 O0 Fz_a2) hZ (wd hw 106 rfl) (wd hw 28 rfl) (by decide) (by decide)) q3a q3b q3c (g := (mkF m 15 #[rv br, rv a1, rv a2] [(.ref a2)])) rfl (by rw [hml]; rfl) (argsL := []) (rest := []) (lenOf pd___I rfl) rfl (by show 2 * 0 + _ ≤ _; exact Nat.le_of_eq rfl) (hb hby d14_15) rfl eq2 (by decide) (by decide) (c' := 0) (s' := 0) rfl rfl
  clear q3a q3b q3c kq3 cq3
  obtain ⟨rfl, Nq3, eq3⟩ := hQ3
  have N3 := Fr.app N2 Nq3
  refine own_st (T' := T3) (g' := (mkF m 20 #[rv br, rv a1, rv a2] [(.int (1 : Int32))])) st3 ?_
  clear st3
  refine own_st (T' := T3) (g' := (mkF m 21 #[rv br, rv a1, rv a2] [(.ref a1), (.int (1 : Int32))])) (fun _ k_ => XS.aloadN X3.here hx rfl (hb hby d14_20) rfl rfl  k_) ?_
  obtain ⟨cq4, kq4, q4a, q4b, q4c⟩ := isOf hZ eq3 E_a1
  obtain ⟨_, T4, L4, X4, hQ4, st4⟩ := own_callF X3 hx (xi := own_m33) (y := own_m14) hown (mvT hZ (wd hw 99 rfl)) (mvT hZ (wd hw 100 rfl)) (mvT hZ (wd hw 101 rfl)) (mvT hZ (wd hw 102 rfl)) (mvT hZ (wd hw 103 rfl)) (mvT hZ (wd hw 104 rfl)) (mvT hZ (wd hw 105 rfl)) (mvT hZ (wd hw 57 rfl)) (by decide) (backOf (W := 1) (rm_alsz l Z a0 hw [] a1 (2 : Int32) h0 n0 O0 Fz_a1) hZ (wd hw 106 rfl) (wd hw 28 rfl) (by decide) (by decide)) q4a q4b q4c (g := (mkF m 21 #[rv br, rv a1, rv a2] [(.ref a1), (.int (1 : Int32))])) rfl (by rw [hml]; rfl) (argsL := []) (rest := [(.int (1 : Int32))]) (lenOf pd___I rfl) rfl (by show 2 * 0 + _ ≤ _; exact Nat.le_of_eq rfl) (hb hby d14_21) rfl eq3 (by decide) (by decide) (c' := 0) (s' := 0) rfl rfl
  clear q4a q4b q4c kq4 cq4
  obtain ⟨rfl, Nq4, eq4⟩ := hQ4
  have N4 := Fr.app N3 Nq4
  refine own_st (T' := T4) (g' := (mkF m 26 #[rv br, rv a1, rv a2] [(.int (2 : Int32)), (.int (1 : Int32))])) st4 ?_
  clear st4
  refine own_st (T' := T4) (g' := (mkF m 27 #[rv br, rv a1, rv a2] [(.int (1 : Int32)), (.int (2 : Int32)), (.int (1 : Int32))])) (fun _ k_ => XS.iconst X4.here hx rfl (hb hby d14_26) k_) ?_
  refine own_st (T' := T4) (g' := (mkF m 28 #[rv br, rv a1, rv a2] [(.int (1 : Int32)), (.int (1 : Int32))])) (fun _ k_ => XS.isub X4.here hx rfl (hb hby d14_27) rfl k_) ?_
  refine own_st (T' := T4) (g' := (mkF m 50 #[rv br, rv a1, rv a2] [])) (fun _ k_ => XS.icmpYes X4.here hx rfl (pc0 := 28) (pc' := 50) rfl (hb hby d14_28) rfl (teq (rfl : (1 : Int32) = (1 : Int32))).1 (by decide) (by decide) k_) ?_
  refine own_st (T' := T4) (g' := (mkF m 51 #[rv br, rv a1, rv a2] [(.ref br)])) (fun _ k_ => XS.aloadN X4.here hx rfl (hb hby d14_50) rfl rfl  k_) ?_
  refine own_st (T' := T4) (g' := (mkF m 52 #[rv br, rv a1, rv a2] [(.ref a1), (.ref br)])) (fun _ k_ => XS.aloadN X4.here hx rfl (hb hby d14_51) rfl rfl  k_) ?_
  obtain ⟨_, T5, L5, X5, hQ5, st5⟩ := own_callS X4 hx (y := own_m30) hown (mvT hZ (wd hw 107 rfl)) (mvT hZ (wd hw 108 rfl)) (mvT hZ (wd hw 109 rfl)) (mvT hZ (wd hw 110 rfl)) (by decide) (backOf (W := 1) (rm_cpy_2 l Z a0 hw [] a1 t1 kO mir y0 y1 h0 n0 O0 E_a1 Fe_a1 Fz_a1 V_a1 OV FC MIR I_y0 I_y1) hZ (wd hw 110 rfl) (wd hw 109 rfl) (by decide) (by decide)) (g := (mkF m 52 #[rv br, rv a1, rv a2] [(.ref a1), (.ref br)])) rfl (by rw [hml]; rfl) (argsL := [(.ref a1)]) (rest := [(.ref br)]) (lenOf pd__Ljava_util_Collection__Ljava_util_List_ rfl) rfl (by show 2 * 0 + _ ≤ _; exact Nat.le_of_eq rfl) (hb hby d14_52) rfl eq4 (by decide) (by decide) (c' := 2) (s' := 4) rfl rfl
  obtain ⟨x5, rfl, Nq5, K5, fq5_0, fq5_1, fq5_2, xq5_fresh_x⟩ := hQ5
  have N5 := Fr.app N4 Nq5
  refine own_st (T' := T5) (g' := (mkF m 55 #[rv br, rv a1, rv a2] [(.ref x5), (.ref br)])) st5 ?_
  clear st5
  have f6 := P0.keep K5
  have f7 := P1.keep K5 nin0
  obtain ⟨T8, h8, X8, e8, W8, st8⟩ := putF X5 hx hZ hown (host := "") (Or.inl (wd hw 195 rfl)) Via.refl rfl f7 f6 (Or.inr ⟨(wd hw 196 rfl), rfl, hnm⟩) (wd hw 93 rfl) (ty := (.object "java/util/List")) (by decide) rfl rfl (g := (mkF m 55 #[rv br, rv a1, rv a2] [(.ref x5), (.ref br)])) rfl rfl (hb hby d14_55)
  have Fw8 : Fld Z h8 br "com/example/rights_leak_checker/rightsleakchecker/takegrant/Bridge" "walk" "Ljava/util/List;" (.ref x5) := Fld.same W8 f7
  have N8 := Fr.snoc X8 N5 fb
  refine own_st (T' := T8) (g' := (mkF m 58 #[rv br, rv a1, rv a2] [])) st8 ?_
  clear st8
  refine own_st (T' := T8) (g' := (mkF m 59 #[rv br, rv a1, rv a2] [(.ref br)])) (fun _ k_ => XS.aloadN X8.here hx rfl (hb hby d14_58) rfl rfl  k_) ?_
  refine own_st (T' := T8) (g' := (mkF m 60 #[rv br, rv a1, rv a2] [(.ref a2), (.ref br)])) (fun _ k_ => XS.aloadN X8.here hx rfl (hb hby d14_59) rfl rfl  k_) ?_
  have f9 := E_a2.keep K5
  have f10 := f9.wr W8
  have f11 := Fe_a2.keep K5 nin0
  have f12 := f11.other W8 (Or.inl (Ne.symm nab))
  have f13 := Fz_a2.keep K5 nin0
  have f14 := f13.other W8 (Or.inl (Ne.symm nab))
  have f15 := V_a2.keep K5 nin0
  have xe16 : Exa Z T5.heap br "com/example/rights_leak_checker/rightsleakchecker/takegrant/Bridge" := P0.keep K5
  have ne17 : br ≠ t2 := own_neA xe16 (wd hw 93 rfl) f15
  have f18 := f15.other W8 (Ne.symm ne17)
  have f19 := own_insK I_z0 K5
  have f20 := Ins.wr W8 f19
  have f21 := O0.keep K5 all0
  have f22 := f21.wr W8 fb
  have f23 := (Keep.refl h0 [br]).trans K5 all0
  have f24 := f23.wr W8 (Or.inl (List.mem_of_getElem? (i := 0) rfl))
  obtain ⟨_, T25, L25, X25, hQ25, st25⟩ := own_callS X8 hx (y := own_m30) hown (mvT hZ (wd hw 107 rfl)) (mvT hZ (wd hw 108 rfl)) (mvT hZ (wd hw 109 rfl)) (mvT hZ (wd hw 110 rfl)) (by decide) (backOf (W := 1) (rm_cpy_1 l Z a0 hw [] a2 t2 kO mir em z0 h8 n0 f22 f10 f12 f14 f18 OV FC MIR SEm f20) hZ (wd hw 110 rfl) (wd hw 109 rfl) (by decide) (by decide)) (g := (mkF m 60 #[rv br, rv a1, rv a2] [(.ref a2), (.ref br)])) rfl (by rw [hml]; rfl) (argsL := [(.ref a2)]) (rest := [(.ref br)]) (lenOf pd__Ljava_util_Collection__Ljava_util_List_ rfl) rfl (by show 2 * 0 + _ ≤ _; exact Nat.le_of_eq rfl) (hb hby d14_60) rfl e8 (by decide) (by decide) (c' := 4) (s' := 7) rfl rfl
  obtain ⟨x25, rfl, Nq25, K25, fq25_0, fq25_1, fq25_2, xq25_fresh_x⟩ := hQ25
  have N25 := Fr.app N8 Nq25
  refine own_st (T' := T25) (g' := (mkF m 63 #[rv br, rv a1, rv a2] [(.ref x25), (.ref br)])) st25 ?_
  clear st25
  have f26 := f6.wr W8
  have f27 := f26.keep K25
  have f28 := P2.keep K5 nin0
  have f29 := f28.other W8 (Or.inr (slot_ne (Or.inr (wd hw 214 rfl)) (Or.inr (wd hw 196 rfl)) (by decide) (t := (.object "java/util/List")) (t' := (.object "java/util/List")) (by decide) (by decide)))
  have f30 := f29.keep K25 nin0
  obtain ⟨T31, h31, X31, e31, W31, st31⟩ := putF X25 hx hZ hown (host := "") (Or.inl (wd hw 213 rfl)) Via.refl rfl f30 f27 (Or.inr ⟨(wd hw 214 rfl), rfl, hnm⟩) (wd hw 93 rfl) (ty := (.object "java/util/List")) (by decide) rfl rfl (g := (mkF m 63 #[rv br, rv a1, rv a2] [(.ref x25), (.ref br)])) rfl rfl (hb hby d14_63)
  have Fw31 : Fld Z h31 br "com/example/rights_leak_checker/rightsleakchecker/takegrant/Bridge" "letters" "Ljava/util/List;" (.ref x25) := Fld.same W31 f30
  have N31 := Fr.snoc X31 N25 fb
  refine own_st (T' := T31) (g' := (mkF m 66 #[rv br, rv a1, rv a2] [])) st31 ?_
  clear st31
  have f32 := f24.trans K25 all0
  have f33 := f32.wr W31 (Or.inl (List.mem_of_getElem? (i := 0) rfl))
  have f34 := f27.wr W31
  have f35 := Fw8.keep K25 nin0
  have f36 := f35.other W31 (Or.inr (slot_ne (Or.inr (wd hw 196 rfl)) (Or.inr (wd hw 214 rfl)) (by decide) (t := (.object "java/util/List")) (t' := (.object "java/util/List")) (by decide) (by decide)))
  have f37 := fq5_0.wr W8
  have f38 := f37.keep K25
  have f39 := f38.wr W31
  have ne40 : br ≠ x5 := Nat.ne_of_lt (Nat.lt_of_lt_of_le P0.lt xq5_fresh_x)
  have f41 := fq5_1.other W8 (Or.inl (Ne.symm ne40))
  have f42 := f41.keep K25 nin0
  have f43 := f42.other W31 (Or.inl (Ne.symm ne40))
  have f44 := fq5_2.other W8 (Or.inl (Ne.symm ne40))
  have f45 := f44.keep K25 nin0
  have f46 := f45.other W31 (Or.inl (Ne.symm ne40))
  exact own_retV X31 hx hret hlk (hb hby d14_66) (by decide) (by decide) (by rw [e31]; exact ⟨x5, rfl, N31, f33, f34, f36, f39, f43, f46, (Nat.le_trans (Keep.refl h0 [br]).1 xq5_fresh_x)⟩)
theorem ef_bri_3 (m : MethodId) (x0 : Addr) (x1 : Addr) (x2 : Addr) : entryFrame m #[(.ref x0), (.ref x1), (.ref x2)] 3 = mkF m 0 #[rv x0, rv x1, rv x2] [] := by first | (simp [entryFrame, mkF, argsToLocals, Value.category]; done) | rfl
def Q_bri_3 (Z : State) (br : Addr) (a1 : Addr) (t1 : Addr) (a2 : Addr) (t2 : Addr) (kO : ClassId) (mir : Addr) (y0 : Addr) (y1 : Addr) (y2 : Addr) (z0 : Addr) (z1 : Addr) (h0 : Heap) (n0 : Nat) (v : Option Value) (h : Heap) (L : List Loc) : Prop := ∃ (x : Addr) (uu : Addr), (v = none) ∧ (Fr n0 L) ∧ (Keep h0 h [br]) ∧ (Exa Z h br "com/example/rights_leak_checker/rightsleakchecker/takegrant/Bridge") ∧ (Fld Z h br "com/example/rights_leak_checker/rightsleakchecker/takegrant/Bridge" "walk" "Ljava/util/List;" (.ref x)) ∧ (Exa Z h x "java/util/ImmutableCollections$ListN") ∧ (Fld Z h x "java/util/ImmutableCollections$ListN" "elements" "[Ljava/lang/Object;" (.ref uu)) ∧ (Fld Z h x "java/util/ImmutableCollections$ListN" "allowNulls" "Z" (.int (0 : Int32))) ∧ (Arv Z h uu kO (.object "java/lang/Object") (3 : Int32) [(.ref y0), (.ref y1), (.ref y2)] .null) ∧ (h0.size ≤ x) ∧ (h0.size ≤ uu)
set_option maxRecDepth 65536 in
set_option maxHeartbeats 40000000 in
theorem rm_bri_3 (l : Launch) (Z : State) (a0 : Array Value) (hw : ∀ d ∈ tables_1, d.before a0 Z = true) (ws : List Jvm.Cond) (br : Addr) (a1 : Addr) (t1 : Addr) (a2 : Addr) (t2 : Addr) (kO : ClassId) (mir : Addr) (y0 : Addr) (y1 : Addr) (y2 : Addr) (z0 : Addr) (z1 : Addr) (h0 : Heap) (n0 : Nat) (O0 : Old Z n0 h0) (P0 : Exa Z h0 br "com/example/rights_leak_checker/rightsleakchecker/takegrant/Bridge") (P1 : Fld Z h0 br "com/example/rights_leak_checker/rightsleakchecker/takegrant/Bridge" "walk" "Ljava/util/List;" .null) (P2 : Fld Z h0 br "com/example/rights_leak_checker/rightsleakchecker/takegrant/Bridge" "letters" "Ljava/util/List;" .null) (fb : n0 ≤ br) (nab : br ≠ a2) (E_a1 : Exa Z h0 a1 "java/util/ArrayList") (Fe_a1 : Fld Z h0 a1 "java/util/ArrayList" "elementData" "[Ljava/lang/Object;" (.ref t1)) (Fz_a1 : Fld Z h0 a1 "java/util/ArrayList" "size" "I" (.int (3 : Int32))) (V_a1 : Arv Z h0 t1 kO (.object "java/lang/Object") (10 : Int32) [(.ref y0), (.ref y1), (.ref y2), .null, .null, .null, .null, .null, .null, .null] .null) (E_a2 : Exa Z h0 a2 "java/util/ArrayList") (Fe_a2 : Fld Z h0 a2 "java/util/ArrayList" "elementData" "[Ljava/lang/Object;" (.ref t2)) (Fz_a2 : Fld Z h0 a2 "java/util/ArrayList" "size" "I" (.int (2 : Int32))) (V_a2 : Arv Z h0 t2 kO (.object "java/lang/Object") (10 : Int32) [(.ref z0), (.ref z1), .null, .null, .null, .null, .null, .null, .null, .null] .null) (OV : Ovr Z kO "java/lang/Object") (FC : Z.vm.findClass "[Ljava/lang/Object;" = some kO) (MIR : own_Mir Z "[Ljava/lang/Object;" mir) (I_y0 : Ins Z h0 y0 "java/lang/Object" true) (I_y1 : Ins Z h0 y1 "java/lang/Object" true) (I_y2 : Ins Z h0 y2 "java/lang/Object" true) (I_z0 : Ins Z h0 z0 "java/lang/Object" true) (I_z1 : Ins Z h0 z1 "java/lang/Object" true) :
    own_MF l own_m34 (Jvm.Cond.code own_m34 prog_42_method_1_code 3 none :: ws) ({ frames := 9, cells := 5, slots := 12, locals := 116 } : Room) #[(.ref br), (.ref a1), (.ref a2)] Z h0 (Q_bri_3 Z br a1 t1 a2 t2 kO mir y0 y1 y2 z0 z1 h0 n0) := by
  refine own_met (own := "com/example/rights_leak_checker/rightsleakchecker/takegrant/Bridge") (nme := "<init>") rfl rfl (plainFor_of_name pn_14) ?_
  intro p e s m below meth c s₁ hx hby hml hown hnm X0 e0 hret hlk hZ
  have N0 := Fr.nil n0
  rw [ef_bri_3 m br a1 a2]
  refine own_st (T' := s₁) (g' := (mkF m 1 #[rv br, rv a1, rv a2] [(.ref br)])) (fun _ k_ => XS.aloadN X0.here hx rfl (hb hby d14_0) rfl rfl  k_) ?_
  obtain ⟨T1, X1, e1, st1⟩ := initO X0 hx hZ hown (wd hw 98 rfl) (wd hw 16 rfl) (wd hw 17 rfl) e0 (g := (mkF m 1 #[rv br, rv a1, rv a2] [(.ref br)])) rfl (by rw [hml]; rfl) rfl (hb hby d14_1) (by decide) (W := 0) (by show 2 * 0 + _ ≤ _; exact Nat.le_of_eq rfl) (by decide)
  refine own_st (T' := T1) (g' := (mkF m 4 #[rv br, rv a1, rv a2] [])) st1 ?_
  clear st1
  refine own_st (T' := T1) (g' := (mkF m 5 #[rv br, rv a1, rv a2] [(.ref a1)])) (fun _ k_ => XS.aloadN X1.here hx rfl (hb hby d14_4) rfl rfl  k_) ?_
  obtain ⟨cq2, kq2, q2a, q2b, q2c⟩ := isOf hZ e1 E_a1
  obtain ⟨_, T2, L2, X2, hQ2, st2⟩ := own_callF X1 hx (xi := own_m33) (y := own_m14) hown (mvT hZ (wd hw 99 rfl)) (mvT hZ (wd hw 100 rfl)) (mvT hZ (wd hw 101 rfl)) (mvT hZ (wd hw 102 rfl)) (mvT hZ (wd hw 103 rfl)) (mvT hZ (wd hw 104 rfl)) (mvT hZ (wd hw 105 rfl)) (mvT hZ (wd hw 57 rfl)) (by decide) (backOf (W := 0) (rm_alsz l Z a0 hw [] a1 (3 : Int32) h0 n0 O0 Fz_a1) hZ (wd hw 106 rfl) (wd hw 28 rfl) (by decide) (by decide)) q2a q2b q2c (g := (mkF m 5 #[rv br, rv a1, rv a2] [(.ref a1)])) rfl (by rw [hml]; rfl) (argsL := []) (rest := []) (lenOf pd___I rfl) rfl (by show 2 * 0 + _ ≤ _; exact Nat.le_of_eq rfl) (hb hby d14_5) rfl e1 (by decide) (by decide) (c' := 0) (s' := 0) rfl rfl
  clear q2a q2b q2c kq2 cq2
  obtain ⟨rfl, Nq2, eq2⟩ := hQ2
  have N2 := Fr.app N0 Nq2
  refine own_st (T' := T2) (g' := (mkF m 10 #[rv br, rv a1, rv a2] [(.int (3 : Int32))])) st2 ?_
  clear st2
  refine own_st (T' := T2) (g' := (mkF m 11 #[rv br, rv a1, rv a2] [(.int (2 : Int32)), (.int (3 : Int32))])) (fun _ k_ => XS.iconst X2.here hx rfl (hb hby d14_10) k_) ?_
  refine own_st (T' := T2) (g' := (mkF m 14 #[rv br, rv a1, rv a2] [])) (fun _ k_ => XS.icmpNo X2.here hx rfl (hb hby d14_11) rfl (flt (by decide : ¬ ((3 : Int32) < (2 : Int32)))).1 k_) ?_
  refine own_st (T' := T2) (g' := (mkF m 15 #[rv br, rv a1, rv a2] [(.ref a2)])) (fun _ k_ => XS.aloadN X2.here hx rfl (hb hby d14_14) rfl rfl  k_) ?_
  obtain ⟨cq3, kq3, q3a, q3b, q3c⟩ := isOf hZ eq2 E_a2
  obtain ⟨_, T3, L3, X3, hQ3, st3⟩ := own_callF X2 hx (xi := own_m33) (y := own_m14) hown (mvT hZ (wd hw 99 rfl)) (mvT hZ (wd hw 100 rfl)) (mvT hZ (wd hw 101 rfl)) (mvT hZ (wd hw 102 rfl)) (mvT hZ (wd hw 103 rfl)) (mvT hZ (wd hw 104 rfl)) (mvT hZ (wd hw 105 rfl)) (mvT hZ (wd hw 57 rfl)) (by decide) (backOf (W := 0) (rm_alsz l Z a0 hw [] a2 (2 : Int32) h0 n0 O0 Fz_a2) hZ (wd hw 106 rfl) (wd hw 28 rfl) (by decide) (by decide)) q3a q3b q3c (g := (mkF m 15 #[rv br, rv a1, rv a2] [(.ref a2)])) rfl (by rw [hml]; rfl) (argsL := []) (rest := []) (lenOf pd___I rfl) rfl (by show 2 * 0 + _ ≤ _; exact Nat.le_of_eq rfl) (hb hby d14_15) rfl eq2 (by decide) (by decide) (c' := 0) (s' := 0) rfl rfl
  clear q3a q3b q3c kq3 cq3
  obtain ⟨rfl, Nq3, eq3⟩ := hQ3
  have N3 := Fr.app N2 Nq3
  refine own_st (T' := T3) (g' := (mkF m 20 #[rv br, rv a1, rv a2] [(.int (2 : Int32))])) st3 ?_
  clear st3
  refine own_st (T' := T3) (g' := (mkF m 21 #[rv br, rv a1, rv a2] [(.ref a1), (.int (2 : Int32))])) (fun _ k_ => XS.aloadN X3.here hx rfl (hb hby d14_20) rfl rfl  k_) ?_
  obtain ⟨cq4, kq4, q4a, q4b, q4c⟩ := isOf hZ eq3 E_a1
  obtain ⟨_, T4, L4, X4, hQ4, st4⟩ := own_callF X3 hx (xi := own_m33) (y := own_m14) hown (mvT hZ (wd hw 99 rfl)) (mvT hZ (wd hw 100 rfl)) (mvT hZ (wd hw 101 rfl)) (mvT hZ (wd hw 102 rfl)) (mvT hZ (wd hw 103 rfl)) (mvT hZ (wd hw 104 rfl)) (mvT hZ (wd hw 105 rfl)) (mvT hZ (wd hw 57 rfl)) (by decide) (backOf (W := 1) (rm_alsz l Z a0 hw [] a1 (3 : Int32) h0 n0 O0 Fz_a1) hZ (wd hw 106 rfl) (wd hw 28 rfl) (by decide) (by decide)) q4a q4b q4c (g := (mkF m 21 #[rv br, rv a1, rv a2] [(.ref a1), (.int (2 : Int32))])) rfl (by rw [hml]; rfl) (argsL := []) (rest := [(.int (2 : Int32))]) (lenOf pd___I rfl) rfl (by show 2 * 0 + _ ≤ _; exact Nat.le_of_eq rfl) (hb hby d14_21) rfl eq3 (by decide) (by decide) (c' := 0) (s' := 0) rfl rfl
  clear q4a q4b q4c kq4 cq4
  obtain ⟨rfl, Nq4, eq4⟩ := hQ4
  have N4 := Fr.app N3 Nq4
  refine own_st (T' := T4) (g' := (mkF m 26 #[rv br, rv a1, rv a2] [(.int (3 : Int32)), (.int (2 : Int32))])) st4 ?_
  clear st4
  refine own_st (T' := T4) (g' := (mkF m 27 #[rv br, rv a1, rv a2] [(.int (1 : Int32)), (.int (3 : Int32)), (.int (2 : Int32))])) (fun _ k_ => XS.iconst X4.here hx rfl (hb hby d14_26) k_) ?_
  refine own_st (T' := T4) (g' := (mkF m 28 #[rv br, rv a1, rv a2] [(.int (2 : Int32)), (.int (2 : Int32))])) (fun _ k_ => XS.isub X4.here hx rfl (hb hby d14_27) rfl k_) ?_
  refine own_st (T' := T4) (g' := (mkF m 50 #[rv br, rv a1, rv a2] [])) (fun _ k_ => XS.icmpYes X4.here hx rfl (pc0 := 28) (pc' := 50) rfl (hb hby d14_28) rfl (teq (rfl : (2 : Int32) = (2 : Int32))).1 (by decide) (by decide) k_) ?_
  refine own_st (T' := T4) (g' := (mkF m 51 #[rv br, rv a1, rv a2] [(.ref br)])) (fun _ k_ => XS.aloadN X4.here hx rfl (hb hby d14_50) rfl rfl  k_) ?_
  refine own_st (T' := T4) (g' := (mkF m 52 #[rv br, rv a1, rv a2] [(.ref a1), (.ref br)])) (fun _ k_ => XS.aloadN X4.here hx rfl (hb hby d14_51) rfl rfl  k_) ?_
  obtain ⟨_, T5, L5, X5, hQ5, st5⟩ := own_callS X4 hx (y := own_m30) hown (mvT hZ (wd hw 107 rfl)) (mvT hZ (wd hw 108 rfl)) (mvT hZ (wd hw 109 rfl)) (mvT hZ (wd hw 110 rfl)) (by decide) (backOf (W := 1) (rm_cpy_3 l Z a0 hw [] a1 t1 kO mir y0 y1 y2 h0 n0 O0 E_a1 Fe_a1 Fz_a1 V_a1 OV FC MIR I_y0 I_y1 I_y2) hZ (wd hw 110 rfl) (wd hw 109 rfl) (by decide) (by decide)) (g := (mkF m 52 #[rv br, rv a1, rv a2] [(.ref a1), (.ref br)])) rfl (by rw [hml]; rfl) (argsL := [(.ref a1)]) (rest := [(.ref br)]) (lenOf pd__Ljava_util_Collection__Ljava_util_List_ rfl) rfl (by show 2 * 0 + _ ≤ _; exact Nat.le_of_eq rfl) (hb hby d14_52) rfl eq4 (by decide) (by decide) (c' := 3) (s' := 8) rfl rfl
  obtain ⟨x5, uu5, rfl, Nq5, K5, fq5_0, fq5_1, fq5_2, fq5_3, xq5_fresh_x, xq5_fresh_uu⟩ := hQ5
  have N5 := Fr.app N4 Nq5
  refine own_st (T' := T5) (g' := (mkF m 55 #[rv br, rv a1, rv a2] [(.ref x5), (.ref br)])) st5 ?_
  clear st5
  have f6 := P0.keep K5
  have f7 := P1.keep K5 nin0
  obtain ⟨T8, h8, X8, e8, W8, st8⟩ := putF X5 hx hZ hown (host := "") (Or.inl (wd hw 195 rfl)) Via.refl rfl f7 f6 (Or.inr ⟨(wd hw 196 rfl), rfl, hnm⟩) (wd hw 93 rfl) (ty := (.object "java/util/List")) (by decide) rfl rfl (g := (mkF m 55 #[rv br, rv a1, rv a2] [(.ref x5), (.ref br)])) rfl rfl (hb hby d14_55)
  have Fw8 : Fld Z h8 br "com/example/rights_leak_checker/rightsleakchecker/takegrant/Bridge" "walk" "Ljava/util/List;" (.ref x5) := Fld.same W8 f7
  have N8 := Fr.snoc X8 N5 fb
  refine own_st (T' := T8) (g' := (mkF m 58 #[rv br, rv a1, rv a2] [])) st8 ?_
  clear st8
  refine own_st (T' := T8) (g' := (mkF m 59 #[rv br, rv a1, rv a2] [(.ref br)])) (fun _ k_ => XS.aloadN X8.here hx rfl (hb hby d14_58) rfl rfl  k_) ?_
  refine own_st (T' := T8) (g' := (mkF m 60 #[rv br, rv a1, rv a2] [(.ref a2), (.ref br)])) (fun _ k_ => XS.aloadN X8.here hx rfl (hb hby d14_59) rfl rfl  k_) ?_
  have f9 := E_a2.keep K5
  have f10 := f9.wr W8
  have f11 := Fe_a2.keep K5 nin0
  have f12 := f11.other W8 (Or.inl (Ne.symm nab))
  have f13 := Fz_a2.keep K5 nin0
  have f14 := f13.other W8 (Or.inl (Ne.symm nab))
  have f15 := V_a2.keep K5 nin0
  have xe16 : Exa Z T5.heap br "com/example/rights_leak_checker/rightsleakchecker/takegrant/Bridge" := P0.keep K5
  have ne17 : br ≠ t2 := own_neA xe16 (wd hw 93 rfl) f15
  have f18 := f15.other W8 (Ne.symm ne17)
  have f19 := own_insK I_z0 K5
  have f20 := Ins.wr W8 f19
  have f21 := own_insK I_z1 K5
  have f22 := Ins.wr W8 f21
  have f23 := O0.keep K5 all0
  have f24 := f23.wr W8 fb
  have f25 := (Keep.refl h0 [br]).trans K5 all0
  have f26 := f25.wr W8 (Or.inl (List.mem_of_getElem? (i := 0) rfl))
  obtain ⟨_, T27, L27, X27, hQ27, st27⟩ := own_callS X8 hx (y := own_m30) hown (mvT hZ (wd hw 107 rfl)) (mvT hZ (wd hw 108 rfl)) (mvT hZ (wd hw 109 rfl)) (mvT hZ (wd hw 110 rfl)) (by decide) (backOf (W := 1) (rm_cpy_2 l Z a0 hw [] a2 t2 kO mir z0 z1 h8 n0 f24 f10 f12 f14 f18 OV FC MIR f20 f22) hZ (wd hw 110 rfl) (wd hw 109 rfl) (by decide) (by decide)) (g := (mkF m 60 #[rv br, rv a1, rv a2] [(.ref a2), (.ref br)])) rfl (by rw [hml]; rfl) (argsL := [(.ref a2)]) (rest := [(.ref br)]) (lenOf pd__Ljava_util_Collection__Ljava_util_List_ rfl) rfl (by show 2 * 0 + _ ≤ _; exact Nat.le_of_eq rfl) (hb hby d14_60) rfl e8 (by decide) (by decide) (c' := 5) (s' := 12) rfl rfl
  obtain ⟨x27, rfl, Nq27, K27, fq27_0, fq27_1, fq27_2, xq27_fresh_x⟩ := hQ27
  have N27 := Fr.app N8 Nq27
  refine own_st (T' := T27) (g' := (mkF m 63 #[rv br, rv a1, rv a2] [(.ref x27), (.ref br)])) st27 ?_
  clear st27
  have f28 := f6.wr W8
  have f29 := f28.keep K27
  have f30 := P2.keep K5 nin0
  have f31 := f30.other W8 (Or.inr (slot_ne (Or.inr (wd hw 214 rfl)) (Or.inr (wd hw 196 rfl)) (by decide) (t := (.object "java/util/List")) (t' := (.object "java/util/List")) (by decide) (by decide)))
  have f32 := f31.keep K27 nin0
  obtain ⟨T33, h33, X33, e33, W33, st33⟩ := putF X27 hx hZ hown (host := "") (Or.inl (wd hw 213 rfl)) Via.refl rfl f32 f29 (Or.inr ⟨(wd hw 214 rfl), rfl, hnm⟩) (wd hw 93 rfl) (ty := (.object "java/util/List")) (by decide) rfl rfl (g := (mkF m 63 #[rv br, rv a1, rv a2] [(.ref x27), (.ref br)])) rfl rfl (hb hby d14_63)
  have Fw33 : Fld Z h33 br "com/example/rights_leak_checker/rightsleakchecker/takegrant/Bridge" "letters" "Ljava/util/List;" (.ref x27) := Fld.same W33 f32
  have N33 := Fr.snoc X33 N27 fb
  refine own_st (T' := T33) (g' := (mkF m 66 #[rv br, rv a1, rv a2] [])) st33 ?_
  clear st33
  have f34 := f26.trans K27 all0
  have f35 := f34.wr W33 (Or.inl (List.mem_of_getElem? (i := 0) rfl))
  have f36 := f29.wr W33
  have f37 := Fw8.keep K27 nin0
  have f38 := f37.other W33 (Or.inr (slot_ne (Or.inr (wd hw 196 rfl)) (Or.inr (wd hw 214 rfl)) (by decide) (t := (.object "java/util/List")) (t' := (.object "java/util/List")) (by decide) (by decide)))
  have f39 := fq5_0.wr W8
  have f40 := f39.keep K27
  have f41 := f40.wr W33
  have ne42 : br ≠ x5 := Nat.ne_of_lt (Nat.lt_of_lt_of_le P0.lt xq5_fresh_x)
  have f43 := fq5_1.other W8 (Or.inl (Ne.symm ne42))
  have f44 := f43.keep K27 nin0
  have f45 := f44.other W33 (Or.inl (Ne.symm ne42))
  have f46 := fq5_2.other W8 (Or.inl (Ne.symm ne42))
  have f47 := f46.keep K27 nin0
  have f48 := f47.other W33 (Or.inl (Ne.symm ne42))
  have ne49 : br ≠ uu5 := Nat.ne_of_lt (Nat.lt_of_lt_of_le P0.lt xq5_fresh_uu)
  have f50 := fq5_3.other W8 (Ne.symm ne49)
  have f51 := f50.keep K27 nin0
  have f52 := f51.other W33 (Ne.symm ne49)
  exact own_retV X33 hx hret hlk (hb hby d14_66) (by decide) (by decide) (by rw [e33]; exact ⟨x5, uu5, rfl, N33, f35, f36, f38, f41, f45, f48, f52, (Nat.le_trans (Keep.refl h0 [br]).1 xq5_fresh_x), (Nat.le_trans (Keep.refl h0 [br]).1 xq5_fresh_uu)⟩)
theorem d34_0 : decode jdk_44_method_5_code 0 = .ok (.iload_n 1, 1) := by decide +kernel
theorem d34_1 : decode jdk_44_method_5_code 1 = .ok (.ifCond .ne 8, 3) := by decide +kernel
theorem d34_4 : decode jdk_44_method_5_code 4 = .ok (.aload_n 0, 1) := by decide +kernel
theorem d34_5 : decode jdk_44_method_5_code 5 = .ok (.getfield 13, 3) := by decide +kernel
theorem d34_8 : decode jdk_44_method_5_code 8 = .ok (.areturn, 1) := by decide +kernel
theorem ef_gt12 (m : MethodId) (x0 : Addr) (x1 : Int32) : entryFrame m #[(.ref x0), (.int x1)] 2 = mkF m 0 #[rv x0, iv x1] [] := by first | (simp [entryFrame, mkF, argsToLocals, Value.category]; done) | rfl
def Q_gt12 (Z : State) (x : Addr) (y0 : Addr) (h0 : Heap) (n0 : Nat) (v : Option Value) (h : Heap) (L : List Loc) : Prop := (v = some (.ref y0)) ∧ (Fr n0 L) ∧ (h = h0)
set_option maxRecDepth 65536 in
set_option maxHeartbeats 40000000 in
theorem rm_gt12 (l : Launch) (Z : State) (a0 : Array Value) (hw : ∀ d ∈ tables_1, d.before a0 Z = true) (ws : List Jvm.Cond) (x : Addr) (y0 : Addr) (h0 : Heap) (n0 : Nat) (O0 : Old Z n0 h0) (F0 : Fld Z h0 x "java/util/ImmutableCollections$List12" "e0" "Ljava/lang/Object;" (.ref y0)) :
    own_MF l own_m35 (Jvm.Cond.code own_m35 jdk_44_method_5_code 2 (some (.object "java/lang/Object")) :: ws) ({ frames := 0, cells := 0, slots := 0, locals := 0 } : Room) #[(.ref x), (.int (0 : Int32))] Z h0 (Q_gt12 Z x y0 h0 n0) := by
  refine own_met (own := "java/util/ImmutableCollections$List12") (nme := "get") rfl rfl (plainFor_of_name pn_9) ?_
  intro p e s m below meth c s₁ hx hby hml hown hnm X0 e0 hret hlk hZ
  have N0 := Fr.nil n0
  rw [ef_gt12 m x (0 : Int32)]
  refine own_st (T' := s₁) (g' := (mkF m 1 #[rv x, iv (0 : Int32)] [(.int (0 : Int32))])) (fun _ k_ => XS.iloadN X0.here hx rfl (hb hby d34_0) rfl  k_) ?_
  refine own_st (T' := s₁) (g' := (mkF m 4 #[rv x, iv (0 : Int32)] [])) (fun _ k_ => XS.ifNo X0.here hx rfl (hb hby d34_1) rfl ((if0 _ _).trans (teq (rfl : (0 : Int32) = (0 : Int32))).2) k_) ?_
  refine own_st (T' := s₁) (g' := (mkF m 5 #[rv x, iv (0 : Int32)] [(.ref x)])) (fun _ k_ => XS.aloadN X0.here hx rfl (hb hby d34_4) rfl rfl  k_) ?_
  obtain ⟨T1, X1, e1, st1⟩ := getF X0 hx hZ hown (host := "") (Or.inl (wd hw 209 rfl)) Via.refl e0 F0 (g := (mkF m 5 #[rv x, iv (0 : Int32)] [(.ref x)])) rfl rfl (hb hby d34_5)
  refine own_st (T' := T1) (g' := (mkF m 8 #[rv x, iv (0 : Int32)] [(.ref y0)])) st1 ?_
  clear st1
  exact own_retA X1 hx hret rfl rfl hlk (hb hby d34_8) (by decide) (by decide) ⟨rfl, N0, e1⟩
theorem d30_0 : decode prog_42_method_2_code 0 = .ok (.aload_n 0, 1) := by decide +kernel
theorem d30_1 : decode prog_42_method_2_code 1 = .ok (.getfield 26, 3) := by decide +kernel
theorem d30_4 : decode prog_42_method_2_code 4 = .ok (.iconst 0, 1) := by decide +kernel
theorem d30_5 : decode prog_42_method_2_code 5 = .ok (.invokeinterface 35 2, 5) := by decide +kernel
theorem d30_10 : decode prog_42_method_2_code 10 = .ok (.checkcast 39, 3) := by decide +kernel
theorem d30_13 : decode prog_42_method_2_code 13 = .ok (.areturn, 1) := by decide +kernel
theorem pd__I_Ljava_lang_Object_ : parseMethodDescriptor "(I)Ljava/lang/Object;" = some ⟨[.int], some (.object "java/lang/Object")⟩ := by decide +kernel
theorem ef_fr_2 (m : MethodId) (x0 : Addr) : entryFrame m #[(.ref x0)] 1 = mkF m 0 #[rv x0] [] := by first | (simp [entryFrame, mkF, argsToLocals, Value.category]; done) | rfl
def Q_fr_2 (Z : State) (br : Addr) (x : Addr) (y0 : Addr) (h0 : Heap) (n0 : Nat) (v : Option Value) (h : Heap) (L : List Loc) : Prop := (v = some (.ref y0)) ∧ (Fr n0 L) ∧ (h = h0)
set_option maxRecDepth 65536 in
set_option maxHeartbeats 40000000 in
theorem rm_fr_2 (l : Launch) (Z : State) (a0 : Array Value) (hw : ∀ d ∈ tables_1, d.before a0 Z = true) (ws : List Jvm.Cond) (br : Addr) (x : Addr) (y0 : Addr) (h0 : Heap) (n0 : Nat) (O0 : Old Z n0 h0) (Fw : Fld Z h0 br "com/example/rights_leak_checker/rightsleakchecker/takegrant/Bridge" "walk" "Ljava/util/List;" (.ref x)) (E_x : Exa Z h0 x "java/util/ImmutableCollections$List12") (F0 : Fld Z h0 x "java/util/ImmutableCollections$List12" "e0" "Ljava/lang/Object;" (.ref y0)) (E_y : Exa Z h0 y0 "java/lang/String") :
    own_MF l own_m37 (Jvm.Cond.code own_m37 prog_42_method_2_code 1 (some (.object "java/lang/String")) :: ws) ({ frames := 1, cells := 0, slots := 0, locals := 13 } : Room) #[(.ref br)] Z h0 (Q_fr_2 Z br x y0 h0 n0) := by
  refine own_met (own := "com/example/rights_leak_checker/rightsleakchecker/takegrant/Bridge") (nme := "from") rfl rfl (plainFor_of_name pn_14) ?_
  intro p e s m below meth c s₁ hx hby hml hown hnm X0 e0 hret hlk hZ
  have N0 := Fr.nil n0
  rw [ef_fr_2 m br]
  refine own_st (T' := s₁) (g' := (mkF m 1 #[rv br] [(.ref br)])) (fun _ k_ => XS.aloadN X0.here hx rfl (hb hby d30_0) rfl rfl  k_) ?_
  obtain ⟨T1, X1, e1, st1⟩ := getF X0 hx hZ hown (host := "") (Or.inl (wd hw 195 rfl)) Via.refl e0 Fw (g := (mkF m 1 #[rv br] [(.ref br)])) rfl rfl (hb hby d30_1)
  refine own_st (T' := T1) (g' := (mkF m 4 #[rv br] [(.ref x)])) st1 ?_
  clear st1
  refine own_st (T' := T1) (g' := (mkF m 5 #[rv br] [(.int (0 : Int32)), (.ref x)])) (fun _ k_ => XS.iconst X1.here hx rfl (hb hby d30_4) k_) ?_
  obtain ⟨cq2, kq2, q2a, q2b, q2c⟩ := isOf hZ e1 E_x
  obtain ⟨_, T2, L2, X2, hQ2, st2⟩ := own_callF X1 hx (xi := own_m36) (y := own_m35) hown (mvT hZ (wd hw 220 rfl)) (mvT hZ (wd hw 221 rfl)) (mvT hZ (wd hw 222 rfl)) (mvT hZ (wd hw 241 rfl)) (mvT hZ (wd hw 242 rfl)) (mvT hZ (wd hw 243 rfl)) (mvT hZ (wd hw 244 rfl)) (mvT hZ (wd hw 245 rfl)) (by decide) (backOf (W := 0) (rm_gt12 l Z a0 hw [] x y0 h0 n0 O0 F0) hZ (wd hw 246 rfl) (wd hw 199 rfl) (by decide) (by decide)) q2a q2b q2c (g := (mkF m 5 #[rv br] [(.int (0 : Int32)), (.ref x)])) rfl (by rw [hml]; rfl) (argsL := [(.int (0 : Int32))]) (rest := []) (lenOf pd__I_Ljava_lang_Object_ rfl) rfl (by show 2 * 0 + _ ≤ _; exact Nat.le_of_eq rfl) (hb hby d30_5) rfl e1 (by decide) (by decide) (c' := 0) (s' := 0) rfl rfl
  clear q2a q2b q2c kq2 cq2
  obtain ⟨rfl, Nq2, eq2⟩ := hQ2
  have N2 := Fr.app N0 Nq2
  refine own_st (T' := T2) (g' := (mkF m 10 #[rv br] [(.ref y0)])) st2 ?_
  clear st2
  obtain ⟨T3, X3, e3, st3⟩ := castY X2 hx hZ hown (wd hw 229 rfl) eq2 (Ins.self E_y) (g := (mkF m 10 #[rv br] [(.ref y0)])) rfl rfl (hb hby d30_10)
  refine own_st (T' := T3) (g' := (mkF m 13 #[rv br] [(.ref y0)])) st3 ?_
  clear st3
  exact own_retA X3 hx hret rfl rfl hlk (hb hby d30_13) (by decide) (by decide) ⟨rfl, N2, e3⟩
theorem d31_0 : decode jdk_45_method_4_code 0 = .ok (.aload_n 0, 1) := by decide +kernel
theorem d31_1 : decode jdk_45_method_4_code 1 = .ok (.getfield 7, 3) := by decide +kernel
theorem d31_4 : decode jdk_45_method_4_code 4 = .ok (.iload_n 1, 1) := by decide +kernel
theorem d31_5 : decode jdk_45_method_4_code 5 = .ok (.aaload, 1) := by decide +kernel
theorem d31_6 : decode jdk_45_method_4_code 6 = .ok (.areturn, 1) := by decide +kernel
theorem ef_gtn_3 (m : MethodId) (x0 : Addr) (x1 : Int32) : entryFrame m #[(.ref x0), (.int x1)] 2 = mkF m 0 #[rv x0, iv x1] [] := by first | (simp [entryFrame, mkF, argsToLocals, Value.category]; done) | rfl
def Q_gtn_3 (Z : State) (x : Addr) (uu : Addr) (kO : ClassId) (y0 : Addr) (y1 : Addr) (y2 : Addr) (h0 : Heap) (n0 : Nat) (v : Option Value) (h : Heap) (L : List Loc) : Prop := (v = some (.ref y0)) ∧ (Fr n0 L) ∧ (h = h0)
set_option maxRecDepth 65536 in
set_option maxHeartbeats 40000000 in
theorem rm_gtn_3 (l : Launch) (Z : State) (a0 : Array Value) (hw : ∀ d ∈ tables_1, d.before a0 Z = true) (ws : List Jvm.Cond) (x : Addr) (uu : Addr) (kO : ClassId) (y0 : Addr) (y1 : Addr) (y2 : Addr) (h0 : Heap) (n0 : Nat) (O0 : Old Z n0 h0) (Fl : Fld Z h0 x "java/util/ImmutableCollections$ListN" "elements" "[Ljava/lang/Object;" (.ref uu)) (V_u : Arv Z h0 uu kO (.object "java/lang/Object") (3 : Int32) [(.ref y0), (.ref y1), (.ref y2)] .null) :
    own_MF l own_m38 (Jvm.Cond.code own_m38 jdk_45_method_4_code 2 (some (.object "java/lang/Object")) :: ws) ({ frames := 0, cells := 0, slots := 0, locals := 0 } : Room) #[(.ref x), (.int (0 : Int32))] Z h0 (Q_gtn_3 Z x uu kO y0 y1 y2 h0 n0) := by
  refine own_met (own := "java/util/ImmutableCollections$ListN") (nme := "get") rfl rfl (plainFor_of_name pn_10) ?_
  intro p e s m below meth c s₁ hx hby hml hown hnm X0 e0 hret hlk hZ
  have N0 := Fr.nil n0
  rw [ef_gtn_3 m x (0 : Int32)]
  refine own_st (T' := s₁) (g' := (mkF m 1 #[rv x, iv (0 : Int32)] [(.ref x)])) (fun _ k_ => XS.aloadN X0.here hx rfl (hb hby d31_0) rfl rfl  k_) ?_
  obtain ⟨T1, X1, e1, st1⟩ := getF X0 hx hZ hown (host := "") (Or.inl (wd hw 191 rfl)) Via.refl e0 Fl (g := (mkF m 1 #[rv x, iv (0 : Int32)] [(.ref x)])) rfl rfl (hb hby d31_1)
  refine own_st (T' := T1) (g' := (mkF m 4 #[rv x, iv (0 : Int32)] [(.ref uu)])) st1 ?_
  clear st1
  refine own_st (T' := T1) (g' := (mkF m 5 #[rv x, iv (0 : Int32)] [(.int (0 : Int32)), (.ref uu)])) (fun _ k_ => XS.iloadN X1.here hx rfl (hb hby d31_4) rfl  k_) ?_
  obtain ⟨cl2, Ar2, q2, S2, N2, H2, G2⟩ := id V_u
  have hin2 : ¬ ((0 : Int32) < 0 ∨ cl2.slots.size ≤ ((0 : Int32)).toNatClampNeg) := inb_of S2 ⟨by decide, by decide⟩
  refine own_st (T' := T1) (g' := (mkF m 6 #[rv x, iv (0 : Int32)] [(.ref y0)])) (X1.aaload hx (j := (0 : Int32)) (v := (.ref y0)) (by rw [e1]; exact Ar2.1) (State.isArrayOf_alike hZ.alike Ar2.2.1) rfl Ar2.2.2 hin2 (H2.at hin2 rfl) (g := (mkF m 5 #[rv x, iv (0 : Int32)] [(.int (0 : Int32)), (.ref uu)])) rfl rfl (hb hby d31_5)) ?_
  clear hin2 G2 H2 N2 S2 q2 Ar2 cl2
  exact own_retA X1 hx hret rfl rfl hlk (hb hby d31_6) (by decide) (by decide) ⟨rfl, N0, e1⟩
theorem ef_fr_3 (m : MethodId) (x0 : Addr) : entryFrame m #[(.ref x0)] 1 = mkF m 0 #[rv x0] [] := by first | (simp [entryFrame, mkF, argsToLocals, Value.category]; done) | rfl
def Q_fr_3 (Z : State) (br : Addr) (x : Addr) (uu : Addr) (kO : ClassId) (y0 : Addr) (y1 : Addr) (y2 : Addr) (h0 : Heap) (n0 : Nat) (v : Option Value) (h : Heap) (L : List Loc) : Prop := (v = some (.ref y0)) ∧ (Fr n0 L) ∧ (h = h0)
set_option maxRecDepth 65536 in
set_option maxHeartbeats 40000000 in
theorem rm_fr_3 (l : Launch) (Z : State) (a0 : Array Value) (hw : ∀ d ∈ tables_1, d.before a0 Z = true) (ws : List Jvm.Cond) (br : Addr) (x : Addr) (uu : Addr) (kO : ClassId) (y0 : Addr) (y1 : Addr) (y2 : Addr) (h0 : Heap) (n0 : Nat) (O0 : Old Z n0 h0) (Fw : Fld Z h0 br "com/example/rights_leak_checker/rightsleakchecker/takegrant/Bridge" "walk" "Ljava/util/List;" (.ref x)) (E_x : Exa Z h0 x "java/util/ImmutableCollections$ListN") (Fl : Fld Z h0 x "java/util/ImmutableCollections$ListN" "elements" "[Ljava/lang/Object;" (.ref uu)) (V_u : Arv Z h0 uu kO (.object "java/lang/Object") (3 : Int32) [(.ref y0), (.ref y1), (.ref y2)] .null) (E_y : Exa Z h0 y0 "java/lang/String") :
    own_MF l own_m37 (Jvm.Cond.code own_m37 prog_42_method_2_code 1 (some (.object "java/lang/String")) :: ws) ({ frames := 1, cells := 0, slots := 0, locals := 13 } : Room) #[(.ref br)] Z h0 (Q_fr_3 Z br x uu kO y0 y1 y2 h0 n0) := by
  refine own_met (own := "com/example/rights_leak_checker/rightsleakchecker/takegrant/Bridge") (nme := "from") rfl rfl (plainFor_of_name pn_14) ?_
  intro p e s m below meth c s₁ hx hby hml hown hnm X0 e0 hret hlk hZ
  have N0 := Fr.nil n0
  rw [ef_fr_3 m br]
  refine own_st (T' := s₁) (g' := (mkF m 1 #[rv br] [(.ref br)])) (fun _ k_ => XS.aloadN X0.here hx rfl (hb hby d30_0) rfl rfl  k_) ?_
  obtain ⟨T1, X1, e1, st1⟩ := getF X0 hx hZ hown (host := "") (Or.inl (wd hw 195 rfl)) Via.refl e0 Fw (g := (mkF m 1 #[rv br] [(.ref br)])) rfl rfl (hb hby d30_1)
  refine own_st (T' := T1) (g' := (mkF m 4 #[rv br] [(.ref x)])) st1 ?_
  clear st1
  refine own_st (T' := T1) (g' := (mkF m 5 #[rv br] [(.int (0 : Int32)), (.ref x)])) (fun _ k_ => XS.iconst X1.here hx rfl (hb hby d30_4) k_) ?_
  obtain ⟨cq2, kq2, q2a, q2b, q2c⟩ := isOf hZ e1 E_x
  obtain ⟨_, T2, L2, X2, hQ2, st2⟩ := own_callF X1 hx (xi := own_m36) (y := own_m38) hown (mvT hZ (wd hw 220 rfl)) (mvT hZ (wd hw 221 rfl)) (mvT hZ (wd hw 222 rfl)) (mvT hZ (wd hw 223 rfl)) (mvT hZ (wd hw 224 rfl)) (mvT hZ (wd hw 225 rfl)) (mvT hZ (wd hw 226 rfl)) (mvT hZ (wd hw 227 rfl)) (by decide) (backOf (W := 0) (rm_gtn_3 l Z a0 hw [] x uu kO y0 y1 y2 h0 n0 O0 Fl V_u) hZ (wd hw 228 rfl) (wd hw 172 rfl) (by decide) (by decide)) q2a q2b q2c (g := (mkF m 5 #[rv br] [(.int (0 : Int32)), (.ref x)])) rfl (by rw [hml]; rfl) (argsL := [(.int (0 : Int32))]) (rest := []) (lenOf pd__I_Ljava_lang_Object_ rfl) rfl (by show 2 * 0 + _ ≤ _; exact Nat.le_of_eq rfl) (hb hby d30_5) rfl e1 (by decide) (by decide) (c' := 0) (s' := 0) rfl rfl
  clear q2a q2b q2c kq2 cq2
  obtain ⟨rfl, Nq2, eq2⟩ := hQ2
  have N2 := Fr.app N0 Nq2
  refine own_st (T' := T2) (g' := (mkF m 10 #[rv br] [(.ref y0)])) st2 ?_
  clear st2
  obtain ⟨T3, X3, e3, st3⟩ := castY X2 hx hZ hown (wd hw 229 rfl) eq2 (Ins.self E_y) (g := (mkF m 10 #[rv br] [(.ref y0)])) rfl rfl (hb hby d30_10)
  refine own_st (T' := T3) (g' := (mkF m 13 #[rv br] [(.ref y0)])) st3 ?_
  clear st3
  exact own_retA X3 hx hret rfl rfl hlk (hb hby d30_13) (by decide) (by decide) ⟨rfl, N2, e3⟩
theorem d32_0 : decode jdk_42_method_66_code 0 = .ok (.aload_n 0, 1) := by decide +kernel
theorem d32_1 : decode jdk_42_method_66_code 1 = .ok (.aload_n 1, 1) := by decide +kernel
theorem d32_2 : decode jdk_42_method_66_code 2 = .ok (.if_acmp .ne 5, 3) := by decide +kernel
theorem d32_5 : decode jdk_42_method_66_code 5 = .ok (.iconst 1, 1) := by decide +kernel
theorem d32_6 : decode jdk_42_method_66_code 6 = .ok (.ireturn, 1) := by decide +kernel
theorem ef_eqs (m : MethodId) (x0 : Addr) (x1 : Addr) : entryFrame m #[(.ref x0), (.ref x1)] 3 = mkF m 0 #[rv x0, rv x1, .unset] [] := by first | (simp [entryFrame, mkF, argsToLocals, Value.category]; done) | rfl
def Q_eqs (Z : State) (x : Addr) (h0 : Heap) (n0 : Nat) (v : Option Value) (h : Heap) (L : List Loc) : Prop := (v = some (.int (1 : Int32))) ∧ (Fr n0 L) ∧ (h = h0)
set_option maxRecDepth 65536 in
set_option maxHeartbeats 40000000 in
theorem rm_eqs (l : Launch) (Z : State) (a0 : Array Value) (hw : ∀ d ∈ tables_1, d.before a0 Z = true) (ws : List Jvm.Cond) (x : Addr) (h0 : Heap) (n0 : Nat) (O0 : Old Z n0 h0) :
    own_MF l own_m39 (Jvm.Cond.code own_m39 jdk_42_method_66_code 3 (some .boolean) :: ws) ({ frames := 0, cells := 0, slots := 0, locals := 0 } : Room) #[(.ref x), (.ref x)] Z h0 (Q_eqs Z x h0 n0) := by
  refine own_met (own := "java/lang/String") (nme := "equals") rfl rfl (plainFor_of_name pn_0) ?_
  intro p e s m below meth c s₁ hx hby hml hown hnm X0 e0 hret hlk hZ
  have N0 := Fr.nil n0
  rw [ef_eqs m x x]
  refine own_st (T' := s₁) (g' := (mkF m 1 #[rv x, rv x, .unset] [(.ref x)])) (fun _ k_ => XS.aloadN X0.here hx rfl (hb hby d32_0) rfl rfl  k_) ?_
  refine own_st (T' := s₁) (g' := (mkF m 2 #[rv x, rv x, .unset] [(.ref x), (.ref x)])) (fun _ k_ => XS.aloadN X0.here hx rfl (hb hby d32_1) rfl rfl  k_) ?_
  refine own_st (T' := s₁) (g' := (mkF m 5 #[rv x, rv x, .unset] [])) (fun _ k_ => Jvm.RoadKit.acmp (g := (mkF m 2 #[rv x, rv x, .unset] [(.ref x), (.ref x)])) X0 hx rfl rfl rfl (pc0 := 2) (pc' := 5) (same := true) rfl (hb hby d32_2) rfl (decide_eq_true rfl) (by decide) (by decide) k_) ?_
  refine own_st (T' := s₁) (g' := (mkF m 6 #[rv x, rv x, .unset] [(.int (1 : Int32))])) (fun _ k_ => XS.iconst X0.here hx rfl (hb hby d32_5) k_) ?_
  exact own_retN X0 hx (t := .boolean) hret (by simp) hlk (hb hby d32_6) (by decide) (by decide) ⟨rfl, N0, e0⟩
theorem pd__Ljava_lang_Object__Z : parseMethodDescriptor "(Ljava/lang/Object;)Z" = some ⟨[(.object "java/lang/Object")], some .boolean⟩ := by decide +kernel
theorem pd__I_Lcom_example_rights_leak_checker_rightsleakchecker_takegrant_Bridge_Letter_ : parseMethodDescriptor "(I)Lcom/example/rights_leak_checker/rightsleakchecker/takegrant/Bridge$Letter;" = some ⟨[.int], some (.object "com/example/rights_leak_checker/rightsleakchecker/takegrant/Bridge$Letter")⟩ := by decide +kernel
theorem pd__Ljava_util_List_Ljava_util_List__V : parseMethodDescriptor "(Ljava/util/List;Ljava/util/List;)V" = some ⟨[(.object "java/util/List"), (.object "java/util/List")], none⟩ := by decide +kernel
theorem pd___Ljava_lang_String_ : parseMethodDescriptor "()Ljava/lang/String;" = some ⟨[], some (.object "java/lang/String")⟩ := by decide +kernel
set_option maxRecDepth 65536 in
set_option maxHeartbeats 40000000 in
theorem seg_t0 {p : Program} {l : Launch} {e : Env} {s : State} {m : MethodId} {args : Array Value} {below : List Frame} {meth : Method} {c : Code} {T0 : State} {locs : List Loc} {Z : State} {a0 : Array Value} {vm0 : Vm} {k0 : Nat} (h0 : Heap) (hB : Heap) (n0 : Nat) (i0 : Int32) (i1 : Int32) (i2 : Int32) (i3 : Int32) (s0_ : Addr) (s1_ : Addr) (s2_ : Addr) (dA : Addr) (clD : Cell) (kO : ClassId) (mir : Addr) (em : Addr) (w_TAKE_OUT : Addr) (w_TAKE_IN : Addr) (w_GRANT_OUT : Addr) (w_GRANT_IN : Addr)
    (X0 : Stand p l e room_1 (s.setVm vm0) m args below meth c T0 locs 18 200) (hx : p.tables.exec = Jvm.exec) (hZs : Z.Warmed39 s.vm) (hZ : Z.Warmed39 (s.setVm vm0).vm) (hS0 : s.Since vm0 k0) (hk0 : k0 ≤ hB.size) (CR0 : CHr Z consts_1 s.vm h0 vm0 hB) (hw : ∀ d ∈ tables_1, d.before a0 Z = true) (hby : c.code = code) (hml : c.maxLocals = 12) (howns : s.vm.findClass "com/example/rights_leak_checker/rightsleakchecker/takegrant/BridgeFromPinLaw" = some m.cls) (hown : (s.setVm vm0).vm.findClass "com/example/rights_leak_checker/rightsleakchecker/takegrant/BridgeFromPinLaw" = some m.cls) (hnm : meth.name = "law") (hret : meth.sig.returnType = some .boolean) (hlk : meth.locks = false) (e0 : T0.heap = hB) (N0 : Fr n0 locs) (O0 : Old Z n0 hB) (E_s0_ : Exa Z hB s0_ "java/lang/String") (E_s1_ : Exa Z hB s1_ "java/lang/String") (E_s2_ : Exa Z hB s2_ "java/lang/String") (SDe : Sta Z Z.heap "java/util/ArrayList" "DEFAULTCAPACITY_EMPTY_ELEMENTDATA" "[Ljava/lang/Object;" (.ref dA)) (AD : Arr Z Z.heap dA clD (.object "java/lang/Object")) (LD : clD.slots.size.toInt32 = (0 : Int32)) (OV : Ovr Z kO "java/lang/Object") (FC : Z.vm.findClass "[Ljava/lang/Object;" = some kO) (MIR : own_Mir Z "[Ljava/lang/Object;" mir) (SEm : Sta Z Z.heap "java/util/ImmutableCollections" "EMPTY" "Ljava/lang/Object;" (.ref em)) (S_TAKE_OUT : Sta Z Z.heap "com/example/rights_leak_checker/rightsleakchecker/takegrant/Bridge$Letter" "TAKE_OUT" "Lcom/example/rights_leak_checker/rightsleakchecker/takegrant/Bridge$Letter;" (.ref w_TAKE_OUT)) (X_TAKE_OUT : Exa Z Z.heap w_TAKE_OUT "com/example/rights_leak_checker/rightsleakchecker/takegrant/Bridge$Letter") (S_TAKE_IN : Sta Z Z.heap "com/example/rights_leak_checker/rightsleakchecker/takegrant/Bridge$Letter" "TAKE_IN" "Lcom/example/rights_leak_checker/rightsleakchecker/takegrant/Bridge$Letter;" (.ref w_TAKE_IN)) (X_TAKE_IN : Exa Z Z.heap w_TAKE_IN "com/example/rights_leak_checker/rightsleakchecker/takegrant/Bridge$Letter") (S_GRANT_OUT : Sta Z Z.heap "com/example/rights_leak_checker/rightsleakchecker/takegrant/Bridge$Letter" "GRANT_OUT" "Lcom/example/rights_leak_checker/rightsleakchecker/takegrant/Bridge$Letter;" (.ref w_GRANT_OUT)) (X_GRANT_OUT : Exa Z Z.heap w_GRANT_OUT "com/example/rights_leak_checker/rightsleakchecker/takegrant/Bridge$Letter") (S_GRANT_IN : Sta Z Z.heap "com/example/rights_leak_checker/rightsleakchecker/takegrant/Bridge$Letter" "GRANT_IN" "Lcom/example/rights_leak_checker/rightsleakchecker/takegrant/Bridge$Letter;" (.ref w_GRANT_IN)) (X_GRANT_IN : Exa Z Z.heap w_GRANT_IN "com/example/rights_leak_checker/rightsleakchecker/takegrant/Bridge$Letter") :
    own_W p e below s room_1.cells room_1.slots Z consts_1 h0 (own_L n0) T0 (mkF m 31 #[iv i0, iv i1, iv i2, iv i3, rv s0_, rv s1_, rv s2_, iv (0 : Int32), .unset, .unset, .unset, .unset] []) := by
  have hEL := own_EW hw
  obtain ⟨T1, h1, X1, e1, E1, A1, D1, -, st1⟩ := newO X0 hx hZ hown (wd hw 26 rfl) (wd hw 27 rfl) (wd hw 28 rfl) e0 (g := (mkF m 31 #[iv i0, iv i1, iv i2, iv i3, rv s0_, rv s1_, rv s2_, iv (0 : Int32), .unset, .unset, .unset, .unset] [])) rfl (hb hby at_31) (by decide) (by decide)
  obtain ⟨b1, g1⟩ : ∃ z, z = hB.size := ⟨_, rfl⟩
  rw [← g1] at A1 D1 st1
  have fr1 : n0 ≤ b1 := Nat.le_trans (own_z O0) (Nat.le_of_eq g1.symm)
  have CR2 := CR0.trans (CHr.ext E1 CR0.1)
  have F1_modCount : Fld Z h1 b1 "java/util/AbstractList" "modCount" "I" (.int (0 : Int32)) := D1 (Or.inl (wd hw 46 rfl)) (ty := .int) (by decide)
  have F1_elementData : Fld Z h1 b1 "java/util/ArrayList" "elementData" "[Ljava/lang/Object;" .null := D1 (Or.inl (wd hw 49 rfl)) (ty := (.array (.object "java/lang/Object"))) (by decide)
  have F1_size : Fld Z h1 b1 "java/util/ArrayList" "size" "I" (.int (0 : Int32)) := D1 (Or.inl (wd hw 62 rfl)) (ty := .int) (by decide)
  refine own_stW (T' := T1) (g' := (mkF m 34 #[iv i0, iv i1, iv i2, iv i3, rv s0_, rv s1_, rv s2_, iv (0 : Int32), .unset, .unset, .unset, .unset] [(.ref b1)])) st1 ?_
  clear st1
  refine own_stW (T' := T1) (g' := (mkF m 35 #[iv i0, iv i1, iv i2, iv i3, rv s0_, rv s1_, rv s2_, iv (0 : Int32), .unset, .unset, .unset, .unset] [(.ref b1), (.ref b1)])) (fun _ k_ => XS.dup X1.here hx rfl (hb hby at_34) rfl rfl k_) ?_
  have f3 := O0.ext E1
  obtain ⟨_, T4, L4, X4, hQ4, st4⟩ := own_callI X1 hx (y := own_m8) rfl hown (mvT hZ (wd hw 29 rfl)) (mvT hZ (wd hw 30 rfl)) (mvT hZ (wd hw 31 rfl)) (by decide) (backOf (W := 1) (rm_ali l Z a0 hw [] b1 dA h1 n0 f3 A1 F1_elementData F1_size F1_modCount fr1 SDe) hZ (wd hw 31 rfl) (wd hw 28 rfl) (by decide) (by decide)) (g := (mkF m 35 #[iv i0, iv i1, iv i2, iv i3, rv s0_, rv s1_, rv s2_, iv (0 : Int32), .unset, .unset, .unset, .unset] [(.ref b1), (.ref b1)])) rfl (by rw [hml]; rfl) (a := b1) (argsL := []) (rest := [(.ref b1)]) (lenOf pd___V rfl) rfl (by show 2 * 0 + _ ≤ _; exact Nat.le_of_eq rfl) (hb hby at_35) rfl e1 (by decide) (by decide) (c' := 19) (s' := 203) rfl rfl
  obtain ⟨rfl, Nq4, K4, fq4_0, fq4_1, fq4_2, fq4_3⟩ := hQ4
  have N4 := Fr.app N0 Nq4
  have CR5 := CR2.trans (CHr.keep K4 (sfS (Safe.exa hZ.alike A1 (by decide) (by decide)) sf0) CR2.1)
  refine own_stW (T' := T4) (g' := (mkF m 38 #[iv i0, iv i1, iv i2, iv i3, rv s0_, rv s1_, rv s2_, iv (0 : Int32), .unset, .unset, .unset, .unset] [(.ref b1)])) st4 ?_
  clear st4
  refine own_stW (T' := T4) (g' := (mkF m 40 #[iv i0, iv i1, iv i2, iv i3, rv s0_, rv s1_, rv s2_, iv (0 : Int32), rv b1, .unset, .unset, .unset] [])) (fun _ k_ => XS.astore X4.here hx rfl (hb hby at_38) rfl rfl (l' := #[iv i0, iv i1, iv i2, iv i3, rv s0_, rv s1_, rv s2_, iv (0 : Int32), rv b1, .unset, .unset, .unset]) rfl k_) ?_
  refine own_stW (T' := T4) (g' := (mkF m 42 #[iv i0, iv i1, iv i2, iv i3, rv s0_, rv s1_, rv s2_, iv (0 : Int32), rv b1, .unset, .unset, .unset] [(.ref b1)])) (fun _ k_ => XS.aload X4.here hx rfl (hb hby at_40) rfl rfl  k_) ?_
  refine own_stW (T' := T4) (g' := (mkF m 44 #[iv i0, iv i1, iv i2, iv i3, rv s0_, rv s1_, rv s2_, iv (0 : Int32), rv b1, .unset, .unset, .unset] [(.ref s0_), (.ref b1)])) (fun _ k_ => XS.aload X4.here hx rfl (hb hby at_42) rfl rfl  k_) ?_
  have f6 := E_s0_.ext E1
  have f7 := f6.keep K4
  have f8 := f3.keep K4 (allS fr1 all0)
  obtain ⟨cq9, kq9, q9a, q9b, q9c⟩ := isOf hZ rfl fq4_0
  obtain ⟨_, T9, L9, X9, hQ9, st9⟩ := own_callF X4 hx (xi := own_m40) (y := own_m13) hown (mvT hZ (wd hw 50 rfl)) (mvT hZ (wd hw 51 rfl)) (mvT hZ (wd hw 52 rfl)) (mvT hZ (wd hw 53 rfl)) (mvT hZ (wd hw 54 rfl)) (mvT hZ (wd hw 55 rfl)) (mvT hZ (wd hw 56 rfl)) (mvT hZ (wd hw 57 rfl)) (by decide) (backOf (W := 0) (rm_add_0 l Z a0 hw [] b1 s0_ (0 : Int32) dA clD kO T4.heap n0 f8 fq4_0 fq4_1 fq4_2 fq4_3 fr1 SDe AD LD OV FC (Ins.of_exa f7 (wd hw 84 rfl))) hZ (wd hw 58 rfl) (wd hw 28 rfl) (by decide) (by decide)) q9a q9b q9c (g := (mkF m 44 #[iv i0, iv i1, iv i2, iv i3, rv s0_, rv s1_, rv s2_, iv (0 : Int32), rv b1, .unset, .unset, .unset] [(.ref s0_), (.ref b1)])) rfl (by rw [hml]; rfl) (argsL := [(.ref s0_)]) (rest := []) (lenOf pd__Ljava_lang_Object__Z rfl) rfl (by show 2 * 0 + _ ≤ _; exact Nat.le_of_eq rfl) (hb hby at_44) rfl rfl (by decide) (by decide) (c' := 20) (s' := 213) rfl rfl
  clear q9a q9b q9c kq9 cq9
  obtain ⟨t9, rfl, Nq9, K9, fq9_0, fq9_1, fq9_2, fq9_3, fq9_4, xq9_fresh_t⟩ := hQ9
  have N9 := Fr.app N4 Nq9
  have CR10 := CR5.trans (CHr.keep K9 (sfS (Safe.exa hZ.alike fq4_0 (by decide) (by decide)) sf0) CR5.1)
  refine own_stW (T' := T9) (g' := (mkF m 49 #[iv i0, iv i1, iv i2, iv i3, rv s0_, rv s1_, rv s2_, iv (0 : Int32), rv b1, .unset, .unset, .unset] [(.int (1 : Int32))])) st9 ?_
  clear st9
  refine own_stW (T' := T9) (g' := (mkF m 50 #[iv i0, iv i1, iv i2, iv i3, rv s0_, rv s1_, rv s2_, iv (0 : Int32), rv b1, .unset, .unset, .unset] [])) (fun _ k_ => XS.pop X9.here hx rfl (hb hby at_49) rfl rfl k_) ?_
  refine own_stW (T' := T9) (g' := (mkF m 52 #[iv i0, iv i1, iv i2, iv i3, rv s0_, rv s1_, rv s2_, iv (0 : Int32), rv b1, .unset, .unset, .unset] [(.ref b1)])) (fun _ k_ => XS.aload X9.here hx rfl (hb hby at_50) rfl rfl  k_) ?_
  refine own_stW (T' := T9) (g' := (mkF m 54 #[iv i0, iv i1, iv i2, iv i3, rv s0_, rv s1_, rv s2_, iv (0 : Int32), rv b1, .unset, .unset, .unset] [(.ref s1_), (.ref b1)])) (fun _ k_ => XS.aload X9.here hx rfl (hb hby at_52) rfl rfl  k_) ?_
  have f11 := E_s1_.ext E1
  have f12 := f11.keep K4
  have f13 := f12.keep K9
  have f14 := f8.keep K9 (allS fr1 all0)
  obtain ⟨cq15, kq15, q15a, q15b, q15c⟩ := isOf hZ rfl fq9_0
  obtain ⟨_, T15, L15, X15, hQ15, st15⟩ := own_callF X9 hx (xi := own_m40) (y := own_m13) hown (mvT hZ (wd hw 50 rfl)) (mvT hZ (wd hw 51 rfl)) (mvT hZ (wd hw 52 rfl)) (mvT hZ (wd hw 53 rfl)) (mvT hZ (wd hw 54 rfl)) (mvT hZ (wd hw 55 rfl)) (mvT hZ (wd hw 56 rfl)) (mvT hZ (wd hw 57 rfl)) (by decide) (backOf (W := 0) (rm_add_1 l Z a0 hw [] b1 s1_ t9 ((0 : Int32) + (1 : Int32)) kO (.ref s0_) T9.heap n0 f14 fq9_0 fq9_1 fq9_2 fq9_3 fq9_4 fr1 (Nat.le_trans (own_z f8) xq9_fresh_t) OV FC (Ins.of_exa f13 (wd hw 84 rfl))) hZ (wd hw 58 rfl) (wd hw 28 rfl) (by decide) (by decide)) q15a q15b q15c (g := (mkF m 54 #[iv i0, iv i1, iv i2, iv i3, rv s0_, rv s1_, rv s2_, iv (0 : Int32), rv b1, .unset, .unset, .unset] [(.ref s1_), (.ref b1)])) rfl (by rw [hml]; rfl) (argsL := [(.ref s1_)]) (rest := []) (lenOf pd__Ljava_lang_Object__Z rfl) rfl (by show 2 * 0 + _ ≤ _; exact Nat.le_of_eq rfl) (hb hby at_54) rfl rfl (by decide) (by decide) (c' := 20) (s' := 213) rfl rfl
  clear q15a q15b q15c kq15 cq15
  obtain ⟨rfl, Nq15, K15, fq15_0, fq15_1, fq15_2, fq15_3, fq15_4⟩ := hQ15
  have N15 := Fr.app N9 Nq15
  have CR16 := CR10.trans (CHr.keep K15 (sfS (Safe.exa hZ.alike fq9_0 (by decide) (by decide)) (sfS (Safe.arv hZ.alike fq9_4 (by decide)) sf0)) CR10.1)
  refine own_stW (T' := T15) (g' := (mkF m 59 #[iv i0, iv i1, iv i2, iv i3, rv s0_, rv s1_, rv s2_, iv (0 : Int32), rv b1, .unset, .unset, .unset] [(.int (1 : Int32))])) st15 ?_
  clear st15
  refine own_stW (T' := T15) (g' := (mkF m 60 #[iv i0, iv i1, iv i2, iv i3, rv s0_, rv s1_, rv s2_, iv (0 : Int32), rv b1, .unset, .unset, .unset] [])) (fun _ k_ => XS.pop X15.here hx rfl (hb hby at_59) rfl rfl k_) ?_
  refine own_stW (T' := T15) (g' := (mkF m 62 #[iv i0, iv i1, iv i2, iv i3, rv s0_, rv s1_, rv s2_, iv (0 : Int32), rv b1, .unset, .unset, .unset] [(.int (0 : Int32))])) (fun _ k_ => XS.iload X15.here hx rfl (hb hby at_60) rfl  k_) ?_
  refine own_stW (T' := T15) (g' := (mkF m 75 #[iv i0, iv i1, iv i2, iv i3, rv s0_, rv s1_, rv s2_, iv (0 : Int32), rv b1, .unset, .unset, .unset] [])) (fun _ k_ => XS.ifYes X15.here hx rfl (pc0 := 62) (pc' := 75) rfl (hb hby at_62) rfl ((if0 _ _).trans (teq (rfl : (0 : Int32) = (0 : Int32))).1) (by decide) (by decide) k_) ?_
  have f17 := f14.keep K15 (allS fr1 (allS (Nat.le_trans (own_z f8) xq9_fresh_t) all0))
  obtain ⟨T18, h18, X18, e18, E18, A18, D18, -, st18⟩ := newO X15 hx hZ hown (wd hw 26 rfl) (wd hw 27 rfl) (wd hw 28 rfl) rfl (g := (mkF m 75 #[iv i0, iv i1, iv i2, iv i3, rv s0_, rv s1_, rv s2_, iv (0 : Int32), rv b1, .unset, .unset, .unset] [])) rfl (hb hby at_75) (by decide) (by decide)
  obtain ⟨b18, g18⟩ : ∃ z, z = T15.heap.size := ⟨_, rfl⟩
  rw [← g18] at A18 D18 st18
  have fr18 : n0 ≤ b18 := Nat.le_trans (own_z f17) (Nat.le_of_eq g18.symm)
  have CR19 := CR16.trans (CHr.ext E18 CR16.1)
  have F18_modCount : Fld Z h18 b18 "java/util/AbstractList" "modCount" "I" (.int (0 : Int32)) := D18 (Or.inl (wd hw 46 rfl)) (ty := .int) (by decide)
  have F18_elementData : Fld Z h18 b18 "java/util/ArrayList" "elementData" "[Ljava/lang/Object;" .null := D18 (Or.inl (wd hw 49 rfl)) (ty := (.array (.object "java/lang/Object"))) (by decide)
  have F18_size : Fld Z h18 b18 "java/util/ArrayList" "size" "I" (.int (0 : Int32)) := D18 (Or.inl (wd hw 62 rfl)) (ty := .int) (by decide)
  refine own_stW (T' := T18) (g' := (mkF m 78 #[iv i0, iv i1, iv i2, iv i3, rv s0_, rv s1_, rv s2_, iv (0 : Int32), rv b1, .unset, .unset, .unset] [(.ref b18)])) st18 ?_
  clear st18
  refine own_stW (T' := T18) (g' := (mkF m 79 #[iv i0, iv i1, iv i2, iv i3, rv s0_, rv s1_, rv s2_, iv (0 : Int32), rv b1, .unset, .unset, .unset] [(.ref b18), (.ref b18)])) (fun _ k_ => XS.dup X18.here hx rfl (hb hby at_78) rfl rfl k_) ?_
  have f20 := f17.ext E18
  obtain ⟨_, T21, L21, X21, hQ21, st21⟩ := own_callI X18 hx (y := own_m8) rfl hown (mvT hZ (wd hw 29 rfl)) (mvT hZ (wd hw 30 rfl)) (mvT hZ (wd hw 31 rfl)) (by decide) (backOf (W := 1) (rm_ali l Z a0 hw [] b18 dA h18 n0 f20 A18 F18_elementData F18_size F18_modCount fr18 SDe) hZ (wd hw 31 rfl) (wd hw 28 rfl) (by decide) (by decide)) (g := (mkF m 79 #[iv i0, iv i1, iv i2, iv i3, rv s0_, rv s1_, rv s2_, iv (0 : Int32), rv b1, .unset, .unset, .unset] [(.ref b18), (.ref b18)])) rfl (by rw [hml]; rfl) (a := b18) (argsL := []) (rest := [(.ref b18)]) (lenOf pd___V rfl) rfl (by show 2 * 0 + _ ≤ _; exact Nat.le_of_eq rfl) (hb hby at_79) rfl e18 (by decide) (by decide) (c' := 21) (s' := 216) rfl rfl
  obtain ⟨rfl, Nq21, K21, fq21_0, fq21_1, fq21_2, fq21_3⟩ := hQ21
  have N21 := Fr.app N15 Nq21
  have CR22 := CR19.trans (CHr.keep K21 (sfS (Safe.exa hZ.alike A18 (by decide) (by decide)) sf0) CR19.1)
  refine own_stW (T' := T21) (g' := (mkF m 82 #[iv i0, iv i1, iv i2, iv i3, rv s0_, rv s1_, rv s2_, iv (0 : Int32), rv b1, .unset, .unset, .unset] [(.ref b18)])) st21 ?_
  clear st21
  refine own_stW (T' := T21) (g' := (mkF m 84 #[iv i0, iv i1, iv i2, iv i3, rv s0_, rv s1_, rv s2_, iv (0 : Int32), rv b1, rv b18, .unset, .unset] [])) (fun _ k_ => XS.astore X21.here hx rfl (hb hby at_82) rfl rfl (l' := #[iv i0, iv i1, iv i2, iv i3, rv s0_, rv s1_, rv s2_, iv (0 : Int32), rv b1, rv b18, .unset, .unset]) rfl k_) ?_
  refine own_stW (T' := T21) (g' := (mkF m 86 #[iv i0, iv i1, iv i2, iv i3, rv s0_, rv s1_, rv s2_, iv (0 : Int32), rv b1, rv b18, .unset, .unset] [(.ref b18)])) (fun _ k_ => XS.aload X21.here hx rfl (hb hby at_84) rfl rfl  k_) ?_
  refine own_stW (T' := T21) (g' := (mkF m 87 #[iv i0, iv i1, iv i2, iv i3, rv s0_, rv s1_, rv s2_, iv (0 : Int32), rv b1, rv b18, .unset, .unset] [(.int i3), (.ref b18)])) (fun _ k_ => XS.iloadN X21.here hx rfl (hb hby at_86) rfl  k_) ?_
  refine own_stW (T' := T21) (g' := (mkF m 88 #[iv i0, iv i1, iv i2, iv i3, rv s0_, rv s1_, rv s2_, iv (0 : Int32), rv b1, rv b18, .unset, .unset] [(.int (1 : Int32)), (.int i3), (.ref b18)])) (fun _ k_ => XS.iconst X21.here hx rfl (hb hby at_87) k_) ?_
  refine own_stW (T' := T21) (g' := (mkF m 89 #[iv i0, iv i1, iv i2, iv i3, rv s0_, rv s1_, rv s2_, iv (0 : Int32), rv b1, rv b18, .unset, .unset] [(.int ((i3.toUInt32 >>> ((1 : Int32) &&& 31).toUInt32).toInt32)), (.ref b18)])) (fun _ k_ => XS.iushr X21.here hx rfl (hb hby at_88) rfl k_) ?_
  have f23 := f20.keep K21 (allS fr18 all0)
  obtain ⟨_, T24, L24, X24, hQ24, st24⟩ := own_callS X21 hx (y := own_m32) hown (mvT hZ (wd hw 85 rfl)) (mvT hZ (wd hw 86 rfl)) (mvT hZ (wd hw 2 rfl)) (mvT hZ (wd hw 87 rfl)) (by decide) (backOf (W := 1) (rm_let l Z a0 hw [] ((i3.toUInt32 >>> ((1 : Int32) &&& 31).toUInt32).toInt32) w_TAKE_OUT w_TAKE_IN w_GRANT_OUT w_GRANT_IN T21.heap n0 f23 S_TAKE_OUT X_TAKE_OUT S_TAKE_IN X_TAKE_IN S_GRANT_OUT X_GRANT_OUT S_GRANT_IN X_GRANT_IN) hZ (wd hw 87 rfl) (wd hw 2 rfl) (by decide) (by decide)) (g := (mkF m 89 #[iv i0, iv i1, iv i2, iv i3, rv s0_, rv s1_, rv s2_, iv (0 : Int32), rv b1, rv b18, .unset, .unset] [(.int ((i3.toUInt32 >>> ((1 : Int32) &&& 31).toUInt32).toInt32)), (.ref b18)])) rfl (by rw [hml]; rfl) (argsL := [(.int ((i3.toUInt32 >>> ((1 : Int32) &&& 31).toUInt32).toInt32))]) (rest := [(.ref b18)]) (lenOf pd__I_Lcom_example_rights_leak_checker_rightsleakchecker_takegrant_Bridge_Letter_ rfl) rfl (by show 2 * 0 + _ ≤ _; exact Nat.le_of_eq rfl) (hb hby at_89) rfl rfl (by decide) (by decide) (c' := 21) (s' := 216) rfl rfl
  obtain ⟨b24, rfl, Nq24, eq24, xq24_old_b⟩ := hQ24
  have N24 := Fr.app N21 Nq24
  refine own_stW (T' := T24) (g' := (mkF m 92 #[iv i0, iv i1, iv i2, iv i3, rv s0_, rv s1_, rv s2_, iv (0 : Int32), rv b1, rv b18, .unset, .unset] [(.ref b24), (.ref b18)])) st24 ?_
  clear st24
  obtain ⟨cq25, kq25, q25a, q25b, q25c⟩ := isOf hZ eq24 fq21_0
  obtain ⟨_, T25, L25, X25, hQ25, st25⟩ := own_callF X24 hx (xi := own_m40) (y := own_m13) hown (mvT hZ (wd hw 50 rfl)) (mvT hZ (wd hw 51 rfl)) (mvT hZ (wd hw 52 rfl)) (mvT hZ (wd hw 53 rfl)) (mvT hZ (wd hw 54 rfl)) (mvT hZ (wd hw 55 rfl)) (mvT hZ (wd hw 56 rfl)) (mvT hZ (wd hw 57 rfl)) (by decide) (backOf (W := 0) (rm_add_0 l Z a0 hw [] b18 b24 (0 : Int32) dA clD kO T21.heap n0 f23 fq21_0 fq21_1 fq21_2 fq21_3 fr18 SDe AD LD OV FC (Ins.of_exa (xq24_old_b.ext f23.2) (wd hw 91 rfl))) hZ (wd hw 58 rfl) (wd hw 28 rfl) (by decide) (by decide)) q25a q25b q25c (g := (mkF m 92 #[iv i0, iv i1, iv i2, iv i3, rv s0_, rv s1_, rv s2_, iv (0 : Int32), rv b1, rv b18, .unset, .unset] [(.ref b24), (.ref b18)])) rfl (by rw [hml]; rfl) (argsL := [(.ref b24)]) (rest := []) (lenOf pd__Ljava_lang_Object__Z rfl) rfl (by show 2 * 0 + _ ≤ _; exact Nat.le_of_eq rfl) (hb hby at_92) rfl eq24 (by decide) (by decide) (c' := 22) (s' := 226) rfl rfl
  clear q25a q25b q25c kq25 cq25
  obtain ⟨t25, rfl, Nq25, K25, fq25_0, fq25_1, fq25_2, fq25_3, fq25_4, xq25_fresh_t⟩ := hQ25
  have N25 := Fr.app N24 Nq25
  have CR26 := CR22.trans (CHr.keep K25 (sfS (Safe.exa hZ.alike fq21_0 (by decide) (by decide)) sf0) CR22.1)
  refine own_stW (T' := T25) (g' := (mkF m 97 #[iv i0, iv i1, iv i2, iv i3, rv s0_, rv s1_, rv s2_, iv (0 : Int32), rv b1, rv b18, .unset, .unset] [(.int (1 : Int32))])) st25 ?_
  clear st25
  refine own_stW (T' := T25) (g' := (mkF m 98 #[iv i0, iv i1, iv i2, iv i3, rv s0_, rv s1_, rv s2_, iv (0 : Int32), rv b1, rv b18, .unset, .unset] [])) (fun _ k_ => XS.pop X25.here hx rfl (hb hby at_97) rfl rfl k_) ?_
  refine own_stW (T' := T25) (g' := (mkF m 100 #[iv i0, iv i1, iv i2, iv i3, rv s0_, rv s1_, rv s2_, iv (0 : Int32), rv b1, rv b18, .unset, .unset] [(.int (0 : Int32))])) (fun _ k_ => XS.iload X25.here hx rfl (hb hby at_98) rfl  k_) ?_
  refine own_stW (T' := T25) (g' := (mkF m 117 #[iv i0, iv i1, iv i2, iv i3, rv s0_, rv s1_, rv s2_, iv (0 : Int32), rv b1, rv b18, .unset, .unset] [])) (fun _ k_ => XS.ifYes X25.here hx rfl (pc0 := 100) (pc' := 117) rfl (hb hby at_100) rfl ((if0 _ _).trans (teq (rfl : (0 : Int32) = (0 : Int32))).1) (by decide) (by decide) k_) ?_
  have f27 := f23.keep K25 (allS fr18 all0)
  obtain ⟨T28, h28, X28, e28, E28, A28, D28, -, st28⟩ := newO X25 hx hZ hown (wd hw 92 rfl) (wd hw 93 rfl) (wd hw 94 rfl) rfl (g := (mkF m 117 #[iv i0, iv i1, iv i2, iv i3, rv s0_, rv s1_, rv s2_, iv (0 : Int32), rv b1, rv b18, .unset, .unset] [])) rfl (hb hby at_117) (by decide) (by decide)
  obtain ⟨b28, g28⟩ : ∃ z, z = T25.heap.size := ⟨_, rfl⟩
  rw [← g28] at A28 D28 st28
  have fr28 : n0 ≤ b28 := Nat.le_trans (own_z f27) (Nat.le_of_eq g28.symm)
  have CR29 := CR26.trans (CHr.ext E28 CR26.1)
  have F28_walk : Fld Z h28 b28 "com/example/rights_leak_checker/rightsleakchecker/takegrant/Bridge" "walk" "Ljava/util/List;" .null := D28 (Or.inr (wd hw 196 rfl)) (ty := (.object "java/util/List")) (by decide)
  have F28_letters : Fld Z h28 b28 "com/example/rights_leak_checker/rightsleakchecker/takegrant/Bridge" "letters" "Ljava/util/List;" .null := D28 (Or.inr (wd hw 214 rfl)) (ty := (.object "java/util/List")) (by decide)
  refine own_stW (T' := T28) (g' := (mkF m 120 #[iv i0, iv i1, iv i2, iv i3, rv s0_, rv s1_, rv s2_, iv (0 : Int32), rv b1, rv b18, .unset, .unset] [(.ref b28)])) st28 ?_
  clear st28
  refine own_stW (T' := T28) (g' := (mkF m 121 #[iv i0, iv i1, iv i2, iv i3, rv s0_, rv s1_, rv s2_, iv (0 : Int32), rv b1, rv b18, .unset, .unset] [(.ref b28), (.ref b28)])) (fun _ k_ => XS.dup X28.here hx rfl (hb hby at_120) rfl rfl k_) ?_
  refine own_stW (T' := T28) (g' := (mkF m 123 #[iv i0, iv i1, iv i2, iv i3, rv s0_, rv s1_, rv s2_, iv (0 : Int32), rv b1, rv b18, .unset, .unset] [(.ref b1), (.ref b28), (.ref b28)])) (fun _ k_ => XS.aload X28.here hx rfl (hb hby at_121) rfl rfl  k_) ?_
  refine own_stW (T' := T28) (g' := (mkF m 125 #[iv i0, iv i1, iv i2, iv i3, rv s0_, rv s1_, rv s2_, iv (0 : Int32), rv b1, rv b18, .unset, .unset] [(.ref b18), (.ref b1), (.ref b28), (.ref b28)])) (fun _ k_ => XS.aload X28.here hx rfl (hb hby at_123) rfl rfl  k_) ?_
  have ne30 : b18 ≠ b28 := Nat.ne_of_lt (Nat.lt_of_lt_of_le (Nat.lt_of_lt_of_le (Nat.lt_of_lt_of_le A18.lt K21.1) K25.1) (Nat.le_of_eq g28.symm))
  have f31 := fq15_0.ext E18
  have f32 := f31.keep K21
  have f33 := f32.keep K25
  have f34 := f33.ext E28
  have f35 := fq15_1.ext E18
  have ne36 : b1 ≠ b18 := Nat.ne_of_lt (Nat.lt_of_lt_of_le (Nat.lt_of_lt_of_le (Nat.lt_of_lt_of_le (Nat.lt_of_lt_of_le A1.lt K4.1) K9.1) K15.1) (Nat.le_of_eq g18.symm))
  have f37 := f35.keep K21 (ninS ne36 nin0)
  have f38 := f37.keep K25 (ninS ne36 nin0)
  have f39 := f38.ext E28
  have f40 := fq15_2.ext E18
  have f41 := f40.keep K21 (ninS ne36 nin0)
  have f42 := f41.keep K25 (ninS ne36 nin0)
  have f43 := f42.ext E28
  have f44 := fq15_4.ext E18
  have ne45 : t9 ≠ b18 := Nat.ne_of_lt (Nat.lt_of_lt_of_le (Nat.lt_of_lt_of_le fq9_4.lt K15.1) (Nat.le_of_eq g18.symm))
  have f46 := f44.keep K21 (ninS ne45 nin0)
  have f47 := f46.keep K25 (ninS ne45 nin0)
  have f48 := f47.ext E28
  have f49 := fq25_0.ext E28
  have f50 := fq25_1.ext E28
  have f51 := fq25_2.ext E28
  have f52 := fq25_4.ext E28
  have f53 := f7.keep K9
  have f54 := f53.keep K15
  have f55 := f54.ext E18
  have f56 := f55.keep K21
  have f57 := f56.keep K25
  have f58 := f57.ext E28
  have f59 := f13.keep K15
  have f60 := f59.ext E18
  have f61 := f60.keep K21
  have f62 := f61.keep K25
  have f63 := f62.ext E28
  have f64 := f27.ext E28
  obtain ⟨_, T65, L65, X65, hQ65, st65⟩ := own_callI X28 hx (y := own_m34) rfl hown (mvT hZ (wd hw 95 rfl)) (mvT hZ (wd hw 96 rfl)) (mvT hZ (wd hw 97 rfl)) (by decide) (backOf (W := 1) (rm_bri_2 l Z a0 hw [] b28 b1 t9 b18 t25 kO mir em s0_ s1_ b24 h28 n0 f64 A28 F28_walk F28_letters fr28 (Ne.symm ne30) f34 f39 f43 f48 f49 f50 f51 f52 OV FC MIR SEm (Ins.of_exa f58 (wd hw 84 rfl)) (Ins.of_exa f63 (wd hw 84 rfl)) (Ins.of_exa (xq24_old_b.ext f64.2) (wd hw 91 rfl))) hZ (wd hw 97 rfl) (wd hw 94 rfl) (by decide) (by decide)) (g := (mkF m 125 #[iv i0, iv i1, iv i2, iv i3, rv s0_, rv s1_, rv s2_, iv (0 : Int32), rv b1, rv b18, .unset, .unset] [(.ref b18), (.ref b1), (.ref b28), (.ref b28)])) rfl (by rw [hml]; rfl) (a := b28) (argsL := [(.ref b1), (.ref b18)]) (rest := [(.ref b28)]) (lenOf pd__Ljava_util_List_Ljava_util_List__V rfl) rfl (by show 2 * 0 + _ ≤ _; exact Nat.le_of_eq rfl) (hb hby at_125) rfl e28 (by decide) (by decide) (c' := 27) (s' := 235) rfl rfl
  obtain ⟨x65, rfl, Nq65, K65, fq65_0, fq65_1, fq65_2, fq65_3, fq65_4, xq65_fresh_x⟩ := hQ65
  have N65 := Fr.app N25 Nq65
  have CR66 := CR29.trans (CHr.keep K65 (sfS (Safe.exa hZ.alike A28 (by decide) (by decide)) sf0) CR29.1)
  refine own_stW (T' := T65) (g' := (mkF m 128 #[iv i0, iv i1, iv i2, iv i3, rv s0_, rv s1_, rv s2_, iv (0 : Int32), rv b1, rv b18, .unset, .unset] [(.ref b28)])) st65 ?_
  clear st65
  refine own_stW (T' := T65) (g' := (mkF m 130 #[iv i0, iv i1, iv i2, iv i3, rv s0_, rv s1_, rv s2_, iv (0 : Int32), rv b1, rv b18, rv b28, .unset] [])) (fun _ k_ => XS.astore X65.here hx rfl (hb hby at_128) rfl rfl (l' := #[iv i0, iv i1, iv i2, iv i3, rv s0_, rv s1_, rv s2_, iv (0 : Int32), rv b1, rv b18, rv b28, .unset]) rfl k_) ?_
  refine own_stW (T' := T65) (g' := (mkF m 132 #[iv i0, iv i1, iv i2, iv i3, rv s0_, rv s1_, rv s2_, iv (0 : Int32), rv b1, rv b18, rv b28, .unset] [(.ref b28)])) (fun _ k_ => XS.aload X65.here hx rfl (hb hby at_130) rfl rfl  k_) ?_
  have f67 := f58.keep K65
  have f68 := f64.keep K65 (allS fr28 all0)
  obtain ⟨cq69, kq69, q69a, q69b, q69c⟩ := isOf hZ rfl fq65_0
  obtain ⟨_, T69, L69, X69, hQ69, st69⟩ := own_callV X65 hx (y := own_m37) (z := own_m37) hown (mvT hZ (wd hw 215 rfl)) (mvT hZ (wd hw 216 rfl)) (notFace_of_selects (args := #[]) (mvT hZ (wd hw 218 rfl))) (mvT hZ (wd hw 218 rfl)) (mvT hZ (wd hw 217 rfl)) (by decide) (backOf (W := 0) (rm_fr_2 l Z a0 hw [] b28 x65 s0_ T65.heap n0 f68 fq65_1 fq65_2 fq65_3 f67) hZ (wd hw 219 rfl) (wd hw 94 rfl) (by decide) (by decide)) q69a q69c (g := (mkF m 132 #[iv i0, iv i1, iv i2, iv i3, rv s0_, rv s1_, rv s2_, iv (0 : Int32), rv b1, rv b18, rv b28, .unset] [(.ref b28)])) rfl (by rw [hml]; rfl) (argsL := []) (rest := []) (lenOf pd___Ljava_lang_String_ rfl) rfl (by show 2 * 0 + _ ≤ _; exact Nat.le_of_eq rfl) (hb hby at_132) rfl rfl (by decide) (by decide) (c' := 27) (s' := 235) rfl rfl
  clear q69a q69b q69c kq69 cq69
  obtain ⟨rfl, Nq69, eq69⟩ := hQ69
  have N69 := Fr.app N65 Nq69
  refine own_stW (T' := T69) (g' := (mkF m 135 #[iv i0, iv i1, iv i2, iv i3, rv s0_, rv s1_, rv s2_, iv (0 : Int32), rv b1, rv b18, rv b28, .unset] [(.ref s0_)])) st69 ?_
  clear st69
  refine own_stW (T' := T69) (g' := (mkF m 137 #[iv i0, iv i1, iv i2, iv i3, rv s0_, rv s1_, rv s2_, iv (0 : Int32), rv b1, rv b18, rv b28, rv s0_] [])) (fun _ k_ => XS.astore X69.here hx rfl (hb hby at_135) rfl rfl (l' := #[iv i0, iv i1, iv i2, iv i3, rv s0_, rv s1_, rv s2_, iv (0 : Int32), rv b1, rv b18, rv b28, rv s0_]) rfl k_) ?_
  refine own_stW (T' := T69) (g' := (mkF m 139 #[iv i0, iv i1, iv i2, iv i3, rv s0_, rv s1_, rv s2_, iv (0 : Int32), rv b1, rv b18, rv b28, rv s0_] [(.ref s0_)])) (fun _ k_ => XS.aload X69.here hx rfl (hb hby at_137) rfl rfl  k_) ?_
  refine own_stW (T' := T69) (g' := (mkF m 141 #[iv i0, iv i1, iv i2, iv i3, rv s0_, rv s1_, rv s2_, iv (0 : Int32), rv b1, rv b18, rv b28, rv s0_] [(.ref s0_), (.ref s0_)])) (fun _ k_ => XS.aload X69.here hx rfl (hb hby at_139) rfl rfl  k_) ?_
  obtain ⟨cq70, kq70, q70a, q70b, q70c⟩ := isOf hZ eq69 f67
  obtain ⟨_, T70, L70, X70, hQ70, st70⟩ := own_callV X69 hx (y := own_m39) (z := own_m39) hown (mvT hZ (wd hw 230 rfl)) (mvT hZ (wd hw 231 rfl)) (notFace_of_selects (args := #[]) (mvT hZ (wd hw 233 rfl))) (mvT hZ (wd hw 233 rfl)) (mvT hZ (wd hw 232 rfl)) (by decide) (backOf (W := 0) (rm_eqs l Z a0 hw [] s0_ T65.heap n0 f68) hZ (wd hw 234 rfl) (wd hw 6 rfl) (by decide) (by decide)) q70a q70c (g := (mkF m 141 #[iv i0, iv i1, iv i2, iv i3, rv s0_, rv s1_, rv s2_, iv (0 : Int32), rv b1, rv b18, rv b28, rv s0_] [(.ref s0_), (.ref s0_)])) rfl (by rw [hml]; rfl) (argsL := [(.ref s0_)]) (rest := []) (lenOf pd__Ljava_lang_Object__Z rfl) rfl (by show 2 * 0 + _ ≤ _; exact Nat.le_of_eq rfl) (hb hby at_141) rfl eq69 (by decide) (by decide) (c' := 27) (s' := 235) rfl rfl
  clear q70a q70b q70c kq70 cq70
  obtain ⟨rfl, Nq70, eq70⟩ := hQ70
  have N70 := Fr.app N69 Nq70
  refine own_stW (T' := T70) (g' := (mkF m 144 #[iv i0, iv i1, iv i2, iv i3, rv s0_, rv s1_, rv s2_, iv (0 : Int32), rv b1, rv b18, rv b28, rv s0_] [(.int (1 : Int32))])) st70 ?_
  clear st70
  exact own_retNW X70 hZ hS0 (by rw [eq70]; exact (Nat.le_trans (Nat.le_trans (Nat.le_trans (Nat.le_trans (Nat.le_trans (Nat.le_trans (Nat.le_trans (Nat.le_trans (Nat.le_trans hk0 E1.1) K4.1) K9.1) K15.1) E18.1) K21.1) K25.1) E28.1) K65.1)) hEL (by rw [eq70]; exact CR66) hx (t := .boolean) hret (by simp) hlk (hb hby at_144) (by decide) (by decide) ⟨rfl, N70⟩
set_option maxRecDepth 65536 in
set_option maxHeartbeats 40000000 in
theorem seg_t1 {p : Program} {l : Launch} {e : Env} {s : State} {m : MethodId} {args : Array Value} {below : List Frame} {meth : Method} {c : Code} {T0 : State} {locs : List Loc} {Z : State} {a0 : Array Value} {vm0 : Vm} {k0 : Nat} (h0 : Heap) (hB : Heap) (n0 : Nat) (i0 : Int32) (i1 : Int32) (i2 : Int32) (i3 : Int32) (s0_ : Addr) (s1_ : Addr) (s2_ : Addr) (dA : Addr) (clD : Cell) (kO : ClassId) (mir : Addr) (em : Addr) (w_TAKE_OUT : Addr) (w_TAKE_IN : Addr) (w_GRANT_OUT : Addr) (w_GRANT_IN : Addr)
    (X0 : Stand p l e room_1 (s.setVm vm0) m args below meth c T0 locs 18 200) (hx : p.tables.exec = Jvm.exec) (hZs : Z.Warmed39 s.vm) (hZ : Z.Warmed39 (s.setVm vm0).vm) (hS0 : s.Since vm0 k0) (hk0 : k0 ≤ hB.size) (CR0 : CHr Z consts_1 s.vm h0 vm0 hB) (hw : ∀ d ∈ tables_1, d.before a0 Z = true) (hby : c.code = code) (hml : c.maxLocals = 12) (howns : s.vm.findClass "com/example/rights_leak_checker/rightsleakchecker/takegrant/BridgeFromPinLaw" = some m.cls) (hown : (s.setVm vm0).vm.findClass "com/example/rights_leak_checker/rightsleakchecker/takegrant/BridgeFromPinLaw" = some m.cls) (hnm : meth.name = "law") (hret : meth.sig.returnType = some .boolean) (hlk : meth.locks = false) (e0 : T0.heap = hB) (N0 : Fr n0 locs) (O0 : Old Z n0 hB) (E_s0_ : Exa Z hB s0_ "java/lang/String") (E_s1_ : Exa Z hB s1_ "java/lang/String") (E_s2_ : Exa Z hB s2_ "java/lang/String") (SDe : Sta Z Z.heap "java/util/ArrayList" "DEFAULTCAPACITY_EMPTY_ELEMENTDATA" "[Ljava/lang/Object;" (.ref dA)) (AD : Arr Z Z.heap dA clD (.object "java/lang/Object")) (LD : clD.slots.size.toInt32 = (0 : Int32)) (OV : Ovr Z kO "java/lang/Object") (FC : Z.vm.findClass "[Ljava/lang/Object;" = some kO) (MIR : own_Mir Z "[Ljava/lang/Object;" mir) (SEm : Sta Z Z.heap "java/util/ImmutableCollections" "EMPTY" "Ljava/lang/Object;" (.ref em)) (S_TAKE_OUT : Sta Z Z.heap "com/example/rights_leak_checker/rightsleakchecker/takegrant/Bridge$Letter" "TAKE_OUT" "Lcom/example/rights_leak_checker/rightsleakchecker/takegrant/Bridge$Letter;" (.ref w_TAKE_OUT)) (X_TAKE_OUT : Exa Z Z.heap w_TAKE_OUT "com/example/rights_leak_checker/rightsleakchecker/takegrant/Bridge$Letter") (S_TAKE_IN : Sta Z Z.heap "com/example/rights_leak_checker/rightsleakchecker/takegrant/Bridge$Letter" "TAKE_IN" "Lcom/example/rights_leak_checker/rightsleakchecker/takegrant/Bridge$Letter;" (.ref w_TAKE_IN)) (X_TAKE_IN : Exa Z Z.heap w_TAKE_IN "com/example/rights_leak_checker/rightsleakchecker/takegrant/Bridge$Letter") (S_GRANT_OUT : Sta Z Z.heap "com/example/rights_leak_checker/rightsleakchecker/takegrant/Bridge$Letter" "GRANT_OUT" "Lcom/example/rights_leak_checker/rightsleakchecker/takegrant/Bridge$Letter;" (.ref w_GRANT_OUT)) (X_GRANT_OUT : Exa Z Z.heap w_GRANT_OUT "com/example/rights_leak_checker/rightsleakchecker/takegrant/Bridge$Letter") (S_GRANT_IN : Sta Z Z.heap "com/example/rights_leak_checker/rightsleakchecker/takegrant/Bridge$Letter" "GRANT_IN" "Lcom/example/rights_leak_checker/rightsleakchecker/takegrant/Bridge$Letter;" (.ref w_GRANT_IN)) (X_GRANT_IN : Exa Z Z.heap w_GRANT_IN "com/example/rights_leak_checker/rightsleakchecker/takegrant/Bridge$Letter") :
    own_W p e below s room_1.cells room_1.slots Z consts_1 h0 (own_L n0) T0 (mkF m 31 #[iv i0, iv i1, iv i2, iv i3, rv s0_, rv s1_, rv s2_, iv (1 : Int32), .unset, .unset, .unset, .unset] []) := by
  have hEL := own_EW hw
  obtain ⟨T1, h1, X1, e1, E1, A1, D1, -, st1⟩ := newO X0 hx hZ hown (wd hw 26 rfl) (wd hw 27 rfl) (wd hw 28 rfl) e0 (g := (mkF m 31 #[iv i0, iv i1, iv i2, iv i3, rv s0_, rv s1_, rv s2_, iv (1 : Int32), .unset, .unset, .unset, .unset] [])) rfl (hb hby at_31) (by decide) (by decide)
  obtain ⟨b1, g1⟩ : ∃ z, z = hB.size := ⟨_, rfl⟩
  rw [← g1] at A1 D1 st1
  have fr1 : n0 ≤ b1 := Nat.le_trans (own_z O0) (Nat.le_of_eq g1.symm)
  have CR2 := CR0.trans (CHr.ext E1 CR0.1)
  have F1_modCount : Fld Z h1 b1 "java/util/AbstractList" "modCount" "I" (.int (0 : Int32)) := D1 (Or.inl (wd hw 46 rfl)) (ty := .int) (by decide)
  have F1_elementData : Fld Z h1 b1 "java/util/ArrayList" "elementData" "[Ljava/lang/Object;" .null := D1 (Or.inl (wd hw 49 rfl)) (ty := (.array (.object "java/lang/Object"))) (by decide)
  have F1_size : Fld Z h1 b1 "java/util/ArrayList" "size" "I" (.int (0 : Int32)) := D1 (Or.inl (wd hw 62 rfl)) (ty := .int) (by decide)
  refine own_stW (T' := T1) (g' := (mkF m 34 #[iv i0, iv i1, iv i2, iv i3, rv s0_, rv s1_, rv s2_, iv (1 : Int32), .unset, .unset, .unset, .unset] [(.ref b1)])) st1 ?_
  clear st1
  refine own_stW (T' := T1) (g' := (mkF m 35 #[iv i0, iv i1, iv i2, iv i3, rv s0_, rv s1_, rv s2_, iv (1 : Int32), .unset, .unset, .unset, .unset] [(.ref b1), (.ref b1)])) (fun _ k_ => XS.dup X1.here hx rfl (hb hby at_34) rfl rfl k_) ?_
  have f3 := O0.ext E1
  obtain ⟨_, T4, L4, X4, hQ4, st4⟩ := own_callI X1 hx (y := own_m8) rfl hown (mvT hZ (wd hw 29 rfl)) (mvT hZ (wd hw 30 rfl)) (mvT hZ (wd hw 31 rfl)) (by decide) (backOf (W := 1) (rm_ali l Z a0 hw [] b1 dA h1 n0 f3 A1 F1_elementData F1_size F1_modCount fr1 SDe) hZ (wd hw 31 rfl) (wd hw 28 rfl) (by decide) (by decide)) (g := (mkF m 35 #[iv i0, iv i1, iv i2, iv i3, rv s0_, rv s1_, rv s2_, iv (1 : Int32), .unset, .unset, .unset, .unset] [(.ref b1), (.ref b1)])) rfl (by rw [hml]; rfl) (a := b1) (argsL := []) (rest := [(.ref b1)]) (lenOf pd___V rfl) rfl (by show 2 * 0 + _ ≤ _; exact Nat.le_of_eq rfl) (hb hby at_35) rfl e1 (by decide) (by decide) (c' := 19) (s' := 203) rfl rfl
  obtain ⟨rfl, Nq4, K4, fq4_0, fq4_1, fq4_2, fq4_3⟩ := hQ4
  have N4 := Fr.app N0 Nq4
  have CR5 := CR2.trans (CHr.keep K4 (sfS (Safe.exa hZ.alike A1 (by decide) (by decide)) sf0) CR2.1)
  refine own_stW (T' := T4) (g' := (mkF m 38 #[iv i0, iv i1, iv i2, iv i3, rv s0_, rv s1_, rv s2_, iv (1 : Int32), .unset, .unset, .unset, .unset] [(.ref b1)])) st4 ?_
  clear st4
  refine own_stW (T' := T4) (g' := (mkF m 40 #[iv i0, iv i1, iv i2, iv i3, rv s0_, rv s1_, rv s2_, iv (1 : Int32), rv b1, .unset, .unset, .unset] [])) (fun _ k_ => XS.astore X4.here hx rfl (hb hby at_38) rfl rfl (l' := #[iv i0, iv i1, iv i2, iv i3, rv s0_, rv s1_, rv s2_, iv (1 : Int32), rv b1, .unset, .unset, .unset]) rfl k_) ?_
  refine own_stW (T' := T4) (g' := (mkF m 42 #[iv i0, iv i1, iv i2, iv i3, rv s0_, rv s1_, rv s2_, iv (1 : Int32), rv b1, .unset, .unset, .unset] [(.ref b1)])) (fun _ k_ => XS.aload X4.here hx rfl (hb hby at_40) rfl rfl  k_) ?_
  refine own_stW (T' := T4) (g' := (mkF m 44 #[iv i0, iv i1, iv i2, iv i3, rv s0_, rv s1_, rv s2_, iv (1 : Int32), rv b1, .unset, .unset, .unset] [(.ref s0_), (.ref b1)])) (fun _ k_ => XS.aload X4.here hx rfl (hb hby at_42) rfl rfl  k_) ?_
  have f6 := E_s0_.ext E1
  have f7 := f6.keep K4
  have f8 := f3.keep K4 (allS fr1 all0)
  obtain ⟨cq9, kq9, q9a, q9b, q9c⟩ := isOf hZ rfl fq4_0
  obtain ⟨_, T9, L9, X9, hQ9, st9⟩ := own_callF X4 hx (xi := own_m40) (y := own_m13) hown (mvT hZ (wd hw 50 rfl)) (mvT hZ (wd hw 51 rfl)) (mvT hZ (wd hw 52 rfl)) (mvT hZ (wd hw 53 rfl)) (mvT hZ (wd hw 54 rfl)) (mvT hZ (wd hw 55 rfl)) (mvT hZ (wd hw 56 rfl)) (mvT hZ (wd hw 57 rfl)) (by decide) (backOf (W := 0) (rm_add_0 l Z a0 hw [] b1 s0_ (0 : Int32) dA clD kO T4.heap n0 f8 fq4_0 fq4_1 fq4_2 fq4_3 fr1 SDe AD LD OV FC (Ins.of_exa f7 (wd hw 84 rfl))) hZ (wd hw 58 rfl) (wd hw 28 rfl) (by decide) (by decide)) q9a q9b q9c (g := (mkF m 44 #[iv i0, iv i1, iv i2, iv i3, rv s0_, rv s1_, rv s2_, iv (1 : Int32), rv b1, .unset, .unset, .unset] [(.ref s0_), (.ref b1)])) rfl (by rw [hml]; rfl) (argsL := [(.ref s0_)]) (rest := []) (lenOf pd__Ljava_lang_Object__Z rfl) rfl (by show 2 * 0 + _ ≤ _; exact Nat.le_of_eq rfl) (hb hby at_44) rfl rfl (by decide) (by decide) (c' := 20) (s' := 213) rfl rfl
  clear q9a q9b q9c kq9 cq9
  obtain ⟨t9, rfl, Nq9, K9, fq9_0, fq9_1, fq9_2, fq9_3, fq9_4, xq9_fresh_t⟩ := hQ9
  have N9 := Fr.app N4 Nq9
  have CR10 := CR5.trans (CHr.keep K9 (sfS (Safe.exa hZ.alike fq4_0 (by decide) (by decide)) sf0) CR5.1)
  refine own_stW (T' := T9) (g' := (mkF m 49 #[iv i0, iv i1, iv i2, iv i3, rv s0_, rv s1_, rv s2_, iv (1 : Int32), rv b1, .unset, .unset, .unset] [(.int (1 : Int32))])) st9 ?_
  clear st9
  refine own_stW (T' := T9) (g' := (mkF m 50 #[iv i0, iv i1, iv i2, iv i3, rv s0_, rv s1_, rv s2_, iv (1 : Int32), rv b1, .unset, .unset, .unset] [])) (fun _ k_ => XS.pop X9.here hx rfl (hb hby at_49) rfl rfl k_) ?_
  refine own_stW (T' := T9) (g' := (mkF m 52 #[iv i0, iv i1, iv i2, iv i3, rv s0_, rv s1_, rv s2_, iv (1 : Int32), rv b1, .unset, .unset, .unset] [(.ref b1)])) (fun _ k_ => XS.aload X9.here hx rfl (hb hby at_50) rfl rfl  k_) ?_
  refine own_stW (T' := T9) (g' := (mkF m 54 #[iv i0, iv i1, iv i2, iv i3, rv s0_, rv s1_, rv s2_, iv (1 : Int32), rv b1, .unset, .unset, .unset] [(.ref s1_), (.ref b1)])) (fun _ k_ => XS.aload X9.here hx rfl (hb hby at_52) rfl rfl  k_) ?_
  have f11 := E_s1_.ext E1
  have f12 := f11.keep K4
  have f13 := f12.keep K9
  have f14 := f8.keep K9 (allS fr1 all0)
  obtain ⟨cq15, kq15, q15a, q15b, q15c⟩ := isOf hZ rfl fq9_0
  obtain ⟨_, T15, L15, X15, hQ15, st15⟩ := own_callF X9 hx (xi := own_m40) (y := own_m13) hown (mvT hZ (wd hw 50 rfl)) (mvT hZ (wd hw 51 rfl)) (mvT hZ (wd hw 52 rfl)) (mvT hZ (wd hw 53 rfl)) (mvT hZ (wd hw 54 rfl)) (mvT hZ (wd hw 55 rfl)) (mvT hZ (wd hw 56 rfl)) (mvT hZ (wd hw 57 rfl)) (by decide) (backOf (W := 0) (rm_add_1 l Z a0 hw [] b1 s1_ t9 ((0 : Int32) + (1 : Int32)) kO (.ref s0_) T9.heap n0 f14 fq9_0 fq9_1 fq9_2 fq9_3 fq9_4 fr1 (Nat.le_trans (own_z f8) xq9_fresh_t) OV FC (Ins.of_exa f13 (wd hw 84 rfl))) hZ (wd hw 58 rfl) (wd hw 28 rfl) (by decide) (by decide)) q15a q15b q15c (g := (mkF m 54 #[iv i0, iv i1, iv i2, iv i3, rv s0_, rv s1_, rv s2_, iv (1 : Int32), rv b1, .unset, .unset, .unset] [(.ref s1_), (.ref b1)])) rfl (by rw [hml]; rfl) (argsL := [(.ref s1_)]) (rest := []) (lenOf pd__Ljava_lang_Object__Z rfl) rfl (by show 2 * 0 + _ ≤ _; exact Nat.le_of_eq rfl) (hb hby at_54) rfl rfl (by decide) (by decide) (c' := 20) (s' := 213) rfl rfl
  clear q15a q15b q15c kq15 cq15
  obtain ⟨rfl, Nq15, K15, fq15_0, fq15_1, fq15_2, fq15_3, fq15_4⟩ := hQ15
  have N15 := Fr.app N9 Nq15
  have CR16 := CR10.trans (CHr.keep K15 (sfS (Safe.exa hZ.alike fq9_0 (by decide) (by decide)) (sfS (Safe.arv hZ.alike fq9_4 (by decide)) sf0)) CR10.1)
  refine own_stW (T' := T15) (g' := (mkF m 59 #[iv i0, iv i1, iv i2, iv i3, rv s0_, rv s1_, rv s2_, iv (1 : Int32), rv b1, .unset, .unset, .unset] [(.int (1 : Int32))])) st15 ?_
  clear st15
  refine own_stW (T' := T15) (g' := (mkF m 60 #[iv i0, iv i1, iv i2, iv i3, rv s0_, rv s1_, rv s2_, iv (1 : Int32), rv b1, .unset, .unset, .unset] [])) (fun _ k_ => XS.pop X15.here hx rfl (hb hby at_59) rfl rfl k_) ?_
  refine own_stW (T' := T15) (g' := (mkF m 62 #[iv i0, iv i1, iv i2, iv i3, rv s0_, rv s1_, rv s2_, iv (1 : Int32), rv b1, .unset, .unset, .unset] [(.int (1 : Int32))])) (fun _ k_ => XS.iload X15.here hx rfl (hb hby at_60) rfl  k_) ?_
  refine own_stW (T' := T15) (g' := (mkF m 65 #[iv i0, iv i1, iv i2, iv i3, rv s0_, rv s1_, rv s2_, iv (1 : Int32), rv b1, .unset, .unset, .unset] [])) (fun _ k_ => XS.ifNo X15.here hx rfl (hb hby at_62) rfl ((if0 _ _).trans (feq (by decide : ¬ ((1 : Int32) = (0 : Int32)))).1) k_) ?_
  refine own_stW (T' := T15) (g' := (mkF m 67 #[iv i0, iv i1, iv i2, iv i3, rv s0_, rv s1_, rv s2_, iv (1 : Int32), rv b1, .unset, .unset, .unset] [(.ref b1)])) (fun _ k_ => XS.aload X15.here hx rfl (hb hby at_65) rfl rfl  k_) ?_
  refine own_stW (T' := T15) (g' := (mkF m 69 #[iv i0, iv i1, iv i2, iv i3, rv s0_, rv s1_, rv s2_, iv (1 : Int32), rv b1, .unset, .unset, .unset] [(.ref s2_), (.ref b1)])) (fun _ k_ => XS.aload X15.here hx rfl (hb hby at_67) rfl rfl  k_) ?_
  have f17 := E_s2_.ext E1
  have f18 := f17.keep K4
  have f19 := f18.keep K9
  have f20 := f19.keep K15
  have f21 := f14.keep K15 (allS fr1 (allS (Nat.le_trans (own_z f8) xq9_fresh_t) all0))
  obtain ⟨cq22, kq22, q22a, q22b, q22c⟩ := isOf hZ rfl fq15_0
  obtain ⟨_, T22, L22, X22, hQ22, st22⟩ := own_callF X15 hx (xi := own_m40) (y := own_m13) hown (mvT hZ (wd hw 50 rfl)) (mvT hZ (wd hw 51 rfl)) (mvT hZ (wd hw 52 rfl)) (mvT hZ (wd hw 53 rfl)) (mvT hZ (wd hw 54 rfl)) (mvT hZ (wd hw 55 rfl)) (mvT hZ (wd hw 56 rfl)) (mvT hZ (wd hw 57 rfl)) (by decide) (backOf (W := 0) (rm_add_2 l Z a0 hw [] b1 s2_ t9 (((0 : Int32) + (1 : Int32)) + (1 : Int32)) kO (.ref s0_) (.ref s1_) T15.heap n0 f21 fq15_0 fq15_1 fq15_2 fq15_3 fq15_4 fr1 (Nat.le_trans (own_z f8) xq9_fresh_t) OV FC (Ins.of_exa f20 (wd hw 84 rfl))) hZ (wd hw 58 rfl) (wd hw 28 rfl) (by decide) (by decide)) q22a q22b q22c (g := (mkF m 69 #[iv i0, iv i1, iv i2, iv i3, rv s0_, rv s1_, rv s2_, iv (1 : Int32), rv b1, .unset, .unset, .unset] [(.ref s2_), (.ref b1)])) rfl (by rw [hml]; rfl) (argsL := [(.ref s2_)]) (rest := []) (lenOf pd__Ljava_lang_Object__Z rfl) rfl (by show 2 * 0 + _ ≤ _; exact Nat.le_of_eq rfl) (hb hby at_69) rfl rfl (by decide) (by decide) (c' := 20) (s' := 213) rfl rfl
  clear q22a q22b q22c kq22 cq22
  obtain ⟨rfl, Nq22, K22, fq22_0, fq22_1, fq22_2, fq22_3, fq22_4⟩ := hQ22
  have N22 := Fr.app N15 Nq22
  have CR23 := CR16.trans (CHr.keep K22 (sfS (Safe.exa hZ.alike fq15_0 (by decide) (by decide)) (sfS (Safe.arv hZ.alike fq15_4 (by decide)) sf0)) CR16.1)
  refine own_stW (T' := T22) (g' := (mkF m 74 #[iv i0, iv i1, iv i2, iv i3, rv s0_, rv s1_, rv s2_, iv (1 : Int32), rv b1, .unset, .unset, .unset] [(.int (1 : Int32))])) st22 ?_
  clear st22
  refine own_stW (T' := T22) (g' := (mkF m 75 #[iv i0, iv i1, iv i2, iv i3, rv s0_, rv s1_, rv s2_, iv (1 : Int32), rv b1, .unset, .unset, .unset] [])) (fun _ k_ => XS.pop X22.here hx rfl (hb hby at_74) rfl rfl k_) ?_
  have f24 := f21.keep K22 (allS fr1 (allS (Nat.le_trans (own_z f8) xq9_fresh_t) all0))
  obtain ⟨T25, h25, X25, e25, E25, A25, D25, -, st25⟩ := newO X22 hx hZ hown (wd hw 26 rfl) (wd hw 27 rfl) (wd hw 28 rfl) rfl (g := (mkF m 75 #[iv i0, iv i1, iv i2, iv i3, rv s0_, rv s1_, rv s2_, iv (1 : Int32), rv b1, .unset, .unset, .unset] [])) rfl (hb hby at_75) (by decide) (by decide)
  obtain ⟨b25, g25⟩ : ∃ z, z = T22.heap.size := ⟨_, rfl⟩
  rw [← g25] at A25 D25 st25
  have fr25 : n0 ≤ b25 := Nat.le_trans (own_z f24) (Nat.le_of_eq g25.symm)
  have CR26 := CR23.trans (CHr.ext E25 CR23.1)
  have F25_modCount : Fld Z h25 b25 "java/util/AbstractList" "modCount" "I" (.int (0 : Int32)) := D25 (Or.inl (wd hw 46 rfl)) (ty := .int) (by decide)
  have F25_elementData : Fld Z h25 b25 "java/util/ArrayList" "elementData" "[Ljava/lang/Object;" .null := D25 (Or.inl (wd hw 49 rfl)) (ty := (.array (.object "java/lang/Object"))) (by decide)
  have F25_size : Fld Z h25 b25 "java/util/ArrayList" "size" "I" (.int (0 : Int32)) := D25 (Or.inl (wd hw 62 rfl)) (ty := .int) (by decide)
  refine own_stW (T' := T25) (g' := (mkF m 78 #[iv i0, iv i1, iv i2, iv i3, rv s0_, rv s1_, rv s2_, iv (1 : Int32), rv b1, .unset, .unset, .unset] [(.ref b25)])) st25 ?_
  clear st25
  refine own_stW (T' := T25) (g' := (mkF m 79 #[iv i0, iv i1, iv i2, iv i3, rv s0_, rv s1_, rv s2_, iv (1 : Int32), rv b1, .unset, .unset, .unset] [(.ref b25), (.ref b25)])) (fun _ k_ => XS.dup X25.here hx rfl (hb hby at_78) rfl rfl k_) ?_
  have f27 := f24.ext E25
  obtain ⟨_, T28, L28, X28, hQ28, st28⟩ := own_callI X25 hx (y := own_m8) rfl hown (mvT hZ (wd hw 29 rfl)) (mvT hZ (wd hw 30 rfl)) (mvT hZ (wd hw 31 rfl)) (by decide) (backOf (W := 1) (rm_ali l Z a0 hw [] b25 dA h25 n0 f27 A25 F25_elementData F25_size F25_modCount fr25 SDe) hZ (wd hw 31 rfl) (wd hw 28 rfl) (by decide) (by decide)) (g := (mkF m 79 #[iv i0, iv i1, iv i2, iv i3, rv s0_, rv s1_, rv s2_, iv (1 : Int32), rv b1, .unset, .unset, .unset] [(.ref b25), (.ref b25)])) rfl (by rw [hml]; rfl) (a := b25) (argsL := []) (rest := [(.ref b25)]) (lenOf pd___V rfl) rfl (by show 2 * 0 + _ ≤ _; exact Nat.le_of_eq rfl) (hb hby at_79) rfl e25 (by decide) (by decide) (c' := 21) (s' := 216) rfl rfl
  obtain ⟨rfl, Nq28, K28, fq28_0, fq28_1, fq28_2, fq28_3⟩ := hQ28
  have N28 := Fr.app N22 Nq28
  have CR29 := CR26.trans (CHr.keep K28 (sfS (Safe.exa hZ.alike A25 (by decide) (by decide)) sf0) CR26.1)
  refine own_stW (T' := T28) (g' := (mkF m 82 #[iv i0, iv i1, iv i2, iv i3, rv s0_, rv s1_, rv s2_, iv (1 : Int32), rv b1, .unset, .unset, .unset] [(.ref b25)])) st28 ?_
  clear st28
  refine own_stW (T' := T28) (g' := (mkF m 84 #[iv i0, iv i1, iv i2, iv i3, rv s0_, rv s1_, rv s2_, iv (1 : Int32), rv b1, rv b25, .unset, .unset] [])) (fun _ k_ => XS.astore X28.here hx rfl (hb hby at_82) rfl rfl (l' := #[iv i0, iv i1, iv i2, iv i3, rv s0_, rv s1_, rv s2_, iv (1 : Int32), rv b1, rv b25, .unset, .unset]) rfl k_) ?_
  refine own_stW (T' := T28) (g' := (mkF m 86 #[iv i0, iv i1, iv i2, iv i3, rv s0_, rv s1_, rv s2_, iv (1 : Int32), rv b1, rv b25, .unset, .unset] [(.ref b25)])) (fun _ k_ => XS.aload X28.here hx rfl (hb hby at_84) rfl rfl  k_) ?_
  refine own_stW (T' := T28) (g' := (mkF m 87 #[iv i0, iv i1, iv i2, iv i3, rv s0_, rv s1_, rv s2_, iv (1 : Int32), rv b1, rv b25, .unset, .unset] [(.int i3), (.ref b25)])) (fun _ k_ => XS.iloadN X28.here hx rfl (hb hby at_86) rfl  k_) ?_
  refine own_stW (T' := T28) (g' := (mkF m 88 #[iv i0, iv i1, iv i2, iv i3, rv s0_, rv s1_, rv s2_, iv (1 : Int32), rv b1, rv b25, .unset, .unset] [(.int (1 : Int32)), (.int i3), (.ref b25)])) (fun _ k_ => XS.iconst X28.here hx rfl (hb hby at_87) k_) ?_
  refine own_stW (T' := T28) (g' := (mkF m 89 #[iv i0, iv i1, iv i2, iv i3, rv s0_, rv s1_, rv s2_, iv (1 : Int32), rv b1, rv b25, .unset, .unset] [(.int ((i3.toUInt32 >>> ((1 : Int32) &&& 31).toUInt32).toInt32)), (.ref b25)])) (fun _ k_ => XS.iushr X28.here hx rfl (hb hby at_88) rfl k_) ?_
  have f30 := f27.keep K28 (allS fr25 all0)
  obtain ⟨_, T31, L31, X31, hQ31, st31⟩ := own_callS X28 hx (y := own_m32) hown (mvT hZ (wd hw 85 rfl)) (mvT hZ (wd hw 86 rfl)) (mvT hZ (wd hw 2 rfl)) (mvT hZ (wd hw 87 rfl)) (by decide) (backOf (W := 1) (rm_let l Z a0 hw [] ((i3.toUInt32 >>> ((1 : Int32) &&& 31).toUInt32).toInt32) w_TAKE_OUT w_TAKE_IN w_GRANT_OUT w_GRANT_IN T28.heap n0 f30 S_TAKE_OUT X_TAKE_OUT S_TAKE_IN X_TAKE_IN S_GRANT_OUT X_GRANT_OUT S_GRANT_IN X_GRANT_IN) hZ (wd hw 87 rfl) (wd hw 2 rfl) (by decide) (by decide)) (g := (mkF m 89 #[iv i0, iv i1, iv i2, iv i3, rv s0_, rv s1_, rv s2_, iv (1 : Int32), rv b1, rv b25, .unset, .unset] [(.int ((i3.toUInt32 >>> ((1 : Int32) &&& 31).toUInt32).toInt32)), (.ref b25)])) rfl (by rw [hml]; rfl) (argsL := [(.int ((i3.toUInt32 >>> ((1 : Int32) &&& 31).toUInt32).toInt32))]) (rest := [(.ref b25)]) (lenOf pd__I_Lcom_example_rights_leak_checker_rightsleakchecker_takegrant_Bridge_Letter_ rfl) rfl (by show 2 * 0 + _ ≤ _; exact Nat.le_of_eq rfl) (hb hby at_89) rfl rfl (by decide) (by decide) (c' := 21) (s' := 216) rfl rfl
  obtain ⟨b31, rfl, Nq31, eq31, xq31_old_b⟩ := hQ31
  have N31 := Fr.app N28 Nq31
  refine own_stW (T' := T31) (g' := (mkF m 92 #[iv i0, iv i1, iv i2, iv i3, rv s0_, rv s1_, rv s2_, iv (1 : Int32), rv b1, rv b25, .unset, .unset] [(.ref b31), (.ref b25)])) st31 ?_
  clear st31
  obtain ⟨cq32, kq32, q32a, q32b, q32c⟩ := isOf hZ eq31 fq28_0
  obtain ⟨_, T32, L32, X32, hQ32, st32⟩ := own_callF X31 hx (xi := own_m40) (y := own_m13) hown (mvT hZ (wd hw 50 rfl)) (mvT hZ (wd hw 51 rfl)) (mvT hZ (wd hw 52 rfl)) (mvT hZ (wd hw 53 rfl)) (mvT hZ (wd hw 54 rfl)) (mvT hZ (wd hw 55 rfl)) (mvT hZ (wd hw 56 rfl)) (mvT hZ (wd hw 57 rfl)) (by decide) (backOf (W := 0) (rm_add_0 l Z a0 hw [] b25 b31 (0 : Int32) dA clD kO T28.heap n0 f30 fq28_0 fq28_1 fq28_2 fq28_3 fr25 SDe AD LD OV FC (Ins.of_exa (xq31_old_b.ext f30.2) (wd hw 91 rfl))) hZ (wd hw 58 rfl) (wd hw 28 rfl) (by decide) (by decide)) q32a q32b q32c (g := (mkF m 92 #[iv i0, iv i1, iv i2, iv i3, rv s0_, rv s1_, rv s2_, iv (1 : Int32), rv b1, rv b25, .unset, .unset] [(.ref b31), (.ref b25)])) rfl (by rw [hml]; rfl) (argsL := [(.ref b31)]) (rest := []) (lenOf pd__Ljava_lang_Object__Z rfl) rfl (by show 2 * 0 + _ ≤ _; exact Nat.le_of_eq rfl) (hb hby at_92) rfl eq31 (by decide) (by decide) (c' := 22) (s' := 226) rfl rfl
  clear q32a q32b q32c kq32 cq32
  obtain ⟨t32, rfl, Nq32, K32, fq32_0, fq32_1, fq32_2, fq32_3, fq32_4, xq32_fresh_t⟩ := hQ32
  have N32 := Fr.app N31 Nq32
  have CR33 := CR29.trans (CHr.keep K32 (sfS (Safe.exa hZ.alike fq28_0 (by decide) (by decide)) sf0) CR29.1)
  refine own_stW (T' := T32) (g' := (mkF m 97 #[iv i0, iv i1, iv i2, iv i3, rv s0_, rv s1_, rv s2_, iv (1 : Int32), rv b1, rv b25, .unset, .unset] [(.int (1 : Int32))])) st32 ?_
  clear st32
  refine own_stW (T' := T32) (g' := (mkF m 98 #[iv i0, iv i1, iv i2, iv i3, rv s0_, rv s1_, rv s2_, iv (1 : Int32), rv b1, rv b25, .unset, .unset] [])) (fun _ k_ => XS.pop X32.here hx rfl (hb hby at_97) rfl rfl k_) ?_
  refine own_stW (T' := T32) (g' := (mkF m 100 #[iv i0, iv i1, iv i2, iv i3, rv s0_, rv s1_, rv s2_, iv (1 : Int32), rv b1, rv b25, .unset, .unset] [(.int (1 : Int32))])) (fun _ k_ => XS.iload X32.here hx rfl (hb hby at_98) rfl  k_) ?_
  refine own_stW (T' := T32) (g' := (mkF m 103 #[iv i0, iv i1, iv i2, iv i3, rv s0_, rv s1_, rv s2_, iv (1 : Int32), rv b1, rv b25, .unset, .unset] [])) (fun _ k_ => XS.ifNo X32.here hx rfl (hb hby at_100) rfl ((if0 _ _).trans (feq (by decide : ¬ ((1 : Int32) = (0 : Int32)))).1) k_) ?_
  refine own_stW (T' := T32) (g' := (mkF m 105 #[iv i0, iv i1, iv i2, iv i3, rv s0_, rv s1_, rv s2_, iv (1 : Int32), rv b1, rv b25, .unset, .unset] [(.ref b25)])) (fun _ k_ => XS.aload X32.here hx rfl (hb hby at_103) rfl rfl  k_) ?_
  refine own_stW (T' := T32) (g' := (mkF m 106 #[iv i0, iv i1, iv i2, iv i3, rv s0_, rv s1_, rv s2_, iv (1 : Int32), rv b1, rv b25, .unset, .unset] [(.int i3), (.ref b25)])) (fun _ k_ => XS.iloadN X32.here hx rfl (hb hby at_105) rfl  k_) ?_
  refine own_stW (T' := T32) (g' := (mkF m 107 #[iv i0, iv i1, iv i2, iv i3, rv s0_, rv s1_, rv s2_, iv (1 : Int32), rv b1, rv b25, .unset, .unset] [(.int (3 : Int32)), (.int i3), (.ref b25)])) (fun _ k_ => XS.iconst X32.here hx rfl (hb hby at_106) k_) ?_
  refine own_stW (T' := T32) (g' := (mkF m 108 #[iv i0, iv i1, iv i2, iv i3, rv s0_, rv s1_, rv s2_, iv (1 : Int32), rv b1, rv b25, .unset, .unset] [(.int ((i3.toUInt32 >>> ((3 : Int32) &&& 31).toUInt32).toInt32)), (.ref b25)])) (fun _ k_ => XS.iushr X32.here hx rfl (hb hby at_107) rfl k_) ?_
  have f34 := f30.keep K32 (allS fr25 all0)
  obtain ⟨_, T35, L35, X35, hQ35, st35⟩ := own_callS X32 hx (y := own_m32) hown (mvT hZ (wd hw 85 rfl)) (mvT hZ (wd hw 86 rfl)) (mvT hZ (wd hw 2 rfl)) (mvT hZ (wd hw 87 rfl)) (by decide) (backOf (W := 1) (rm_let l Z a0 hw [] ((i3.toUInt32 >>> ((3 : Int32) &&& 31).toUInt32).toInt32) w_TAKE_OUT w_TAKE_IN w_GRANT_OUT w_GRANT_IN T32.heap n0 f34 S_TAKE_OUT X_TAKE_OUT S_TAKE_IN X_TAKE_IN S_GRANT_OUT X_GRANT_OUT S_GRANT_IN X_GRANT_IN) hZ (wd hw 87 rfl) (wd hw 2 rfl) (by decide) (by decide)) (g := (mkF m 108 #[iv i0, iv i1, iv i2, iv i3, rv s0_, rv s1_, rv s2_, iv (1 : Int32), rv b1, rv b25, .unset, .unset] [(.int ((i3.toUInt32 >>> ((3 : Int32) &&& 31).toUInt32).toInt32)), (.ref b25)])) rfl (by rw [hml]; rfl) (argsL := [(.int ((i3.toUInt32 >>> ((3 : Int32) &&& 31).toUInt32).toInt32))]) (rest := [(.ref b25)]) (lenOf pd__I_Lcom_example_rights_leak_checker_rightsleakchecker_takegrant_Bridge_Letter_ rfl) rfl (by show 2 * 0 + _ ≤ _; exact Nat.le_of_eq rfl) (hb hby at_108) rfl rfl (by decide) (by decide) (c' := 22) (s' := 226) rfl rfl
  obtain ⟨b35, rfl, Nq35, eq35, xq35_old_b⟩ := hQ35
  have N35 := Fr.app N32 Nq35
  refine own_stW (T' := T35) (g' := (mkF m 111 #[iv i0, iv i1, iv i2, iv i3, rv s0_, rv s1_, rv s2_, iv (1 : Int32), rv b1, rv b25, .unset, .unset] [(.ref b35), (.ref b25)])) st35 ?_
  clear st35
  obtain ⟨cq36, kq36, q36a, q36b, q36c⟩ := isOf hZ eq35 fq32_0
  obtain ⟨_, T36, L36, X36, hQ36, st36⟩ := own_callF X35 hx (xi := own_m40) (y := own_m13) hown (mvT hZ (wd hw 50 rfl)) (mvT hZ (wd hw 51 rfl)) (mvT hZ (wd hw 52 rfl)) (mvT hZ (wd hw 53 rfl)) (mvT hZ (wd hw 54 rfl)) (mvT hZ (wd hw 55 rfl)) (mvT hZ (wd hw 56 rfl)) (mvT hZ (wd hw 57 rfl)) (by decide) (backOf (W := 0) (rm_add_1 l Z a0 hw [] b25 b35 t32 ((0 : Int32) + (1 : Int32)) kO (.ref b31) T32.heap n0 f34 fq32_0 fq32_1 fq32_2 fq32_3 fq32_4 fr25 (Nat.le_trans (own_z f30) xq32_fresh_t) OV FC (Ins.of_exa (xq35_old_b.ext f34.2) (wd hw 91 rfl))) hZ (wd hw 58 rfl) (wd hw 28 rfl) (by decide) (by decide)) q36a q36b q36c (g := (mkF m 111 #[iv i0, iv i1, iv i2, iv i3, rv s0_, rv s1_, rv s2_, iv (1 : Int32), rv b1, rv b25, .unset, .unset] [(.ref b35), (.ref b25)])) rfl (by rw [hml]; rfl) (argsL := [(.ref b35)]) (rest := []) (lenOf pd__Ljava_lang_Object__Z rfl) rfl (by show 2 * 0 + _ ≤ _; exact Nat.le_of_eq rfl) (hb hby at_111) rfl eq35 (by decide) (by decide) (c' := 22) (s' := 226) rfl rfl
  clear q36a q36b q36c kq36 cq36
  obtain ⟨rfl, Nq36, K36, fq36_0, fq36_1, fq36_2, fq36_3, fq36_4⟩ := hQ36
  have N36 := Fr.app N35 Nq36
  have CR37 := CR33.trans (CHr.keep K36 (sfS (Safe.exa hZ.alike fq32_0 (by decide) (by decide)) (sfS (Safe.arv hZ.alike fq32_4 (by decide)) sf0)) CR33.1)
  refine own_stW (T' := T36) (g' := (mkF m 116 #[iv i0, iv i1, iv i2, iv i3, rv s0_, rv s1_, rv s2_, iv (1 : Int32), rv b1, rv b25, .unset, .unset] [(.int (1 : Int32))])) st36 ?_
  clear st36
  refine own_stW (T' := T36) (g' := (mkF m 117 #[iv i0, iv i1, iv i2, iv i3, rv s0_, rv s1_, rv s2_, iv (1 : Int32), rv b1, rv b25, .unset, .unset] [])) (fun _ k_ => XS.pop X36.here hx rfl (hb hby at_116) rfl rfl k_) ?_
  have f38 := f34.keep K36 (allS fr25 (allS (Nat.le_trans (own_z f30) xq32_fresh_t) all0))
  obtain ⟨T39, h39, X39, e39, E39, A39, D39, -, st39⟩ := newO X36 hx hZ hown (wd hw 92 rfl) (wd hw 93 rfl) (wd hw 94 rfl) rfl (g := (mkF m 117 #[iv i0, iv i1, iv i2, iv i3, rv s0_, rv s1_, rv s2_, iv (1 : Int32), rv b1, rv b25, .unset, .unset] [])) rfl (hb hby at_117) (by decide) (by decide)
  obtain ⟨b39, g39⟩ : ∃ z, z = T36.heap.size := ⟨_, rfl⟩
  rw [← g39] at A39 D39 st39
  have fr39 : n0 ≤ b39 := Nat.le_trans (own_z f38) (Nat.le_of_eq g39.symm)
  have CR40 := CR37.trans (CHr.ext E39 CR37.1)
  have F39_walk : Fld Z h39 b39 "com/example/rights_leak_checker/rightsleakchecker/takegrant/Bridge" "walk" "Ljava/util/List;" .null := D39 (Or.inr (wd hw 196 rfl)) (ty := (.object "java/util/List")) (by decide)
  have F39_letters : Fld Z h39 b39 "com/example/rights_leak_checker/rightsleakchecker/takegrant/Bridge" "letters" "Ljava/util/List;" .null := D39 (Or.inr (wd hw 214 rfl)) (ty := (.object "java/util/List")) (by decide)
  refine own_stW (T' := T39) (g' := (mkF m 120 #[iv i0, iv i1, iv i2, iv i3, rv s0_, rv s1_, rv s2_, iv (1 : Int32), rv b1, rv b25, .unset, .unset] [(.ref b39)])) st39 ?_
  clear st39
  refine own_stW (T' := T39) (g' := (mkF m 121 #[iv i0, iv i1, iv i2, iv i3, rv s0_, rv s1_, rv s2_, iv (1 : Int32), rv b1, rv b25, .unset, .unset] [(.ref b39), (.ref b39)])) (fun _ k_ => XS.dup X39.here hx rfl (hb hby at_120) rfl rfl k_) ?_
  refine own_stW (T' := T39) (g' := (mkF m 123 #[iv i0, iv i1, iv i2, iv i3, rv s0_, rv s1_, rv s2_, iv (1 : Int32), rv b1, rv b25, .unset, .unset] [(.ref b1), (.ref b39), (.ref b39)])) (fun _ k_ => XS.aload X39.here hx rfl (hb hby at_121) rfl rfl  k_) ?_
  refine own_stW (T' := T39) (g' := (mkF m 125 #[iv i0, iv i1, iv i2, iv i3, rv s0_, rv s1_, rv s2_, iv (1 : Int32), rv b1, rv b25, .unset, .unset] [(.ref b25), (.ref b1), (.ref b39), (.ref b39)])) (fun _ k_ => XS.aload X39.here hx rfl (hb hby at_123) rfl rfl  k_) ?_
  have ne41 : b25 ≠ b39 := Nat.ne_of_lt (Nat.lt_of_lt_of_le (Nat.lt_of_lt_of_le (Nat.lt_of_lt_of_le (Nat.lt_of_lt_of_le A25.lt K28.1) K32.1) K36.1) (Nat.le_of_eq g39.symm))
  have f42 := fq22_0.ext E25
  have f43 := f42.keep K28
  have f44 := f43.keep K32
  have f45 := f44.keep K36
  have f46 := f45.ext E39
  have f47 := fq22_1.ext E25
  have ne48 : b1 ≠ b25 := Nat.ne_of_lt (Nat.lt_of_lt_of_le (Nat.lt_of_lt_of_le (Nat.lt_of_lt_of_le (Nat.lt_of_lt_of_le (Nat.lt_of_lt_of_le A1.lt K4.1) K9.1) K15.1) K22.1) (Nat.le_of_eq g25.symm))
  have f49 := f47.keep K28 (ninS ne48 nin0)
  have f50 := f49.keep K32 (ninS ne48 nin0)
  have ne51 : b1 ≠ t32 := Nat.ne_of_lt (Nat.lt_of_lt_of_le (Nat.lt_of_lt_of_le (Nat.lt_of_lt_of_le (Nat.lt_of_lt_of_le (Nat.lt_of_lt_of_le (Nat.lt_of_lt_of_le (Nat.lt_of_lt_of_le A1.lt K4.1) K9.1) K15.1) K22.1) E25.1) K28.1) xq32_fresh_t)
  have f52 := f50.keep K36 (ninS ne48 (ninS ne51 nin0))
  have f53 := f52.ext E39
  have f54 := fq22_2.ext E25
  have f55 := f54.keep K28 (ninS ne48 nin0)
  have f56 := f55.keep K32 (ninS ne48 nin0)
  have f57 := f56.keep K36 (ninS ne48 (ninS ne51 nin0))
  have f58 := f57.ext E39
  have f59 := fq22_4.ext E25
  have ne60 : t9 ≠ b25 := Nat.ne_of_lt (Nat.lt_of_lt_of_le (Nat.lt_of_lt_of_le (Nat.lt_of_lt_of_le fq9_4.lt K15.1) K22.1) (Nat.le_of_eq g25.symm))
  have f61 := f59.keep K28 (ninS ne60 nin0)
  have f62 := f61.keep K32 (ninS ne60 nin0)
  have ne63 : t9 ≠ t32 := Nat.ne_of_lt (Nat.lt_of_lt_of_le (Nat.lt_of_lt_of_le (Nat.lt_of_lt_of_le (Nat.lt_of_lt_of_le (Nat.lt_of_lt_of_le fq9_4.lt K15.1) K22.1) E25.1) K28.1) xq32_fresh_t)
  have f64 := f62.keep K36 (ninS ne60 (ninS ne63 nin0))
  have f65 := f64.ext E39
  have f66 := fq36_0.ext E39
  have f67 := fq36_1.ext E39
  have f68 := fq36_2.ext E39
  have f69 := fq36_4.ext E39
  have f70 := f7.keep K9
  have f71 := f70.keep K15
  have f72 := f71.keep K22
  have f73 := f72.ext E25
  have f74 := f73.keep K28
  have f75 := f74.keep K32
  have f76 := f75.keep K36
  have f77 := f76.ext E39
  have f78 := f13.keep K15
  have f79 := f78.keep K22
  have f80 := f79.ext E25
  have f81 := f80.keep K28
  have f82 := f81.keep K32
  have f83 := f82.keep K36
  have f84 := f83.ext E39
  have f85 := f20.keep K22
  have f86 := f85.ext E25
  have f87 := f86.keep K28
  have f88 := f87.keep K32
  have f89 := f88.keep K36
  have f90 := f89.ext E39
  have f91 := f38.ext E39
  obtain ⟨_, T92, L92, X92, hQ92, st92⟩ := own_callI X39 hx (y := own_m34) rfl hown (mvT hZ (wd hw 95 rfl)) (mvT hZ (wd hw 96 rfl)) (mvT hZ (wd hw 97 rfl)) (by decide) (backOf (W := 1) (rm_bri_3 l Z a0 hw [] b39 b1 t9 b25 t32 kO mir s0_ s1_ s2_ b31 b35 h39 n0 f91 A39 F39_walk F39_letters fr39 (Ne.symm ne41) f46 f53 f58 f65 f66 f67 f68 f69 OV FC MIR (Ins.of_exa f77 (wd hw 84 rfl)) (Ins.of_exa f84 (wd hw 84 rfl)) (Ins.of_exa f90 (wd hw 84 rfl)) (Ins.of_exa (xq31_old_b.ext f91.2) (wd hw 91 rfl)) (Ins.of_exa (xq35_old_b.ext f91.2) (wd hw 91 rfl))) hZ (wd hw 97 rfl) (wd hw 94 rfl) (by decide) (by decide)) (g := (mkF m 125 #[iv i0, iv i1, iv i2, iv i3, rv s0_, rv s1_, rv s2_, iv (1 : Int32), rv b1, rv b25, .unset, .unset] [(.ref b25), (.ref b1), (.ref b39), (.ref b39)])) rfl (by rw [hml]; rfl) (a := b39) (argsL := [(.ref b1), (.ref b25)]) (rest := [(.ref b39)]) (lenOf pd__Ljava_util_List_Ljava_util_List__V rfl) rfl (by show 2 * 0 + _ ≤ _; exact Nat.le_of_eq rfl) (hb hby at_125) rfl e39 (by decide) (by decide) (c' := 28) (s' := 240) rfl rfl
  obtain ⟨x92, uu92, rfl, Nq92, K92, fq92_0, fq92_1, fq92_2, fq92_3, fq92_4, fq92_5, xq92_fresh_x, xq92_fresh_uu⟩ := hQ92
  have N92 := Fr.app N36 Nq92
  have CR93 := CR40.trans (CHr.keep K92 (sfS (Safe.exa hZ.alike A39 (by decide) (by decide)) sf0) CR40.1)
  refine own_stW (T' := T92) (g' := (mkF m 128 #[iv i0, iv i1, iv i2, iv i3, rv s0_, rv s1_, rv s2_, iv (1 : Int32), rv b1, rv b25, .unset, .unset] [(.ref b39)])) st92 ?_
  clear st92
  refine own_stW (T' := T92) (g' := (mkF m 130 #[iv i0, iv i1, iv i2, iv i3, rv s0_, rv s1_, rv s2_, iv (1 : Int32), rv b1, rv b25, rv b39, .unset] [])) (fun _ k_ => XS.astore X92.here hx rfl (hb hby at_128) rfl rfl (l' := #[iv i0, iv i1, iv i2, iv i3, rv s0_, rv s1_, rv s2_, iv (1 : Int32), rv b1, rv b25, rv b39, .unset]) rfl k_) ?_
  refine own_stW (T' := T92) (g' := (mkF m 132 #[iv i0, iv i1, iv i2, iv i3, rv s0_, rv s1_, rv s2_, iv (1 : Int32), rv b1, rv b25, rv b39, .unset] [(.ref b39)])) (fun _ k_ => XS.aload X92.here hx rfl (hb hby at_130) rfl rfl  k_) ?_
  have f94 := f77.keep K92
  have f95 := f91.keep K92 (allS fr39 all0)
  obtain ⟨cq96, kq96, q96a, q96b, q96c⟩ := isOf hZ rfl fq92_0
  obtain ⟨_, T96, L96, X96, hQ96, st96⟩ := own_callV X92 hx (y := own_m37) (z := own_m37) hown (mvT hZ (wd hw 215 rfl)) (mvT hZ (wd hw 216 rfl)) (notFace_of_selects (args := #[]) (mvT hZ (wd hw 218 rfl))) (mvT hZ (wd hw 218 rfl)) (mvT hZ (wd hw 217 rfl)) (by decide) (backOf (W := 0) (rm_fr_3 l Z a0 hw [] b39 x92 uu92 kO s0_ s1_ s2_ T92.heap n0 f95 fq92_1 fq92_2 fq92_3 fq92_5 f94) hZ (wd hw 219 rfl) (wd hw 94 rfl) (by decide) (by decide)) q96a q96c (g := (mkF m 132 #[iv i0, iv i1, iv i2, iv i3, rv s0_, rv s1_, rv s2_, iv (1 : Int32), rv b1, rv b25, rv b39, .unset] [(.ref b39)])) rfl (by rw [hml]; rfl) (argsL := []) (rest := []) (lenOf pd___Ljava_lang_String_ rfl) rfl (by show 2 * 0 + _ ≤ _; exact Nat.le_of_eq rfl) (hb hby at_132) rfl rfl (by decide) (by decide) (c' := 28) (s' := 240) rfl rfl
  clear q96a q96b q96c kq96 cq96
  obtain ⟨rfl, Nq96, eq96⟩ := hQ96
  have N96 := Fr.app N92 Nq96
  refine own_stW (T' := T96) (g' := (mkF m 135 #[iv i0, iv i1, iv i2, iv i3, rv s0_, rv s1_, rv s2_, iv (1 : Int32), rv b1, rv b25, rv b39, .unset] [(.ref s0_)])) st96 ?_
  clear st96
  refine own_stW (T' := T96) (g' := (mkF m 137 #[iv i0, iv i1, iv i2, iv i3, rv s0_, rv s1_, rv s2_, iv (1 : Int32), rv b1, rv b25, rv b39, rv s0_] [])) (fun _ k_ => XS.astore X96.here hx rfl (hb hby at_135) rfl rfl (l' := #[iv i0, iv i1, iv i2, iv i3, rv s0_, rv s1_, rv s2_, iv (1 : Int32), rv b1, rv b25, rv b39, rv s0_]) rfl k_) ?_
  refine own_stW (T' := T96) (g' := (mkF m 139 #[iv i0, iv i1, iv i2, iv i3, rv s0_, rv s1_, rv s2_, iv (1 : Int32), rv b1, rv b25, rv b39, rv s0_] [(.ref s0_)])) (fun _ k_ => XS.aload X96.here hx rfl (hb hby at_137) rfl rfl  k_) ?_
  refine own_stW (T' := T96) (g' := (mkF m 141 #[iv i0, iv i1, iv i2, iv i3, rv s0_, rv s1_, rv s2_, iv (1 : Int32), rv b1, rv b25, rv b39, rv s0_] [(.ref s0_), (.ref s0_)])) (fun _ k_ => XS.aload X96.here hx rfl (hb hby at_139) rfl rfl  k_) ?_
  obtain ⟨cq97, kq97, q97a, q97b, q97c⟩ := isOf hZ eq96 f94
  obtain ⟨_, T97, L97, X97, hQ97, st97⟩ := own_callV X96 hx (y := own_m39) (z := own_m39) hown (mvT hZ (wd hw 230 rfl)) (mvT hZ (wd hw 231 rfl)) (notFace_of_selects (args := #[]) (mvT hZ (wd hw 233 rfl))) (mvT hZ (wd hw 233 rfl)) (mvT hZ (wd hw 232 rfl)) (by decide) (backOf (W := 0) (rm_eqs l Z a0 hw [] s0_ T92.heap n0 f95) hZ (wd hw 234 rfl) (wd hw 6 rfl) (by decide) (by decide)) q97a q97c (g := (mkF m 141 #[iv i0, iv i1, iv i2, iv i3, rv s0_, rv s1_, rv s2_, iv (1 : Int32), rv b1, rv b25, rv b39, rv s0_] [(.ref s0_), (.ref s0_)])) rfl (by rw [hml]; rfl) (argsL := [(.ref s0_)]) (rest := []) (lenOf pd__Ljava_lang_Object__Z rfl) rfl (by show 2 * 0 + _ ≤ _; exact Nat.le_of_eq rfl) (hb hby at_141) rfl eq96 (by decide) (by decide) (c' := 28) (s' := 240) rfl rfl
  clear q97a q97b q97c kq97 cq97
  obtain ⟨rfl, Nq97, eq97⟩ := hQ97
  have N97 := Fr.app N96 Nq97
  refine own_stW (T' := T97) (g' := (mkF m 144 #[iv i0, iv i1, iv i2, iv i3, rv s0_, rv s1_, rv s2_, iv (1 : Int32), rv b1, rv b25, rv b39, rv s0_] [(.int (1 : Int32))])) st97 ?_
  clear st97
  exact own_retNW X97 hZ hS0 (by rw [eq97]; exact (Nat.le_trans (Nat.le_trans (Nat.le_trans (Nat.le_trans (Nat.le_trans (Nat.le_trans (Nat.le_trans (Nat.le_trans (Nat.le_trans (Nat.le_trans (Nat.le_trans hk0 E1.1) K4.1) K9.1) K15.1) K22.1) E25.1) K28.1) K32.1) K36.1) E39.1) K92.1)) hEL (by rw [eq97]; exact CR93) hx (t := .boolean) hret (by simp) hlk (hb hby at_144) (by decide) (by decide) ⟨rfl, N97⟩
theorem pd__I_Ljava_lang_String_ : parseMethodDescriptor "(I)Ljava/lang/String;" = some ⟨[.int], some (.object "java/lang/String")⟩ := by decide +kernel
theorem ef_0 (m : MethodId) (x0 : Int32) (x1 : Int32) (x2 : Int32) (x3 : Int32) : entryFrame m #[(.int x0), (.int x1), (.int x2), (.int x3)] maxLocals = mkF m 0 #[iv x0, iv x1, iv x2, iv x3, .unset, .unset, .unset, .unset, .unset, .unset, .unset, .unset] [] := by first | (simp [entryFrame, mkF, argsToLocals, Value.category, maxLocals]; done) | rfl
set_option maxRecDepth 65536 in
set_option maxHeartbeats 40000000 in
theorem rm_0 (l : Launch) (Z : State) (a0 : Array Value) (hw : ∀ d ∈ tables_1, d.before a0 Z = true) (ws : List Jvm.Cond) (i0 : Int32) (i1 : Int32) (i2 : Int32) (i3 : Int32) (dA : Addr) (clD : Cell) (kO : ClassId) (mir : Addr) (em : Addr) (w_TAKE_OUT : Addr) (w_TAKE_IN : Addr) (w_GRANT_OUT : Addr) (w_GRANT_IN : Addr) (cz : Int32) (h0 : Heap) (n0 : Nat) (O0 : Old Z n0 h0) (SC : Sta Z Z.heap "java/lang/String" "COMPACT_STRINGS" "Z" (.int cz)) (hcz : ¬ cz = (0 : Int32)) (SDe : Sta Z Z.heap "java/util/ArrayList" "DEFAULTCAPACITY_EMPTY_ELEMENTDATA" "[Ljava/lang/Object;" (.ref dA)) (AD : Arr Z Z.heap dA clD (.object "java/lang/Object")) (LD : clD.slots.size.toInt32 = (0 : Int32)) (OV : Ovr Z kO "java/lang/Object") (FC : Z.vm.findClass "[Ljava/lang/Object;" = some kO) (MIR : own_Mir Z "[Ljava/lang/Object;" mir) (SEm : Sta Z Z.heap "java/util/ImmutableCollections" "EMPTY" "Ljava/lang/Object;" (.ref em)) (S_TAKE_OUT : Sta Z Z.heap "com/example/rights_leak_checker/rightsleakchecker/takegrant/Bridge$Letter" "TAKE_OUT" "Lcom/example/rights_leak_checker/rightsleakchecker/takegrant/Bridge$Letter;" (.ref w_TAKE_OUT)) (X_TAKE_OUT : Exa Z Z.heap w_TAKE_OUT "com/example/rights_leak_checker/rightsleakchecker/takegrant/Bridge$Letter") (S_TAKE_IN : Sta Z Z.heap "com/example/rights_leak_checker/rightsleakchecker/takegrant/Bridge$Letter" "TAKE_IN" "Lcom/example/rights_leak_checker/rightsleakchecker/takegrant/Bridge$Letter;" (.ref w_TAKE_IN)) (X_TAKE_IN : Exa Z Z.heap w_TAKE_IN "com/example/rights_leak_checker/rightsleakchecker/takegrant/Bridge$Letter") (S_GRANT_OUT : Sta Z Z.heap "com/example/rights_leak_checker/rightsleakchecker/takegrant/Bridge$Letter" "GRANT_OUT" "Lcom/example/rights_leak_checker/rightsleakchecker/takegrant/Bridge$Letter;" (.ref w_GRANT_OUT)) (X_GRANT_OUT : Exa Z Z.heap w_GRANT_OUT "com/example/rights_leak_checker/rightsleakchecker/takegrant/Bridge$Letter") (S_GRANT_IN : Sta Z Z.heap "com/example/rights_leak_checker/rightsleakchecker/takegrant/Bridge$Letter" "GRANT_IN" "Lcom/example/rights_leak_checker/rightsleakchecker/takegrant/Bridge$Letter;" (.ref w_GRANT_IN)) (X_GRANT_IN : Exa Z Z.heap w_GRANT_IN "com/example/rights_leak_checker/rightsleakchecker/takegrant/Bridge$Letter") :
    MetFree l x (head1 (Jvm.Cond.code x code maxLocals ret :: ws) room_1) (fun ar_ U => ar_ = #[(.int i0), (.int i1), (.int i2), (.int i3)] ∧ Z.Warmed39 U.vm ∧ U.heap = h0 ∧ CHv Z consts_1 U.vm h0 ∧ ∀ x ∈ ([] : List Addr), Safe Z consts_1 U.vm h0 x) (fun _ _ _ _ _ => True) (fun _ U o U' => ∃ v L, o = .returned v ∧ own_L n0 v U'.heap L ∧ CHr Z consts_1 U.vm U.heap U'.vm U'.heap ∧ ReturnedEndW U o U' L room_1.cells room_1.slots) := by
  refine MetFree.of_bodySF (plainFor_of_name pn_2) hisR ?_
  intro p e s m args below meth c s₁ Bd hml0 hP hK
  obtain ⟨rfl, hZ, hh, CH0, SF0⟩ := hP
  have hx := Bd.exec
  have hby := Bd.bytes
  have hml : c.maxLocals = 12 := hml0
  have hown : s.vm.findClass "com/example/rights_leak_checker/rightsleakchecker/takegrant/BridgeFromPinLaw" = some m.cls := findClass_of_methodNamed Bd.named
  have hnm := (name_of_methodNamed Bd.named Bd.method).1
  have X0 : Stand p l e room_1 (s.setVm s.vm) m #[(.int i0), (.int i1), (.int i2), (.int i3)] below meth c s₁ [] 0 0 := Stand.of_body Bd
  have e0 : s₁.heap = h0 := by rw [← hh, Bd.state]; rfl
  have N0 := Fr.nil n0
  have hret := Bd.returns
  have hlk : meth.locks = false := Bd.notSynchronized
  have hEL := own_EW hw
  have hZs := hZ
  have howns := hown
  have hS0 : s.Since s.vm s.heap.size := (State.WarmedH.refl s).since _
  have hk0 : s.heap.size ≤ h0.size := Nat.le_of_eq (by rw [hh])
  have CR0 := CHr.refl CH0
  refine own_W0 hh ?_
  show own_W p e below s room_1.cells room_1.slots Z consts_1 h0 (own_L n0) s₁ (entryFrame m #[(.int i0), (.int i1), (.int i2), (.int i3)] maxLocals)
  rw [ef_0 m i0 i1 i2 i3]
  refine own_stW (T' := s₁) (g' := (mkF m 1 #[iv i0, iv i1, iv i2, iv i3, .unset, .unset, .unset, .unset, .unset, .unset, .unset, .unset] [(.int i0)])) (fun _ k_ => XS.iloadN X0.here hx rfl (hb hby at_0) rfl  k_) ?_
  obtain ⟨_, T1, L1, X1, hS1, hQ1, ch1, st1⟩ := own_callSW X0 hx (y := own_m5) hown (mvT hZ (wd hw 0 rfl)) (mvT hZ (wd hw 1 rfl)) (mvT hZ (wd hw 2 rfl)) (mvT hZ (wd hw 3 rfl)) (by decide) (own_backW (W := 0) (rm_str l Z a0 hw [] i0 cz h0 n0 O0 SC hcz) hZ (wd hw 3 rfl) (wd hw 2 rfl) (by decide) (by decide) hEL CR0.1 sf0 all0) (g := (mkF m 1 #[iv i0, iv i1, iv i2, iv i3, .unset, .unset, .unset, .unset, .unset, .unset, .unset, .unset] [(.int i0)])) rfl (by rw [hml]; rfl) (argsL := [(.int i0)]) (rest := []) (lenOf pd__I_Ljava_lang_String_ rfl) rfl (by show 2 * 0 + _ ≤ _; exact Nat.le_of_eq rfl) (hb hby at_1) rfl e0 (by decide) (by decide) (c' := 6) (s' := 12) rfl rfl hS0 hk0
  obtain ⟨b1, rfl, Nq1, K1, fq1_0, xq1_fresh_b⟩ := hQ1
  have N1 := Fr.app N0 Nq1
  have CR2 := CR0.trans ch1
  have hZ1 : Z.Warmed39 (s.setVm T1.vm).vm := own_hZ hZs hS1
  have hown1 : (s.setVm T1.vm).vm.findClass "com/example/rights_leak_checker/rightsleakchecker/takegrant/BridgeFromPinLaw" = some m.cls := own_hown howns hS1
  refine own_stW (T' := T1) (g' := (mkF m 4 #[iv i0, iv i1, iv i2, iv i3, .unset, .unset, .unset, .unset, .unset, .unset, .unset, .unset] [(.ref b1)])) st1 ?_
  clear st1
  refine own_stW (T' := T1) (g' := (mkF m 6 #[iv i0, iv i1, iv i2, iv i3, rv b1, .unset, .unset, .unset, .unset, .unset, .unset, .unset] [])) (fun _ k_ => XS.astore X1.here hx rfl (hb hby at_4) rfl rfl (l' := #[iv i0, iv i1, iv i2, iv i3, rv b1, .unset, .unset, .unset, .unset, .unset, .unset, .unset]) rfl k_) ?_
  refine own_stW (T' := T1) (g' := (mkF m 7 #[iv i0, iv i1, iv i2, iv i3, rv b1, .unset, .unset, .unset, .unset, .unset, .unset, .unset] [(.int i1)])) (fun _ k_ => XS.iloadN X1.here hx rfl (hb hby at_6) rfl  k_) ?_
  have f3 := O0.keep K1 all0
  obtain ⟨_, T4, L4, X4, hS4, hQ4, ch4, st4⟩ := own_callSW X1 hx (y := own_m5) hown1 (mvT hZ1 (wd hw 0 rfl)) (mvT hZ1 (wd hw 1 rfl)) (mvT hZ1 (wd hw 2 rfl)) (mvT hZ1 (wd hw 3 rfl)) (by decide) (own_backW (W := 0) (rm_str l Z a0 hw [] i1 cz T1.heap n0 f3 SC hcz) hZ1 (wd hw 3 rfl) (wd hw 2 rfl) (by decide) (by decide) hEL CR2.1 sf0 all0) (g := (mkF m 7 #[iv i0, iv i1, iv i2, iv i3, rv b1, .unset, .unset, .unset, .unset, .unset, .unset, .unset] [(.int i1)])) rfl (by rw [hml]; rfl) (argsL := [(.int i1)]) (rest := []) (lenOf pd__I_Ljava_lang_String_ rfl) rfl (by show 2 * 0 + _ ≤ _; exact Nat.le_of_eq rfl) (hb hby at_7) rfl rfl (by decide) (by decide) (c' := 12) (s' := 24) rfl rfl hS1 (Nat.le_refl _)
  obtain ⟨b4, rfl, Nq4, K4, fq4_0, xq4_fresh_b⟩ := hQ4
  have N4 := Fr.app N1 Nq4
  have CR5 := CR2.trans ch4
  have hZ4 : Z.Warmed39 (s.setVm T4.vm).vm := own_hZ hZs hS4
  have hown4 : (s.setVm T4.vm).vm.findClass "com/example/rights_leak_checker/rightsleakchecker/takegrant/BridgeFromPinLaw" = some m.cls := own_hown howns hS4
  refine own_stW (T' := T4) (g' := (mkF m 10 #[iv i0, iv i1, iv i2, iv i3, rv b1, .unset, .unset, .unset, .unset, .unset, .unset, .unset] [(.ref b4)])) st4 ?_
  clear st4
  refine own_stW (T' := T4) (g' := (mkF m 12 #[iv i0, iv i1, iv i2, iv i3, rv b1, rv b4, .unset, .unset, .unset, .unset, .unset, .unset] [])) (fun _ k_ => XS.astore X4.here hx rfl (hb hby at_10) rfl rfl (l' := #[iv i0, iv i1, iv i2, iv i3, rv b1, rv b4, .unset, .unset, .unset, .unset, .unset, .unset]) rfl k_) ?_
  refine own_stW (T' := T4) (g' := (mkF m 13 #[iv i0, iv i1, iv i2, iv i3, rv b1, rv b4, .unset, .unset, .unset, .unset, .unset, .unset] [(.int i2)])) (fun _ k_ => XS.iloadN X4.here hx rfl (hb hby at_12) rfl  k_) ?_
  have f6 := f3.keep K4 all0
  obtain ⟨_, T7, L7, X7, hS7, hQ7, ch7, st7⟩ := own_callSW X4 hx (y := own_m5) hown4 (mvT hZ4 (wd hw 0 rfl)) (mvT hZ4 (wd hw 1 rfl)) (mvT hZ4 (wd hw 2 rfl)) (mvT hZ4 (wd hw 3 rfl)) (by decide) (own_backW (W := 0) (rm_str l Z a0 hw [] i2 cz T4.heap n0 f6 SC hcz) hZ4 (wd hw 3 rfl) (wd hw 2 rfl) (by decide) (by decide) hEL CR5.1 sf0 all0) (g := (mkF m 13 #[iv i0, iv i1, iv i2, iv i3, rv b1, rv b4, .unset, .unset, .unset, .unset, .unset, .unset] [(.int i2)])) rfl (by rw [hml]; rfl) (argsL := [(.int i2)]) (rest := []) (lenOf pd__I_Ljava_lang_String_ rfl) rfl (by show 2 * 0 + _ ≤ _; exact Nat.le_of_eq rfl) (hb hby at_13) rfl rfl (by decide) (by decide) (c' := 18) (s' := 36) rfl rfl hS4 (Nat.le_refl _)
  obtain ⟨b7, rfl, Nq7, K7, fq7_0, xq7_fresh_b⟩ := hQ7
  have N7 := Fr.app N4 Nq7
  have CR8 := CR5.trans ch7
  have hZ7 : Z.Warmed39 (s.setVm T7.vm).vm := own_hZ hZs hS7
  have hown7 : (s.setVm T7.vm).vm.findClass "com/example/rights_leak_checker/rightsleakchecker/takegrant/BridgeFromPinLaw" = some m.cls := own_hown howns hS7
  refine own_stW (T' := T7) (g' := (mkF m 16 #[iv i0, iv i1, iv i2, iv i3, rv b1, rv b4, .unset, .unset, .unset, .unset, .unset, .unset] [(.ref b7)])) st7 ?_
  clear st7
  refine own_stW (T' := T7) (g' := (mkF m 18 #[iv i0, iv i1, iv i2, iv i3, rv b1, rv b4, rv b7, .unset, .unset, .unset, .unset, .unset] [])) (fun _ k_ => XS.astore X7.here hx rfl (hb hby at_16) rfl rfl (l' := #[iv i0, iv i1, iv i2, iv i3, rv b1, rv b4, rv b7, .unset, .unset, .unset, .unset, .unset]) rfl k_) ?_
  refine own_stW (T' := T7) (g' := (mkF m 19 #[iv i0, iv i1, iv i2, iv i3, rv b1, rv b4, rv b7, .unset, .unset, .unset, .unset, .unset] [(.int i3)])) (fun _ k_ => XS.iloadN X7.here hx rfl (hb hby at_18) rfl  k_) ?_
  refine own_stW (T' := T7) (g' := (mkF m 20 #[iv i0, iv i1, iv i2, iv i3, rv b1, rv b4, rv b7, .unset, .unset, .unset, .unset, .unset] [(.int (1 : Int32)), (.int i3)])) (fun _ k_ => XS.iconst X7.here hx rfl (hb hby at_19) k_) ?_
  refine own_stW (T' := T7) (g' := (mkF m 21 #[iv i0, iv i1, iv i2, iv i3, rv b1, rv b4, rv b7, .unset, .unset, .unset, .unset, .unset] [(.int (i3 &&& (1 : Int32)))])) (fun _ k_ => XS.iand X7.here hx rfl (hb hby at_20) rfl k_) ?_
  by_cases hc9 : (i3 &&& (1 : Int32)) = (0 : Int32)
  · refine own_stW (T' := T7) (g' := (mkF m 28 #[iv i0, iv i1, iv i2, iv i3, rv b1, rv b4, rv b7, .unset, .unset, .unset, .unset, .unset] [])) (fun _ k_ => XS.ifYes X7.here hx rfl (pc0 := 21) (pc' := 28) rfl (hb hby at_21) rfl ((if0 _ _).trans (teq hc9).1) (by decide) (by decide) k_) ?_
    refine own_stW (T' := T7) (g' := (mkF m 29 #[iv i0, iv i1, iv i2, iv i3, rv b1, rv b4, rv b7, .unset, .unset, .unset, .unset, .unset] [(.int (0 : Int32))])) (fun _ k_ => XS.iconst X7.here hx rfl (hb hby at_28) k_) ?_
    refine own_stW (T' := T7) (g' := (mkF m 31 #[iv i0, iv i1, iv i2, iv i3, rv b1, rv b4, rv b7, iv (0 : Int32), .unset, .unset, .unset, .unset] [])) (fun _ k_ => XS.istore X7.here hx rfl (hb hby at_29) rfl (l' := #[iv i0, iv i1, iv i2, iv i3, rv b1, rv b4, rv b7, iv (0 : Int32), .unset, .unset, .unset, .unset]) rfl k_) ?_
    have f10 := f6.keep K7 all0
    have f11 := fq1_0.keep K4
    have f12 := f11.keep K7
    have f13 := fq4_0.keep K7
    exact seg_t0 h0 T7.heap n0 i0 i1 i2 i3 b1 b4 b7 dA clD kO mir em w_TAKE_OUT w_TAKE_IN w_GRANT_OUT w_GRANT_IN (X7.mono (by decide) (by decide)) hx hZs hZ7 hS7 (Nat.le_refl _) CR8 hw hby hml howns hown7 hnm hret hlk rfl N7 f10 f12 f13 fq7_0 SDe AD LD OV FC MIR SEm S_TAKE_OUT X_TAKE_OUT S_TAKE_IN X_TAKE_IN S_GRANT_OUT X_GRANT_OUT S_GRANT_IN X_GRANT_IN
  · refine own_stW (T' := T7) (g' := (mkF m 24 #[iv i0, iv i1, iv i2, iv i3, rv b1, rv b4, rv b7, .unset, .unset, .unset, .unset, .unset] [])) (fun _ k_ => XS.ifNo X7.here hx rfl (hb hby at_21) rfl ((if0 _ _).trans (feq hc9).1) k_) ?_
    refine own_stW (T' := T7) (g' := (mkF m 25 #[iv i0, iv i1, iv i2, iv i3, rv b1, rv b4, rv b7, .unset, .unset, .unset, .unset, .unset] [(.int (1 : Int32))])) (fun _ k_ => XS.iconst X7.here hx rfl (hb hby at_24) k_) ?_
    refine own_stW (T' := T7) (g' := (mkF m 29 #[iv i0, iv i1, iv i2, iv i3, rv b1, rv b4, rv b7, .unset, .unset, .unset, .unset, .unset] [(.int (1 : Int32))])) (fun _ k_ => XS.goto X7.here hx rfl (pc0 := 25) (pc' := 29) rfl (hb hby at_25) (by decide) (by decide) k_) ?_
    refine own_stW (T' := T7) (g' := (mkF m 31 #[iv i0, iv i1, iv i2, iv i3, rv b1, rv b4, rv b7, iv (1 : Int32), .unset, .unset, .unset, .unset] [])) (fun _ k_ => XS.istore X7.here hx rfl (hb hby at_29) rfl (l' := #[iv i0, iv i1, iv i2, iv i3, rv b1, rv b4, rv b7, iv (1 : Int32), .unset, .unset, .unset, .unset]) rfl k_) ?_
    have f14 := f6.keep K7 all0
    have f15 := fq1_0.keep K4
    have f16 := f15.keep K7
    have f17 := fq4_0.keep K7
    exact seg_t1 h0 T7.heap n0 i0 i1 i2 i3 b1 b4 b7 dA clD kO mir em w_TAKE_OUT w_TAKE_IN w_GRANT_OUT w_GRANT_IN (X7.mono (by decide) (by decide)) hx hZs hZ7 hS7 (Nat.le_refl _) CR8 hw hby hml howns hown7 hnm hret hlk rfl N7 f14 f16 f17 fq7_0 SDe AD LD OV FC MIR SEm S_TAKE_OUT X_TAKE_OUT S_TAKE_IN X_TAKE_IN S_GRANT_OUT X_GRANT_OUT S_GRANT_IN X_GRANT_IN
set_option maxRecDepth 65536 in
set_option maxHeartbeats 40000000 in
theorem comes_1 {Post : Tables → Env → Array Value → State → Outcome → State → Prop} (hpost : ∀ tb e args s v u, (limb_1_1.after args s (.returned v) u = true ∧ limb_1_2.after args s (.returned v) u = true ∧ True) → ReturnedEndW s (.returned v) u (Jvm.fieldLocs frame_1_writes args s ++ Jvm.arrayLocs frame_1_arrays args s ++ Jvm.staticLocs frame_1_statics s) 48 1280 → Post tb e args s (.returned v) u) :
    ArmFor flags0 classFile x code maxLocals ret World_1 tables_1 room_1 Calls_1 rest_1 Pre_1 Post := by
  intro l hfl _ _ p e ha hc hk s m args below hf hA hF happ hP
  obtain ⟨hcalls, hrest, hpre⟩ := hP
  obtain ⟨-, -, -, hnamed, -, -, -, hat⟩ := (Spec.applies_iff hf).mp happ
  obtain ⟨hg, hn⟩ := and_e (Cond.before_iff.mp (show (Jvm.Cond.and given_1 narrow_1).before args s = true from hpre))
  obtain ⟨u1a, u1b⟩ := and_e hg
  obtain ⟨u2a, u2b⟩ := and_e u1b
  obtain ⟨u3a, u3b⟩ := and_e u2b
  obtain ⟨u4a, u4b⟩ := and_e u3b
  obtain ⟨v0, v1, v2, v3, rfl⟩ : ∃ v0 v1 v2 v3 : Value, args = #[v0, v1, v2, v3] := by
    have hs : args.size = 4 := by simpa [Cond.value, given_1] using u1a
    obtain ⟨L⟩ := args
    match L, hs with
    | [v0, v1, v2, v3], _ => exact ⟨v0, v1, v2, v3, rfl⟩
  have hw := fun d (hd : d ∈ tables_1) => atoms_spec (ws := Jvm.Cond.code x code maxLocals ret :: tables_1) hat d (List.mem_cons_of_mem _ hd)
  have hfit : Fit s := fun {y c} hc i hi => by
    obtain ⟨ha, rfl⟩ := Array.getElem?_eq_some_iff.mp hc
    have q := List.all_eq_true.mp ((Array.all_eq_true_iff_forall_mem.mp hF) _ (Array.getElem_mem ha)) i (List.mem_range.mpr hi)
    simpa [Array.getElem?_eq_getElem hi] using q
  obtain ⟨hsets, hown0⟩ := atoms_of _ (rest_1_c_eq ▸ (show rest_1_c.before _ s = true from hrest))
  have hr0 := Cond.before_iff.mp hown0
  obtain ⟨i0, ei0⟩ := is_v u2a
  obtain rfl : v0 = (.int i0) := Option.some.inj ei0
  obtain ⟨i1, ei1⟩ := is_v u3a
  obtain rfl : v1 = (.int i1) := Option.some.inj ei1
  obtain ⟨i2, ei2⟩ := is_v u4a
  obtain rfl : v2 = (.int i2) := Option.some.inj ei2
  obtain ⟨i3, ei3⟩ := is_v u4b
  obtain rfl : v3 = (.int i3) := Option.some.inj ei3
  obtain ⟨u5a, u5b⟩ := and_e hn
  obtain ⟨u6a, u6b⟩ := and_e u5b
  obtain ⟨u7a, u7b⟩ := and_e u6b
  obtain ⟨w_TAKE_OUT, ev_TAKE_OUT⟩ := exa_v u5a
  have S_TAKE_OUT := Sta.start ev_TAKE_OUT (Or.inr ⟨(wd hw 89 rfl), (wd hw 90 rfl)⟩)
  have X_TAKE_OUT := Exa.start ev_TAKE_OUT u5a
  obtain ⟨w_TAKE_IN, ev_TAKE_IN⟩ := exa_v u6a
  have S_TAKE_IN := Sta.start ev_TAKE_IN (Or.inr ⟨(wd hw 89 rfl), (wd hw 236 rfl)⟩)
  have X_TAKE_IN := Exa.start ev_TAKE_IN u6a
  obtain ⟨w_GRANT_OUT, ev_GRANT_OUT⟩ := exa_v u7a
  have S_GRANT_OUT := Sta.start ev_GRANT_OUT (Or.inr ⟨(wd hw 89 rfl), (wd hw 259 rfl)⟩)
  have X_GRANT_OUT := Exa.start ev_GRANT_OUT u7a
  obtain ⟨w_GRANT_IN, ev_GRANT_IN⟩ := exa_v u7b
  have S_GRANT_IN := Sta.start ev_GRANT_IN (Or.inr ⟨(wd hw 89 rfl), (wd hw 261 rfl)⟩)
  have X_GRANT_IN := Exa.start ev_GRANT_IN u7b
  obtain ⟨cz, evc⟩ := is_v (Cond.before_iff.mp (hsets _ (List.mem_of_getElem? (i := 19) rfl)))
  have SC := Sta.start evc (Or.inl (hsets _ (List.mem_of_getElem? (i := 18) rfl)))
  have hcw : Jvm.Lit.compactW.before _ s = true := (hsets _ (List.mem_of_getElem? (i := 20) rfl))
  have hcz : ¬ cz = (0 : Int32) := own_nz evc (Cond.before_iff.mp (hsets _ (List.mem_of_getElem? (i := 20) rfl)))
  obtain ⟨dA, evd⟩ := exa_v (Cond.before_iff.mp (hsets _ (List.mem_of_getElem? (i := 7) rfl)))
  have SDe := Sta.start evd (Or.inr ⟨(wd hw 28 rfl), (hsets _ (List.mem_of_getElem? (i := 2) rfl))⟩)
  obtain ⟨clD, AD⟩ := Arr.start evd (Cond.before_iff.mp (hsets _ (List.mem_of_getElem? (i := 6) rfl)))
  have LD := own_len0 evd AD (Cond.before_iff.mp (hsets _ (List.mem_of_getElem? (i := 8) rfl)))
  obtain ⟨em, eve⟩ := exa_v (Cond.before_iff.mp (hsets _ (List.mem_of_getElem? (i := 11) rfl)))
  have SEm := Sta.start eve (Or.inl (hsets _ (List.mem_of_getElem? (i := 10) rfl)))
  have X_em := Exa.start eve (Cond.before_iff.mp (hsets _ (List.mem_of_getElem? (i := 11) rfl)))
  obtain ⟨kO, OV, FC⟩ := own_OV (wd hw 83 rfl)
  obtain ⟨cM, kM, mir, hM1, hM2, hM3, -⟩ := hcalls.1
  have MIR : own_Mir s "[Ljava/lang/Object;" mir := ⟨cM, kM, hM1, hM2, hM3⟩
  have CH0 : CHv s consts_1 s.vm s.heap := CHv.start (own_EW hw) (fun q hq => hcalls.2.1 q hq) hcw (wd hw 19 rfl) (wd hw 5 rfl)
  obtain ⟨n, o, h1, h2, h3, _, L, rfl, ⟨rfl, N⟩, -, hq⟩ := rm_0 l s _ hw tables_1 i0 i1 i2 i3 dA clD kO mir em w_TAKE_OUT w_TAKE_IN w_GRANT_OUT w_GRANT_IN cz s.heap s.heap.size (Old.start s) SC hcz SDe AD LD OV FC MIR SEm S_TAKE_OUT X_TAKE_OUT S_TAKE_IN X_TAKE_IN S_GRANT_OUT X_GRANT_OUT S_GRANT_IN X_GRANT_IN p e ha hc hk s m _ below hf ((Spec.applies_iff_loose hf).mp happ).1 ⟨rfl, State.Warmed39.refl s, rfl, CH0, fun _ q => nomatch q⟩ trivial
  refine ⟨n, _, h1, h2, h3, hpost _ _ _ _ _ _ ⟨Cond.after_iff.mpr rfl, Cond.after_iff.mpr (eq_i res_at (Term.int_eval (1)) rfl), trivial⟩ ⟨hq.1, hq.2.1, hq.2.2.1, (hq.2.2.2.sift fun y hy => Or.inr (N y hy)).mono (by decide) (by decide)⟩⟩
theorem main_1_1 : Claimed_1_1 := comes_1 fun _ _ _ _ _ _ h hF => ⟨h.1, hF⟩
theorem main_1_2 : Claimed_1_2 := comes_1 fun _ _ _ _ _ _ h hF => ⟨h.2.1, hF⟩
end Jvm.Pilot.@@N@@
namespace Jvm.Pilot.@@N@@
open Jvm Jvm.ClassFile Sem Op Lib Jvm.Free Jvm.Stand Jvm.Pilot.@@N@@.Jvm.D
/-! MADE BY PROGRAM (witnessworld.py) out of the Statement's table words and the real class files: 40 classes; the members and pool entries that the words name. The judged class is class 1, her method 3. -/
namespace start1
open Jvm.ClassFile
def u (s : String) : CpInfo := .utf8 (stringToUtf16 s)
/-- a pool by its gaps: so many unusable entries, then the entry; so many at the end -/
def gap : Nat → List CpInfo → List CpInfo
  | 0, r => r
  | n + 1, r => .unusable :: gap n r
def poolList (es : List (Nat × CpInfo)) (last : Nat) : List CpInfo := es.foldr (fun e r => gap e.1 (e.2 :: r)) (gap last [])
def pool (es : List (Nat × CpInfo)) (last : Nat) : Array CpInfo := ⟨poolList es last⟩
def fileOf (pool : Array CpInfo) (this : Nat) (attrs : Array Attribute := #[]) (ms : Array MethodInfo := #[]) (fl : Nat := 33) (sup : Nat := 0) (ifs : Array Nat := #[]) (fds : Array FieldInfo := #[]) : ClassFile where
  minorVersion := 0
  majorVersion := 65
  constantPool := pool
  accessFlags := fl
  thisClass := this
  superClass := sup
  interfaces := ifs
  fields := fds
  methods := ms
  attributes := attrs
def plain (name : String) (sup : Option ClassId) : Class where
  name := name
  kind := .ordinary
  loader := none
  accessFlags := 33
  super := sup
  interfaces := #[]
  cf := none
  fields := #[]
  methods := #[]
  instanceTypes := #[]
  staticTypes := #[]
  resolved := #[]
  callSites := []
  init := .initialized
  statics := none
  mirror := none

def pool0 : Array CpInfo := pool [(5, u "<init>"), (0, u "()V"), (1, .class_ 10), (1, u "java/lang/Object"), (0, u "getClass"), (0, u "()Ljava/lang/Class;")] 111

def k0c0 : Code := { maxStack := 0, maxLocals := 1, code := object_method_1_code, exceptionTable := #[], attributes := #[] }
def k0m0 : Method := { name := "<init>", desc := "()V", sig := { parameters := [], returnType := none }, accessFlags := 1, code := some k0c0 }
def k0m1 : Method := { name := "getClass", desc := "()Ljava/lang/Class;", sig := { parameters := [], returnType := some (.object "java/lang/Class") }, accessFlags := 273, code := none }
/-- java/lang/Object -/
def k0 : Class := { plain "java/lang/Object" none with
  accessFlags := 33
  interfaces := #[]
  cf := some (fileOf pool0 8 #[] #[{ accessFlags := 1, nameIndex := 5, descriptorIndex := 6, attributes := #[] }, { accessFlags := 273, nameIndex := 11, descriptorIndex := 12, attributes := #[] }] 33 0 #[] #[])
  fields := #[]
  methods := #[k0m0, k0m1]
  instanceTypes := #[]
  staticTypes := #[]
  resolved := Array.replicate 124 none
  statics := none }

def pool1 : Array CpInfo := pool [(2, .class_ 4), (0, .nameAndType 5 6), (0, u "java/lang/Object"), (0, u "<init>"), (0, u "()V"), (0, .class_ 8), (0, u "java/lang/String"), (0, .methodref 7 10), (0, .nameAndType 5 11), (0, u "([C)V"), (0, .fieldref 13 14), (0, .class_ 15), (0, .nameAndType 16 17), (0, u "com/example/rights_leak_checker/rightsleakchecker/takegrant/Bridge$Letter"), (0, u "TAKE_OUT"), (0, u "Lcom/example/rights_leak_checker/rightsleakchecker/takegrant/Bridge$Letter;"), (0, .fieldref 13 19), (0, .nameAndType 20 17), (0, u "TAKE_IN"), (0, .fieldref 13 22), (0, .nameAndType 23 17), (0, u "GRANT_OUT"), (0, .fieldref 13 25), (0, .nameAndType 26 17), (0, u "GRANT_IN"), (0, .methodref 28 29), (0, .class_ 30), (0, .nameAndType 31 32), (0, u "com/example/rights_leak_checker/rightsleakchecker/takegrant/BridgeFromPinLaw"), (0, u "str"), (0, u "(I)Ljava/lang/String;"), (0, .class_ 34), (0, u "java/util/ArrayList"), (0, .methodref 33 3), (0, .interfaceMethodref 37 38), (0, .class_ 39), (0, .nameAndType 40 41), (0, u "java/util/List"), (0, u "add"), (0, u "(Ljava/lang/Object;)Z"), (0, .methodref 28 43), (0, .nameAndType 44 45), (0, u "letter"), (0, u "(I)Lcom/example/rights_leak_checker/rightsleakchecker/takegrant/Bridge$Letter;"), (0, .class_ 47), (0, u "com/example/rights_leak_checker/rightsleakchecker/takegrant/Bridge"), (0, .methodref 46 49), (0, .nameAndType 5 50), (0, u "(Ljava/util/List;Ljava/util/List;)V"), (0, .methodref 46 52), (0, .nameAndType 53 54), (0, u "from"), (0, u "()Ljava/lang/String;"), (0, .methodref 7 56), (0, .nameAndType 57 41), (0, u "equals"), (3, u "law"), (0, u "(IIII)Z")] 4

def k1m0 : Method := { name := "<init>", desc := "()V", sig := { parameters := [], returnType := none }, accessFlags := 2, code := none }
def k1c1 : Code := { maxStack := 6, maxLocals := 5, code := method_2_code, exceptionTable := #[], attributes := #[] }
def k1m1 : Method := { name := "str", desc := "(I)Ljava/lang/String;", sig := { parameters := [.int], returnType := some (.object "java/lang/String") }, accessFlags := 10, code := some k1c1 }
def k1c2 : Code := { maxStack := 2, maxLocals := 2, code := method_3_code, exceptionTable := #[], attributes := #[] }
def k1m2 : Method := { name := "letter", desc := "(I)Lcom/example/rights_leak_checker/rightsleakchecker/takegrant/Bridge$Letter;", sig := { parameters := [.int], returnType := some (.object "com/example/rights_leak_checker/rightsleakchecker/takegrant/Bridge$Letter") }, accessFlags := 10, code := some k1c2 }
def k1c3 : Code := { maxStack := 4, maxLocals := 12, code := code, exceptionTable := #[], attributes := #[] }
def k1m3 : Method := { name := "law", desc := "(IIII)Z", sig := { parameters := [.int, .int, .int, .int], returnType := some .boolean }, accessFlags := 9, code := some k1c3 }
/-- com/example/rights_leak_checker/rightsleakchecker/takegrant/BridgeFromPinLaw -/
def k1 : Class := { plain "com/example/rights_leak_checker/rightsleakchecker/takegrant/BridgeFromPinLaw" (some 0) with
  accessFlags := 49
  interfaces := #[]
  cf := some (fileOf pool1 28 #[] #[{ accessFlags := 2, nameIndex := 5, descriptorIndex := 6, attributes := #[] }, { accessFlags := 10, nameIndex := 31, descriptorIndex := 32, attributes := #[] }, { accessFlags := 10, nameIndex := 44, descriptorIndex := 45, attributes := #[] }, { accessFlags := 9, nameIndex := 61, descriptorIndex := 62, attributes := #[] }] 49 2 #[] #[])
  fields := #[]
  methods := #[k1m0, k1m1, k1m2, k1m3]
  instanceTypes := #[]
  staticTypes := #[]
  resolved := Array.replicate 67 none
  statics := none }

def pool2 : Array CpInfo := pool [(1, .class_ 2), (0, u "java/io/Serializable"), (0, .class_ 4), (0, u "java/lang/Object")] 2

/-- java/io/Serializable -/
def k2 : Class := { plain "java/io/Serializable" (some 0) with
  accessFlags := 1537
  interfaces := #[]
  cf := some (fileOf pool2 1 #[] #[] 1537 3 #[] #[])
  fields := #[]
  methods := #[]
  instanceTypes := #[]
  staticTypes := #[]
  resolved := Array.replicate 7 none
  statics := none }

def pool3 : Array CpInfo := pool [(1, .class_ 2), (0, u "java/lang/Comparable"), (0, .class_ 4), (0, u "java/lang/Object")] 7

/-- java/lang/Comparable -/
def k3 : Class := { plain "java/lang/Comparable" (some 0) with
  accessFlags := 1537
  interfaces := #[]
  cf := some (fileOf pool3 1 #[] #[] 1537 3 #[] #[])
  fields := #[]
  methods := #[]
  instanceTypes := #[]
  staticTypes := #[]
  resolved := Array.replicate 12 none
  statics := none }

def pool4 : Array CpInfo := pool [(2, .class_ 4), (1, u "java/lang/CharSequence"), (42, .class_ 48), (0, u "java/lang/CharSequence$1CodePointIterator"), (10, .class_ 60), (0, u "java/lang/CharSequence$1CharIterator"), (5, .class_ 67), (0, u "java/lang/Object")] 63

/-- java/lang/CharSequence -/
def k4 : Class := { plain "java/lang/CharSequence" (some 0) with
  accessFlags := 1537
  interfaces := #[]
  cf := some (fileOf pool4 2 #[.nestMembers #[47, 59]] #[] 1537 66 #[] #[])
  fields := #[]
  methods := #[]
  instanceTypes := #[]
  staticTypes := #[]
  resolved := Array.replicate 131 none
  statics := none }

def pool5 : Array CpInfo := pool [(1, .class_ 2), (0, u "java/lang/constant/Constable"), (0, .class_ 4), (0, u "java/lang/Object")] 6

/-- java/lang/constant/Constable -/
def k5 : Class := { plain "java/lang/constant/Constable" (some 0) with
  accessFlags := 1537
  interfaces := #[]
  cf := some (fileOf pool5 1 #[] #[] 1537 3 #[] #[])
  fields := #[]
  methods := #[]
  instanceTypes := #[]
  staticTypes := #[]
  resolved := Array.replicate 11 none
  statics := none }

def pool6 : Array CpInfo := pool [(1, .class_ 2), (0, u "java/lang/constant/ConstantDesc"), (0, .class_ 4), (0, u "java/lang/Object")] 32

/-- java/lang/constant/ConstantDesc -/
def k6 : Class := { plain "java/lang/constant/ConstantDesc" (some 0) with
  accessFlags := 1537
  interfaces := #[]
  cf := some (fileOf pool6 1 #[] #[] 1537 3 #[] #[])
  fields := #[]
  methods := #[]
  instanceTypes := #[]
  staticTypes := #[]
  resolved := Array.replicate 37 none
  statics := none }

def pool7 : Array CpInfo := pool [(1, .methodref 2 3), (0, .class_ 4), (0, .nameAndType 5 6), (0, u "java/lang/Object"), (0, u "<init>"), (0, u "()V"), (0, .string 8), (0, u ""), (0, .fieldref 10 11), (0, .class_ 12), (0, .nameAndType 13 14), (0, u "java/lang/String"), (0, u "value"), (0, u "[B"), (0, .fieldref 10 16), (0, .nameAndType 17 18), (0, u "coder"), (0, u "B"), (2, u "hash"), (0, u "I"), (2, u "hashIsZero"), (0, u "Z"), (0, .methodref 10 28), (0, .nameAndType 5 29), (0, u "([CIILjava/lang/Void;)V"), (8, .fieldref 10 39), (0, .nameAndType 40 26), (0, u "COMPACT_STRINGS"), (1, .class_ 44), (1, u "java/lang/StringUTF16"), (0, u "compress"), (1, .methodref 42 48), (0, .nameAndType 49 50), (0, u "coderFromArrayLen"), (0, u "([BI)B"), (126, .methodref 42 178), (0, .nameAndType 45 179), (0, u "([CII)[B"), (363, u "equals"), (29, u "(Ljava/lang/Object;)Z"), (1, .class_ 576), (0, u "java/lang/CharSequence"), (22, u "CASE_INSENSITIVE_ORDER"), (0, u "Ljava/util/Comparator;"), (409, u "([C)V"), (90, u "serialPersistentFields"), (0, u "[Ljava/io/ObjectStreamField;"), (0, .class_ 1104), (0, u "java/lang/String$CaseInsensitiveComparator"), (1, .class_ 1107), (0, u "java/io/Serializable"), (0, .class_ 1109), (0, u "java/lang/Comparable"), (0, .class_ 1111), (0, u "java/lang/constant/Constable"), (0, .class_ 1113), (0, u "java/lang/constant/ConstantDesc"), (2, u "serialVersionUID"), (0, u "J"), (3, u "REPL"), (0, u "C"), (2, u "LATIN1"), (1, u "UTF16")] 323

def k7m0 : Method := { name := "<init>", desc := "()V", sig := { parameters := [], returnType := none }, accessFlags := 1, code := none }
def k7c1 : Code := { maxStack := 5, maxLocals := 2, code := jdk_42_method_3_code, exceptionTable := #[], attributes := #[] }
def k7m1 : Method := { name := "<init>", desc := "([C)V", sig := { parameters := [(.array .char)], returnType := none }, accessFlags := 1, code := some k7c1 }
def k7c2 : Code := { maxStack := 2, maxLocals := 3, code := jdk_42_method_66_code, exceptionTable := #[], attributes := #[] }
def k7m2 : Method := { name := "equals", desc := "(Ljava/lang/Object;)Z", sig := { parameters := [(.object "java/lang/Object")], returnType := some .boolean }, accessFlags := 1, code := some k7c2 }
def k7c3 : Code := { maxStack := 4, maxLocals := 6, code := jdk_42_method_149_code, exceptionTable := #[], attributes := #[] }
def k7m3 : Method := { name := "<init>", desc := "([CIILjava/lang/Void;)V", sig := { parameters := [(.array .char), .int, .int, (.object "java/lang/Void")], returnType := none }, accessFlags := 2, code := some k7c3 }
/-- java/lang/String -/
def k7 : Class := { plain "java/lang/String" (some 0) with
  accessFlags := 49
  interfaces := #[2, 3, 4, 5, 6]
  cf := some (fileOf pool7 10 #[.nestMembers #[1103]] #[{ accessFlags := 1, nameIndex := 5, descriptorIndex := 6, attributes := #[] }, { accessFlags := 1, nameIndex := 5, descriptorIndex := 1010, attributes := #[] }, { accessFlags := 1, nameIndex := 543, descriptorIndex := 573, attributes := #[] }, { accessFlags := 2, nameIndex := 5, descriptorIndex := 29, attributes := #[] }] 49 2 #[1106, 1108, 575, 1110, 1112] #[{ accessFlags := 18, nameIndex := 13, descriptorIndex := 14, attributes := #[] }, { accessFlags := 18, nameIndex := 17, descriptorIndex := 18, attributes := #[] }, { accessFlags := 2, nameIndex := 21, descriptorIndex := 22, attributes := #[] }, { accessFlags := 2, nameIndex := 25, descriptorIndex := 26, attributes := #[] }, { accessFlags := 26, nameIndex := 1116, descriptorIndex := 1117, attributes := #[] }, { accessFlags := 24, nameIndex := 40, descriptorIndex := 26, attributes := #[] }, { accessFlags := 26, nameIndex := 1101, descriptorIndex := 1102, attributes := #[] }, { accessFlags := 26, nameIndex := 1121, descriptorIndex := 1122, attributes := #[] }, { accessFlags := 25, nameIndex := 599, descriptorIndex := 600, attributes := #[] }, { accessFlags := 24, nameIndex := 1125, descriptorIndex := 18, attributes := #[] }, { accessFlags := 24, nameIndex := 1127, descriptorIndex := 18, attributes := #[] }])
  fields := #[{ name := "value", type := (.array .byte), accessFlags := 18, slot := 0, constantValue := 0 }, { name := "coder", type := .byte, accessFlags := 18, slot := 1, constantValue := 0 }, { name := "hash", type := .int, accessFlags := 2, slot := 2, constantValue := 0 }, { name := "hashIsZero", type := .boolean, accessFlags := 2, slot := 3, constantValue := 0 }, { name := "serialVersionUID", type := .long, accessFlags := 26, slot := 0, constantValue := 0 }, { name := "COMPACT_STRINGS", type := .boolean, accessFlags := 24, slot := 1, constantValue := 0 }, { name := "serialPersistentFields", type := (.array (.object "java/io/ObjectStreamField")), accessFlags := 26, slot := 2, constantValue := 0 }, { name := "REPL", type := .char, accessFlags := 26, slot := 3, constantValue := 0 }, { name := "CASE_INSENSITIVE_ORDER", type := (.object "java/util/Comparator"), accessFlags := 25, slot := 4, constantValue := 0 }, { name := "LATIN1", type := .byte, accessFlags := 24, slot := 5, constantValue := 0 }, { name := "UTF16", type := .byte, accessFlags := 24, slot := 6, constantValue := 0 }]
  methods := #[k7m0, k7m1, k7m2, k7m3]
  instanceTypes := #[(.array .byte), .byte, .int, .boolean]
  staticTypes := #[.long, .boolean, (.array (.object "java/io/ObjectStreamField")), .char, (.object "java/util/Comparator"), .byte, .byte]
  resolved := Array.replicate 1451 none
  statics := some 0 }

def pool8 : Array CpInfo := pool [(8, .class_ 10), (1, u "java/lang/Iterable"), (24, .class_ 36), (0, u "java/lang/Object")] 25

/-- java/lang/Iterable -/
def k8 : Class := { plain "java/lang/Iterable" (some 0) with
  accessFlags := 1537
  interfaces := #[]
  cf := some (fileOf pool8 8 #[] #[] 1537 35 #[] #[])
  fields := #[]
  methods := #[]
  instanceTypes := #[]
  staticTypes := #[]
  resolved := Array.replicate 62 none
  statics := none }

def pool9 : Array CpInfo := pool [(10, .class_ 12), (1, u "java/util/Collection"), (0, u "toArray"), (16, u "()Z"), (29, .class_ 61), (0, u "java/lang/Object"), (0, .class_ 63), (0, u "java/lang/Iterable"), (2, u "isEmpty"), (3, u "()[Ljava/lang/Object;")] 44

def k9m0 : Method := { name := "isEmpty", desc := "()Z", sig := { parameters := [], returnType := some .boolean }, accessFlags := 1025, code := none }
def k9m1 : Method := { name := "toArray", desc := "()[Ljava/lang/Object;", sig := { parameters := [], returnType := some (.array (.object "java/lang/Object")) }, accessFlags := 1025, code := none }
/-- java/util/Collection -/
def k9 : Class := { plain "java/util/Collection" (some 0) with
  accessFlags := 1537
  interfaces := #[8]
  cf := some (fileOf pool9 10 #[] #[{ accessFlags := 1025, nameIndex := 66, descriptorIndex := 30, attributes := #[] }, { accessFlags := 1025, nameIndex := 13, descriptorIndex := 70, attributes := #[] }] 1537 60 #[62] #[])
  fields := #[]
  methods := #[k9m0, k9m1]
  instanceTypes := #[]
  staticTypes := #[]
  resolved := Array.replicate 115 none
  statics := none }

def pool10 : Array CpInfo := pool [(1, .methodref 2 3), (0, .class_ 4), (0, .nameAndType 5 6), (0, u "java/lang/Object"), (0, u "<init>"), (0, u "()V"), (1, .class_ 10), (1, u "java/util/AbstractCollection"), (66, .class_ 78), (0, u "java/util/Collection")] 81

def k10c0 : Code := { maxStack := 1, maxLocals := 1, code := jdk_22_method_1_code, exceptionTable := #[], attributes := #[] }
def k10m0 : Method := { name := "<init>", desc := "()V", sig := { parameters := [], returnType := none }, accessFlags := 4, code := some k10c0 }
/-- java/util/AbstractCollection -/
def k10 : Class := { plain "java/util/AbstractCollection" (some 0) with
  accessFlags := 1057
  interfaces := #[9]
  cf := some (fileOf pool10 8 #[] #[{ accessFlags := 4, nameIndex := 5, descriptorIndex := 6, attributes := #[] }] 1057 2 #[77] #[])
  fields := #[]
  methods := #[k10m0]
  instanceTypes := #[]
  staticTypes := #[]
  resolved := Array.replicate 160 none
  statics := none }

def pool11 : Array CpInfo := pool [(8, .class_ 10), (1, u "java/util/SequencedCollection"), (15, .class_ 27), (0, u "java/lang/Object"), (0, .class_ 29), (0, u "java/util/Collection")] 27

/-- java/util/SequencedCollection -/
def k11 : Class := { plain "java/util/SequencedCollection" (some 0) with
  accessFlags := 1537
  interfaces := #[9]
  cf := some (fileOf pool11 8 #[] #[] 1537 26 #[28] #[])
  fields := #[]
  methods := #[]
  instanceTypes := #[]
  staticTypes := #[]
  resolved := Array.replicate 57 none
  statics := none }

def pool12 : Array CpInfo := pool [(8, .class_ 10), (1, u "java/util/List"), (20, u "(Ljava/lang/Object;)V"), (16, u "<init>"), (11, u "add"), (3, u "(Ljava/lang/Object;)Z"), (10, u "get"), (0, u "(I)Ljava/lang/Object;"), (2, u "size"), (0, u "()I"), (7, u "of"), (2, .class_ 93), (1, u "java/util/ImmutableCollections"), (2, .class_ 97), (0, u "java/util/ImmutableCollections$List12"), (0, .methodref 96 99), (0, .nameAndType 48 31), (0, .methodref 96 101), (0, .nameAndType 48 102), (0, u "(Ljava/lang/Object;Ljava/lang/Object;)V"), (0, .class_ 104), (0, u "java/lang/Object"), (3, u "([Ljava/lang/Object;)Ljava/util/List;"), (0, .methodref 91 110), (0, .nameAndType 111 108), (0, u "listFromArray"), (0, .methodref 91 113), (0, .nameAndType 114 115), (0, u "listCopy"), (0, u "(Ljava/util/Collection;)Ljava/util/List;"), (4, .class_ 121), (0, u "java/util/SequencedCollection"), (112, u "copyOf")] 16

def k12m0 : Method := { name := "size", desc := "()I", sig := { parameters := [], returnType := some .int }, accessFlags := 1025, code := none }
def k12m1 : Method := { name := "add", desc := "(Ljava/lang/Object;)Z", sig := { parameters := [(.object "java/lang/Object")], returnType := some .boolean }, accessFlags := 1025, code := none }
def k12m2 : Method := { name := "get", desc := "(I)Ljava/lang/Object;", sig := { parameters := [.int], returnType := some (.object "java/lang/Object") }, accessFlags := 1025, code := none }
def k12c3 : Code := { maxStack := 5, maxLocals := 2, code := jdk_40_method_47_code, exceptionTable := #[], attributes := #[] }
def k12m3 : Method := { name := "of", desc := "([Ljava/lang/Object;)Ljava/util/List;", sig := { parameters := [(.array (.object "java/lang/Object"))], returnType := some (.object "java/util/List") }, accessFlags := 137, code := some k12c3 }
def k12c4 : Code := { maxStack := 1, maxLocals := 1, code := jdk_40_method_48_code, exceptionTable := #[], attributes := #[] }
def k12m4 : Method := { name := "copyOf", desc := "(Ljava/util/Collection;)Ljava/util/List;", sig := { parameters := [(.object "java/util/Collection")], returnType := some (.object "java/util/List") }, accessFlags := 9, code := some k12c4 }
/-- java/util/List -/
def k12 : Class := { plain "java/util/List" (some 0) with
  accessFlags := 1537
  interfaces := #[11]
  cf := some (fileOf pool12 8 #[] #[{ accessFlags := 1025, nameIndex := 79, descriptorIndex := 80, attributes := #[] }, { accessFlags := 1025, nameIndex := 60, descriptorIndex := 64, attributes := #[] }, { accessFlags := 1025, nameIndex := 75, descriptorIndex := 76, attributes := #[] }, { accessFlags := 137, nameIndex := 88, descriptorIndex := 108, attributes := #[] }, { accessFlags := 9, nameIndex := 234, descriptorIndex := 115, attributes := #[] }] 1537 103 #[120] #[])
  fields := #[]
  methods := #[k12m0, k12m1, k12m2, k12m3, k12m4]
  instanceTypes := #[]
  staticTypes := #[]
  resolved := Array.replicate 251 none
  statics := none }

def pool13 : Array CpInfo := pool [(1, .methodref 2 3), (0, .class_ 4), (0, .nameAndType 5 6), (0, u "java/util/AbstractCollection"), (0, u "<init>"), (0, u "()V"), (0, .fieldref 8 9), (0, .class_ 10), (0, .nameAndType 11 12), (0, u "java/util/AbstractList"), (0, u "modCount"), (0, u "I"), (64, .class_ 78), (0, u "java/util/AbstractList$Itr"), (3, .class_ 83), (0, u "java/util/AbstractList$ListItr"), (9, .class_ 94), (0, u "java/util/AbstractList$RandomAccessSubList"), (3, .class_ 99), (0, u "java/util/AbstractList$SubList"), (33, .class_ 134), (0, u "java/util/List"), (73, .class_ 209), (0, u "java/util/AbstractList$SubList$1"), (0, .class_ 211), (0, u "java/util/AbstractList$RandomAccessSpliterator")] 6

def k13c0 : Code := { maxStack := 2, maxLocals := 1, code := jdk_39_method_1_code, exceptionTable := #[], attributes := #[] }
def k13m0 : Method := { name := "<init>", desc := "()V", sig := { parameters := [], returnType := none }, accessFlags := 4, code := some k13c0 }
/-- java/util/AbstractList -/
def k13 : Class := { plain "java/util/AbstractList" (some 10) with
  accessFlags := 1057
  interfaces := #[12]
  cf := some (fileOf pool13 8 #[.nestMembers #[93, 98, 208, 210, 82, 77]] #[{ accessFlags := 4, nameIndex := 5, descriptorIndex := 6, attributes := #[] }] 1057 2 #[133] #[{ accessFlags := 132, nameIndex := 11, descriptorIndex := 12, attributes := #[] }])
  fields := #[{ name := "modCount", type := .int, accessFlags := 132, slot := 0, constantValue := 0 }]
  methods := #[k13m0]
  instanceTypes := #[.int]
  staticTypes := #[]
  resolved := Array.replicate 218 none
  statics := none }

def pool14 : Array CpInfo := pool [(1, .class_ 2), (0, u "java/util/RandomAccess"), (0, .class_ 4), (0, u "java/lang/Object")] 2

/-- java/util/RandomAccess -/
def k14 : Class := { plain "java/util/RandomAccess" (some 0) with
  accessFlags := 1537
  interfaces := #[]
  cf := some (fileOf pool14 1 #[] #[] 1537 3 #[] #[])
  fields := #[]
  methods := #[]
  instanceTypes := #[]
  staticTypes := #[]
  resolved := Array.replicate 7 none
  statics := none }

def pool15 : Array CpInfo := pool [(1, .class_ 2), (0, u "java/lang/Cloneable"), (0, .class_ 4), (0, u "java/lang/Object")] 2

/-- java/lang/Cloneable -/
def k15 : Class := { plain "java/lang/Cloneable" (some 0) with
  accessFlags := 1537
  interfaces := #[]
  cf := some (fileOf pool15 1 #[] #[] 1537 3 #[] #[])
  fields := #[]
  methods := #[]
  instanceTypes := #[]
  staticTypes := #[]
  resolved := Array.replicate 7 none
  statics := none }

def pool16 : Array CpInfo := pool [(1, .methodref 2 3), (0, .class_ 4), (0, .nameAndType 5 6), (0, u "java/util/AbstractList"), (0, u "<init>"), (0, u "()V"), (0, .class_ 8), (0, u "java/lang/Object"), (0, .fieldref 10 11), (0, .class_ 12), (0, .nameAndType 13 14), (0, u "java/util/ArrayList"), (0, u "elementData"), (0, u "[Ljava/lang/Object;"), (2, u "EMPTY_ELEMENTDATA"), (21, .fieldref 10 40), (0, .nameAndType 41 14), (0, u "DEFAULTCAPACITY_EMPTY_ELEMENTDATA"), (4, u "toArray"), (0, u "()[Ljava/lang/Object;"), (0, .fieldref 10 49), (0, .nameAndType 50 51), (0, u "size"), (0, u "I"), (6, .class_ 60), (1, u "java/util/Arrays"), (0, u "copyOf"), (1, .fieldref 10 64), (0, .nameAndType 65 51), (0, u "modCount"), (0, .methodref 58 67), (0, .nameAndType 61 68), (0, u "([Ljava/lang/Object;I)[Ljava/lang/Object;"), (0, .methodref 10 70), (0, .nameAndType 71 72), (0, u "grow"), (0, u "(I)[Ljava/lang/Object;"), (6, .methodref 80 81), (0, .class_ 82), (0, .nameAndType 83 84), (0, u "java/lang/Math"), (0, u "max"), (0, u "(II)I"), (11, u "(Ljava/lang/Object;)Z"), (32, .methodref 10 130), (0, .nameAndType 71 47), (0, .methodref 10 132), (0, .nameAndType 133 134), (0, u "add"), (0, u "(Ljava/lang/Object;[Ljava/lang/Object;I)V"), (13, .class_ 149), (0, u "java/util/List"), (23, u "()Z"), (12, u "()I"), (75, .class_ 263), (0, u "java/util/ArrayList$ListItr"), (3, .class_ 268), (0, u "java/util/ArrayList$Itr"), (7, .class_ 277), (0, u "java/util/ArrayList$SubList"), (12, .class_ 291), (0, u "java/util/ArrayList$ArrayListSpliterator"), (37, .class_ 330), (0, u "java/util/RandomAccess"), (0, .class_ 332), (0, u "java/lang/Cloneable"), (0, .class_ 334), (0, u "java/io/Serializable"), (0, u "serialVersionUID"), (0, u "J"), (3, u "DEFAULT_CAPACITY"), (22, u "isEmpty"), (136, .class_ 501), (0, u "java/util/ArrayList$SubList$2"), (0, .class_ 503), (0, u "java/util/ArrayList$SubList$1")] 5

def k16c0 : Code := { maxStack := 2, maxLocals := 1, code := jdk_38_method_2_code, exceptionTable := #[], attributes := #[] }
def k16m0 : Method := { name := "<init>", desc := "()V", sig := { parameters := [], returnType := none }, accessFlags := 1, code := some k16c0 }
def k16c1 : Code := { maxStack := 4, maxLocals := 4, code := jdk_38_method_6_code, exceptionTable := #[], attributes := #[] }
def k16m1 : Method := { name := "grow", desc := "(I)[Ljava/lang/Object;", sig := { parameters := [.int], returnType := some (.array (.object "java/lang/Object")) }, accessFlags := 2, code := some k16c1 }
def k16c2 : Code := { maxStack := 3, maxLocals := 1, code := jdk_38_method_7_code, exceptionTable := #[], attributes := #[] }
def k16m2 : Method := { name := "grow", desc := "()[Ljava/lang/Object;", sig := { parameters := [], returnType := some (.array (.object "java/lang/Object")) }, accessFlags := 2, code := some k16c2 }
def k16c3 : Code := { maxStack := 1, maxLocals := 1, code := jdk_38_method_8_code, exceptionTable := #[], attributes := #[] }
def k16m3 : Method := { name := "size", desc := "()I", sig := { parameters := [], returnType := some .int }, accessFlags := 1, code := some k16c3 }
def k16c4 : Code := { maxStack := 1, maxLocals := 1, code := jdk_38_method_9_code, exceptionTable := #[], attributes := #[] }
def k16m4 : Method := { name := "isEmpty", desc := "()Z", sig := { parameters := [], returnType := some .boolean }, accessFlags := 1, code := some k16c4 }
def k16c5 : Code := { maxStack := 2, maxLocals := 1, code := jdk_38_method_16_code, exceptionTable := #[], attributes := #[] }
def k16m5 : Method := { name := "toArray", desc := "()[Ljava/lang/Object;", sig := { parameters := [], returnType := some (.array (.object "java/lang/Object")) }, accessFlags := 1, code := some k16c5 }
def k16c6 : Code := { maxStack := 3, maxLocals := 4, code := jdk_38_method_24_code, exceptionTable := #[], attributes := #[] }
def k16m6 : Method := { name := "add", desc := "(Ljava/lang/Object;[Ljava/lang/Object;I)V", sig := { parameters := [(.object "java/lang/Object"), (.array (.object "java/lang/Object")), .int], returnType := none }, accessFlags := 2, code := some k16c6 }
def k16c7 : Code := { maxStack := 4, maxLocals := 2, code := jdk_38_method_25_code, exceptionTable := #[], attributes := #[] }
def k16m7 : Method := { name := "add", desc := "(Ljava/lang/Object;)Z", sig := { parameters := [(.object "java/lang/Object")], returnType := some .boolean }, accessFlags := 1, code := some k16c7 }
/-- java/util/ArrayList -/
def k16 : Class := { plain "java/util/ArrayList" (some 13) with
  accessFlags := 33
  interfaces := #[12, 14, 15, 2]
  cf := some (fileOf pool16 10 #[.nestMembers #[290, 276, 500, 502, 262, 267]] #[{ accessFlags := 1, nameIndex := 5, descriptorIndex := 6, attributes := #[] }, { accessFlags := 2, nameIndex := 71, descriptorIndex := 72, attributes := #[] }, { accessFlags := 2, nameIndex := 71, descriptorIndex := 47, attributes := #[] }, { accessFlags := 1, nameIndex := 50, descriptorIndex := 186, attributes := #[] }, { accessFlags := 1, nameIndex := 363, descriptorIndex := 173, attributes := #[] }, { accessFlags := 1, nameIndex := 46, descriptorIndex := 47, attributes := #[] }, { accessFlags := 2, nameIndex := 133, descriptorIndex := 134, attributes := #[] }, { accessFlags := 1, nameIndex := 133, descriptorIndex := 96, attributes := #[] }] 33 2 #[148, 329, 331, 333] #[{ accessFlags := 26, nameIndex := 335, descriptorIndex := 336, attributes := #[] }, { accessFlags := 26, nameIndex := 340, descriptorIndex := 51, attributes := #[] }, { accessFlags := 26, nameIndex := 17, descriptorIndex := 14, attributes := #[] }, { accessFlags := 26, nameIndex := 41, descriptorIndex := 14, attributes := #[] }, { accessFlags := 128, nameIndex := 13, descriptorIndex := 14, attributes := #[] }, { accessFlags := 2, nameIndex := 50, descriptorIndex := 51, attributes := #[] }])
  fields := #[{ name := "serialVersionUID", type := .long, accessFlags := 26, slot := 0, constantValue := 0 }, { name := "DEFAULT_CAPACITY", type := .int, accessFlags := 26, slot := 1, constantValue := 0 }, { name := "EMPTY_ELEMENTDATA", type := (.array (.object "java/lang/Object")), accessFlags := 26, slot := 2, constantValue := 0 }, { name := "DEFAULTCAPACITY_EMPTY_ELEMENTDATA", type := (.array (.object "java/lang/Object")), accessFlags := 26, slot := 3, constantValue := 0 }, { name := "elementData", type := (.array (.object "java/lang/Object")), accessFlags := 128, slot := 1, constantValue := 0 }, { name := "size", type := .int, accessFlags := 2, slot := 2, constantValue := 0 }]
  methods := #[k16m0, k16m1, k16m2, k16m3, k16m4, k16m5, k16m6, k16m7]
  instanceTypes := #[.int, (.array (.object "java/lang/Object")), .int]
  staticTypes := #[.long, .int, (.array (.object "java/lang/Object")), (.array (.object "java/lang/Object"))]
  resolved := Array.replicate 509 none
  statics := some 1 }

def pool17 : Array CpInfo := pool [(1, .class_ 2), (0, u "java/lang/Math"), (1, .class_ 6), (1, u "java/lang/Object"), (0, u "<init>"), (0, u "()V"), (89, .class_ 100), (1, u "java/lang/Math$RandomNumberGeneratorHolder"), (71, u "negativeZeroFloatBits"), (0, u "J"), (2, u "negativeZeroDoubleBits"), (21, u "max"), (2, u "min"), (43, u "$assertionsDisabled"), (0, u "Z"), (88, u "(II)I"), (2, u "twoToTheDoubleScaleDown"), (0, u "D"), (4, u "twoToTheDoubleScaleUp"), (9, u "E"), (3, u "PI"), (2, u "TAU"), (2, u "DEGREES_TO_RADIANS"), (0, u "RADIANS_TO_DEGREES")] 94

def k17m0 : Method := { name := "<init>", desc := "()V", sig := { parameters := [], returnType := none }, accessFlags := 2, code := none }
def k17c1 : Code := { maxStack := 2, maxLocals := 2, code := jdk_29_method_65_code, exceptionTable := #[], attributes := #[] }
def k17m1 : Method := { name := "max", desc := "(II)I", sig := { parameters := [.int, .int], returnType := some .int }, accessFlags := 9, code := some k17c1 }
def k17c2 : Code := { maxStack := 2, maxLocals := 2, code := jdk_29_method_69_code, exceptionTable := #[], attributes := #[] }
def k17m2 : Method := { name := "min", desc := "(II)I", sig := { parameters := [.int, .int], returnType := some .int }, accessFlags := 9, code := some k17c2 }
/-- java/lang/Math -/
def k17 : Class := { plain "java/lang/Math" (some 0) with
  accessFlags := 49
  interfaces := #[]
  cf := some (fileOf pool17 1 #[.nestMembers #[98]] #[{ accessFlags := 2, nameIndex := 7, descriptorIndex := 8, attributes := #[] }, { accessFlags := 9, nameIndex := 198, descriptorIndex := 335, attributes := #[] }, { accessFlags := 9, nameIndex := 201, descriptorIndex := 335, attributes := #[] }] 49 4 #[] #[{ accessFlags := 25, nameIndex := 354, descriptorIndex := 339, attributes := #[] }, { accessFlags := 25, nameIndex := 358, descriptorIndex := 339, attributes := #[] }, { accessFlags := 25, nameIndex := 361, descriptorIndex := 339, attributes := #[] }, { accessFlags := 26, nameIndex := 364, descriptorIndex := 339, attributes := #[] }, { accessFlags := 26, nameIndex := 365, descriptorIndex := 339, attributes := #[] }, { accessFlags := 26, nameIndex := 172, descriptorIndex := 173, attributes := #[] }, { accessFlags := 26, nameIndex := 176, descriptorIndex := 173, attributes := #[] }, { accessFlags := 8, nameIndex := 344, descriptorIndex := 339, attributes := #[] }, { accessFlags := 8, nameIndex := 338, descriptorIndex := 339, attributes := #[] }, { accessFlags := 4120, nameIndex := 245, descriptorIndex := 246, attributes := #[] }])
  fields := #[{ name := "E", type := .double, accessFlags := 25, slot := 0, constantValue := 0 }, { name := "PI", type := .double, accessFlags := 25, slot := 1, constantValue := 0 }, { name := "TAU", type := .double, accessFlags := 25, slot := 2, constantValue := 0 }, { name := "DEGREES_TO_RADIANS", type := .double, accessFlags := 26, slot := 3, constantValue := 0 }, { name := "RADIANS_TO_DEGREES", type := .double, accessFlags := 26, slot := 4, constantValue := 0 }, { name := "negativeZeroFloatBits", type := .long, accessFlags := 26, slot := 5, constantValue := 0 }, { name := "negativeZeroDoubleBits", type := .long, accessFlags := 26, slot := 6, constantValue := 0 }, { name := "twoToTheDoubleScaleUp", type := .double, accessFlags := 8, slot := 7, constantValue := 0 }, { name := "twoToTheDoubleScaleDown", type := .double, accessFlags := 8, slot := 8, constantValue := 0 }, { name := "$assertionsDisabled", type := .boolean, accessFlags := 4120, slot := 9, constantValue := 0 }]
  methods := #[k17m0, k17m1, k17m2]
  instanceTypes := #[]
  staticTypes := #[.double, .double, .double, .double, .double, .long, .long, .double, .double, .boolean]
  resolved := Array.replicate 460 none
  statics := none }

def pool18 : Array CpInfo := pool [(2, .class_ 4), (1, u "java/lang/Enum"), (0, u "name"), (0, u "Ljava/lang/String;"), (2, u "ordinal"), (0, u "I"), (1, .class_ 14), (1, u "java/lang/Object"), (4, u "hash"), (86, .class_ 108), (1, u "java/lang/Enum$EnumDesc"), (2, .class_ 112), (0, u "java/lang/constant/Constable"), (0, .class_ 114), (0, u "java/lang/Comparable"), (0, .class_ 116), (0, u "java/io/Serializable")] 87

/-- java/lang/Enum -/
def k18 : Class := { plain "java/lang/Enum" (some 0) with
  accessFlags := 1057
  interfaces := #[5, 3, 2]
  cf := some (fileOf pool18 2 #[.nestMembers #[106]] #[] 1057 12 #[111, 113, 115] #[{ accessFlags := 18, nameIndex := 5, descriptorIndex := 6, attributes := #[] }, { accessFlags := 18, nameIndex := 9, descriptorIndex := 10, attributes := #[] }, { accessFlags := 2, nameIndex := 19, descriptorIndex := 10, attributes := #[] }])
  fields := #[{ name := "name", type := (.object "java/lang/String"), accessFlags := 18, slot := 0, constantValue := 0 }, { name := "ordinal", type := .int, accessFlags := 18, slot := 1, constantValue := 0 }, { name := "hash", type := .int, accessFlags := 2, slot := 2, constantValue := 0 }]
  methods := #[]
  instanceTypes := #[(.object "java/lang/String"), .int, .int]
  staticTypes := #[]
  resolved := Array.replicate 204 none
  statics := none }

def pool19 : Array CpInfo := pool [(1, .class_ 2), (0, u "com/example/rights_leak_checker/rightsleakchecker/takegrant/Bridge$Letter"), (2, u "TAKE_OUT"), (0, u "Lcom/example/rights_leak_checker/rightsleakchecker/takegrant/Bridge$Letter;"), (2, u "TAKE_IN"), (2, u "GRANT_OUT"), (2, u "GRANT_IN"), (2, u "$VALUES"), (0, u "[Lcom/example/rights_leak_checker/rightsleakchecker/takegrant/Bridge$Letter;"), (6, .class_ 28), (1, u "java/lang/Enum"), (8, u "right"), (0, u "Ljava/lang/String;"), (37, .class_ 77), (0, u "com/example/rights_leak_checker/rightsleakchecker/takegrant/Bridge")] 7

/-- com/example/rights_leak_checker/rightsleakchecker/takegrant/Bridge$Letter -/
def k19 : Class := { plain "com/example/rights_leak_checker/rightsleakchecker/takegrant/Bridge$Letter" (some 18) with
  accessFlags := 16432
  interfaces := #[]
  cf := some (fileOf pool19 1 #[.nestHost 76] #[] 16432 26 #[] #[{ accessFlags := 16409, nameIndex := 5, descriptorIndex := 6, attributes := #[] }, { accessFlags := 16409, nameIndex := 9, descriptorIndex := 6, attributes := #[] }, { accessFlags := 16409, nameIndex := 12, descriptorIndex := 6, attributes := #[] }, { accessFlags := 16409, nameIndex := 15, descriptorIndex := 6, attributes := #[] }, { accessFlags := 18, nameIndex := 37, descriptorIndex := 38, attributes := #[] }, { accessFlags := 4122, nameIndex := 18, descriptorIndex := 19, attributes := #[] }])
  fields := #[{ name := "TAKE_OUT", type := (.object "com/example/rights_leak_checker/rightsleakchecker/takegrant/Bridge$Letter"), accessFlags := 16409, slot := 0, constantValue := 0 }, { name := "TAKE_IN", type := (.object "com/example/rights_leak_checker/rightsleakchecker/takegrant/Bridge$Letter"), accessFlags := 16409, slot := 1, constantValue := 0 }, { name := "GRANT_OUT", type := (.object "com/example/rights_leak_checker/rightsleakchecker/takegrant/Bridge$Letter"), accessFlags := 16409, slot := 2, constantValue := 0 }, { name := "GRANT_IN", type := (.object "com/example/rights_leak_checker/rightsleakchecker/takegrant/Bridge$Letter"), accessFlags := 16409, slot := 3, constantValue := 0 }, { name := "right", type := (.object "java/lang/String"), accessFlags := 18, slot := 3, constantValue := 0 }, { name := "$VALUES", type := (.array (.object "com/example/rights_leak_checker/rightsleakchecker/takegrant/Bridge$Letter")), accessFlags := 4122, slot := 4, constantValue := 0 }]
  methods := #[]
  instanceTypes := #[(.object "java/lang/String"), .int, .int, (.object "java/lang/String")]
  staticTypes := #[(.object "com/example/rights_leak_checker/rightsleakchecker/takegrant/Bridge$Letter"), (.object "com/example/rights_leak_checker/rightsleakchecker/takegrant/Bridge$Letter"), (.object "com/example/rights_leak_checker/rightsleakchecker/takegrant/Bridge$Letter"), (.object "com/example/rights_leak_checker/rightsleakchecker/takegrant/Bridge$Letter"), (.array (.object "com/example/rights_leak_checker/rightsleakchecker/takegrant/Bridge$Letter"))]
  resolved := Array.replicate 85 none
  statics := some 2 }

def pool20 : Array CpInfo := pool [(1, .methodref 2 3), (0, .class_ 4), (0, .nameAndType 5 6), (0, u "java/lang/Object"), (0, u "<init>"), (0, u "()V"), (0, .interfaceMethodref 8 9), (0, .class_ 10), (0, .nameAndType 11 12), (0, u "java/util/List"), (0, u "size"), (0, u "()I"), (9, .interfaceMethodref 8 23), (0, .nameAndType 24 25), (0, u "copyOf"), (0, u "(Ljava/util/Collection;)Ljava/util/List;"), (0, .fieldref 27 28), (0, .class_ 29), (0, .nameAndType 30 31), (0, u "com/example/rights_leak_checker/rightsleakchecker/takegrant/Bridge"), (0, u "walk"), (0, u "Ljava/util/List;"), (0, .fieldref 27 33), (0, .nameAndType 34 31), (0, u "letters"), (0, .interfaceMethodref 8 36), (0, .nameAndType 37 38), (0, u "get"), (0, u "(I)Ljava/lang/Object;"), (0, .class_ 40), (0, u "java/lang/String"), (3, u "(Ljava/util/List;Ljava/util/List;)V"), (4, u "from"), (0, u "()Ljava/lang/String;"), (7, .class_ 59), (0, u "com/example/rights_leak_checker/rightsleakchecker/takegrant/Bridge$Letter")] 16

def k20c0 : Code := { maxStack := 3, maxLocals := 3, code := prog_42_method_1_code, exceptionTable := #[], attributes := #[] }
def k20m0 : Method := { name := "<init>", desc := "(Ljava/util/List;Ljava/util/List;)V", sig := { parameters := [(.object "java/util/List"), (.object "java/util/List")], returnType := none }, accessFlags := 0, code := some k20c0 }
def k20c1 : Code := { maxStack := 2, maxLocals := 1, code := prog_42_method_2_code, exceptionTable := #[], attributes := #[] }
def k20m1 : Method := { name := "from", desc := "()Ljava/lang/String;", sig := { parameters := [], returnType := some (.object "java/lang/String") }, accessFlags := 0, code := some k20c1 }
/-- com/example/rights_leak_checker/rightsleakchecker/takegrant/Bridge -/
def k20 : Class := { plain "com/example/rights_leak_checker/rightsleakchecker/takegrant/Bridge" (some 0) with
  accessFlags := 48
  interfaces := #[]
  cf := some (fileOf pool20 27 #[.nestMembers #[58]] #[{ accessFlags := 0, nameIndex := 5, descriptorIndex := 44, attributes := #[] }, { accessFlags := 0, nameIndex := 49, descriptorIndex := 50, attributes := #[] }] 48 2 #[] #[{ accessFlags := 18, nameIndex := 30, descriptorIndex := 31, attributes := #[] }, { accessFlags := 18, nameIndex := 34, descriptorIndex := 31, attributes := #[] }])
  fields := #[{ name := "walk", type := (.object "java/util/List"), accessFlags := 18, slot := 0, constantValue := 0 }, { name := "letters", type := (.object "java/util/List"), accessFlags := 18, slot := 1, constantValue := 0 }]
  methods := #[k20m0, k20m1]
  instanceTypes := #[(.object "java/util/List"), (.object "java/util/List")]
  staticTypes := #[]
  resolved := Array.replicate 76 none
  statics := none }

def pool21 : Array CpInfo := pool [(2, .class_ 4), (1, u "java/lang/Object"), (0, u "<init>"), (0, u "()V"), (3, .class_ 11), (0, u "java/util/ImmutableCollections$List12"), (0, .class_ 13), (0, u "java/util/ImmutableCollections$ListN"), (3, u "Z"), (0, .class_ 19), (0, u "java/util/List"), (0, .interfaceMethodref 21 22), (0, .class_ 23), (0, .nameAndType 24 25), (0, u "java/util/Collection"), (0, u "isEmpty"), (0, u "()Z"), (2, u "of"), (1, .interfaceMethodref 21 31), (0, .nameAndType 32 33), (0, u "toArray"), (0, u "()[Ljava/lang/Object;"), (0, .interfaceMethodref 18 35), (0, .nameAndType 28 36), (0, u "([Ljava/lang/Object;)Ljava/util/List;"), (0, .methodref 38 39), (0, .class_ 40), (0, .nameAndType 41 42), (0, u "java/util/Objects"), (0, u "requireNonNull"), (0, u "(Ljava/lang/Object;)Ljava/lang/Object;"), (0, .methodref 12 44), (0, .nameAndType 5 45), (0, u "([Ljava/lang/Object;Z)V"), (1, .class_ 49), (1, u "java/util/ImmutableCollections"), (0, u "$assertionsDisabled"), (5, u "[Ljava/lang/Object;"), (5, u "EMPTY_LIST"), (0, u "Ljava/util/ImmutableCollections$ListN;"), (8, u "EMPTY_LIST_NULLS"), (22, u "SALT32L"), (0, u "J"), (2, u "REVERSE"), (6, u "archivedObjects"), (2, u "EMPTY"), (0, u "Ljava/lang/Object;"), (0, .class_ 112), (0, u "java/util/ImmutableCollections$SetN"), (5, u "EMPTY_SET"), (0, u "Ljava/util/ImmutableCollections$SetN;"), (0, .class_ 121), (0, u "java/util/ImmutableCollections$MapN"), (3, u "EMPTY_MAP"), (0, u "Ljava/util/ImmutableCollections$MapN;"), (4, u "EXPAND_FACTOR"), (0, u "I"), (9, u "listCopy"), (0, u "(Ljava/util/Collection;)Ljava/util/List;"), (7, u "listFromArray"), (17, .class_ 170), (0, u "java/util/ImmutableCollections$MapN$MapNIterator"), (0, .class_ 172), (0, u "java/util/ImmutableCollections$MapN$1"), (0, .class_ 174), (0, u "java/util/ImmutableCollections$Map1"), (0, .class_ 176), (0, u "java/util/ImmutableCollections$AbstractImmutableMap"), (0, .class_ 178), (0, u "java/util/ImmutableCollections$SetN$SetNIterator"), (0, .class_ 180), (0, u "java/util/ImmutableCollections$Set12"), (0, .class_ 182), (0, u "java/util/ImmutableCollections$Set12$1"), (0, .class_ 184), (0, u "java/util/ImmutableCollections$AbstractImmutableSet"), (0, .class_ 186), (0, u "java/util/ImmutableCollections$SubList"), (0, .class_ 188), (0, u "java/util/ImmutableCollections$ListItr"), (0, .class_ 190), (0, u "java/util/ImmutableCollections$AbstractImmutableList"), (0, .class_ 192), (0, u "java/util/ImmutableCollections$AbstractImmutableCollection"), (0, .class_ 194), (0, u "java/util/ImmutableCollections$Access"), (0, .class_ 196), (0, u "java/util/ImmutableCollections$Access$1")] 16

def k21m0 : Method := { name := "<init>", desc := "()V", sig := { parameters := [], returnType := none }, accessFlags := 2, code := none }
def k21c1 : Code := { maxStack := 1, maxLocals := 2, code := jdk_56_method_3_code, exceptionTable := #[], attributes := #[] }
def k21m1 : Method := { name := "listCopy", desc := "(Ljava/util/Collection;)Ljava/util/List;", sig := { parameters := [(.object "java/util/Collection")], returnType := some (.object "java/util/List") }, accessFlags := 8, code := some k21c1 }
def k21c2 : Code := { maxStack := 4, maxLocals := 3, code := jdk_56_method_4_code, exceptionTable := #[], attributes := #[] }
def k21m2 : Method := { name := "listFromArray", desc := "([Ljava/lang/Object;)Ljava/util/List;", sig := { parameters := [(.array (.object "java/lang/Object"))], returnType := some (.object "java/util/List") }, accessFlags := 136, code := some k21c2 }
/-- java/util/ImmutableCollections -/
def k21 : Class := { plain "java/util/ImmutableCollections" (some 0) with
  accessFlags := 32
  interfaces := #[]
  cf := some (fileOf pool21 47 #[.nestMembers #[120, 169, 171, 173, 175, 111, 177, 179, 181, 183, 12, 10, 185, 187, 189, 191, 193, 195]] #[{ accessFlags := 2, nameIndex := 5, descriptorIndex := 6, attributes := #[] }, { accessFlags := 8, nameIndex := 142, descriptorIndex := 143, attributes := #[] }, { accessFlags := 136, nameIndex := 151, descriptorIndex := 36, attributes := #[] }] 32 2 #[] #[{ accessFlags := 26, nameIndex := 95, descriptorIndex := 96, attributes := #[] }, { accessFlags := 26, nameIndex := 99, descriptorIndex := 17, attributes := #[] }, { accessFlags := 10, nameIndex := 106, descriptorIndex := 56, attributes := #[] }, { accessFlags := 26, nameIndex := 109, descriptorIndex := 110, attributes := #[] }, { accessFlags := 24, nameIndex := 62, descriptorIndex := 63, attributes := #[] }, { accessFlags := 24, nameIndex := 72, descriptorIndex := 63, attributes := #[] }, { accessFlags := 24, nameIndex := 118, descriptorIndex := 119, attributes := #[] }, { accessFlags := 24, nameIndex := 125, descriptorIndex := 126, attributes := #[] }, { accessFlags := 24, nameIndex := 131, descriptorIndex := 132, attributes := #[] }, { accessFlags := 4120, nameIndex := 50, descriptorIndex := 17, attributes := #[] }])
  fields := #[{ name := "SALT32L", type := .long, accessFlags := 26, slot := 0, constantValue := 0 }, { name := "REVERSE", type := .boolean, accessFlags := 26, slot := 1, constantValue := 0 }, { name := "archivedObjects", type := (.array (.object "java/lang/Object")), accessFlags := 10, slot := 2, constantValue := 0 }, { name := "EMPTY", type := (.object "java/lang/Object"), accessFlags := 26, slot := 3, constantValue := 0 }, { name := "EMPTY_LIST", type := (.object "java/util/ImmutableCollections$ListN"), accessFlags := 24, slot := 4, constantValue := 0 }, { name := "EMPTY_LIST_NULLS", type := (.object "java/util/ImmutableCollections$ListN"), accessFlags := 24, slot := 5, constantValue := 0 }, { name := "EMPTY_SET", type := (.object "java/util/ImmutableCollections$SetN"), accessFlags := 24, slot := 6, constantValue := 0 }, { name := "EMPTY_MAP", type := (.object "java/util/ImmutableCollections$MapN"), accessFlags := 24, slot := 7, constantValue := 0 }, { name := "EXPAND_FACTOR", type := .int, accessFlags := 24, slot := 8, constantValue := 0 }, { name := "$assertionsDisabled", type := .boolean, accessFlags := 4120, slot := 9, constantValue := 0 }]
  methods := #[k21m0, k21m1, k21m2]
  instanceTypes := #[]
  staticTypes := #[.long, .boolean, (.array (.object "java/lang/Object")), (.object "java/lang/Object"), (.object "java/util/ImmutableCollections$ListN"), (.object "java/util/ImmutableCollections$ListN"), (.object "java/util/ImmutableCollections$SetN"), (.object "java/util/ImmutableCollections$MapN"), .int, .boolean]
  resolved := Array.replicate 213 none
  statics := some 3 }

def pool22 : Array CpInfo := pool [(1, .methodref 2 3), (0, .class_ 4), (0, .nameAndType 5 6), (0, u "java/util/AbstractCollection"), (0, u "<init>"), (0, u "()V"), (1, .class_ 10), (1, u "java/util/ImmutableCollections"), (2, .class_ 14), (0, u "java/util/ImmutableCollections$AbstractImmutableCollection")] 41

def k22c0 : Code := { maxStack := 1, maxLocals := 1, code := jdk_47_method_1_code, exceptionTable := #[], attributes := #[] }
def k22m0 : Method := { name := "<init>", desc := "()V", sig := { parameters := [], returnType := none }, accessFlags := 0, code := some k22c0 }
/-- java/util/ImmutableCollections$AbstractImmutableCollection -/
def k22 : Class := { plain "java/util/ImmutableCollections$AbstractImmutableCollection" (some 10) with
  accessFlags := 1056
  interfaces := #[]
  cf := some (fileOf pool22 13 #[.nestHost 8] #[{ accessFlags := 0, nameIndex := 5, descriptorIndex := 6, attributes := #[] }] 1056 2 #[] #[])
  fields := #[]
  methods := #[k22m0]
  instanceTypes := #[]
  staticTypes := #[]
  resolved := Array.replicate 56 none
  statics := none }

def pool23 : Array CpInfo := pool [(1, .methodref 2 3), (0, .class_ 4), (0, .nameAndType 5 6), (0, u "java/util/ImmutableCollections$AbstractImmutableCollection"), (0, u "<init>"), (0, u "()V"), (1, .class_ 10), (1, u "java/util/ImmutableCollections"), (3, .class_ 16), (1, u "java/util/ImmutableCollections$AbstractImmutableList"), (60, .class_ 78), (0, u "java/util/List"), (45, .class_ 125), (0, u "java/util/RandomAccess")] 70

def k23c0 : Code := { maxStack := 1, maxLocals := 1, code := jdk_46_method_1_code, exceptionTable := #[], attributes := #[] }
def k23m0 : Method := { name := "<init>", desc := "()V", sig := { parameters := [], returnType := none }, accessFlags := 0, code := some k23c0 }
/-- java/util/ImmutableCollections$AbstractImmutableList -/
def k23 : Class := { plain "java/util/ImmutableCollections$AbstractImmutableList" (some 22) with
  accessFlags := 1056
  interfaces := #[12, 14]
  cf := some (fileOf pool23 14 #[.nestHost 8] #[{ accessFlags := 0, nameIndex := 5, descriptorIndex := 6, attributes := #[] }] 1056 2 #[77, 124] #[])
  fields := #[]
  methods := #[k23m0]
  instanceTypes := #[]
  staticTypes := #[]
  resolved := Array.replicate 196 none
  statics := none }

def pool24 : Array CpInfo := pool [(1, .methodref 2 3), (0, .class_ 4), (0, .nameAndType 5 6), (0, u "java/util/ImmutableCollections$AbstractImmutableList"), (0, u "<init>"), (0, u "()V"), (0, .methodref 8 9), (0, .class_ 10), (0, .nameAndType 11 12), (0, u "java/util/Objects"), (0, u "requireNonNull"), (0, u "(Ljava/lang/Object;)Ljava/lang/Object;"), (0, .fieldref 14 15), (0, .class_ 16), (0, .nameAndType 17 18), (0, u "java/util/ImmutableCollections$List12"), (0, u "e0"), (0, u "Ljava/lang/Object;"), (0, .fieldref 20 21), (0, .class_ 22), (0, .nameAndType 23 18), (0, u "java/util/ImmutableCollections"), (0, u "EMPTY"), (0, .fieldref 14 25), (0, .nameAndType 26 18), (0, u "e1"), (43, .class_ 71), (0, u "java/io/Serializable"), (4, u "(Ljava/lang/Object;)V"), (8, u "(Ljava/lang/Object;Ljava/lang/Object;)V"), (4, u "get"), (0, u "(I)Ljava/lang/Object;")] 33

def k24c0 : Code := { maxStack := 2, maxLocals := 2, code := jdk_44_method_1_code, exceptionTable := #[], attributes := #[] }
def k24m0 : Method := { name := "<init>", desc := "(Ljava/lang/Object;)V", sig := { parameters := [(.object "java/lang/Object")], returnType := none }, accessFlags := 0, code := some k24c0 }
def k24c1 : Code := { maxStack := 2, maxLocals := 3, code := jdk_44_method_2_code, exceptionTable := #[], attributes := #[] }
def k24m1 : Method := { name := "<init>", desc := "(Ljava/lang/Object;Ljava/lang/Object;)V", sig := { parameters := [(.object "java/lang/Object"), (.object "java/lang/Object")], returnType := none }, accessFlags := 0, code := some k24c1 }
def k24c2 : Code := { maxStack := 2, maxLocals := 2, code := jdk_44_method_5_code, exceptionTable := #[], attributes := #[] }
def k24m2 : Method := { name := "get", desc := "(I)Ljava/lang/Object;", sig := { parameters := [.int], returnType := some (.object "java/lang/Object") }, accessFlags := 1, code := some k24c2 }
/-- java/util/ImmutableCollections$List12 -/
def k24 : Class := { plain "java/util/ImmutableCollections$List12" (some 23) with
  accessFlags := 48
  interfaces := #[2]
  cf := some (fileOf pool24 14 #[.nestHost 20] #[{ accessFlags := 0, nameIndex := 5, descriptorIndex := 76, attributes := #[] }, { accessFlags := 0, nameIndex := 5, descriptorIndex := 85, attributes := #[] }, { accessFlags := 1, nameIndex := 90, descriptorIndex := 91, attributes := #[] }] 48 2 #[70] #[{ accessFlags := 18, nameIndex := 17, descriptorIndex := 18, attributes := #[] }, { accessFlags := 18, nameIndex := 26, descriptorIndex := 18, attributes := #[] }])
  fields := #[{ name := "e0", type := (.object "java/lang/Object"), accessFlags := 18, slot := 0, constantValue := 0 }, { name := "e1", type := (.object "java/lang/Object"), accessFlags := 18, slot := 1, constantValue := 0 }]
  methods := #[k24m0, k24m1, k24m2]
  instanceTypes := #[(.object "java/lang/Object"), (.object "java/lang/Object")]
  staticTypes := #[]
  resolved := Array.replicate 125 none
  statics := none }

def pool25 : Array CpInfo := pool [(1, .methodref 2 3), (0, .class_ 4), (0, .nameAndType 5 6), (0, u "java/util/ImmutableCollections$AbstractImmutableList"), (0, u "<init>"), (0, u "()V"), (0, .fieldref 8 9), (0, .class_ 10), (0, .nameAndType 11 12), (0, u "java/util/ImmutableCollections$ListN"), (0, u "elements"), (0, u "[Ljava/lang/Object;"), (0, .fieldref 8 14), (0, .nameAndType 15 16), (0, u "allowNulls"), (0, u "Z"), (42, .class_ 60), (0, u "java/io/Serializable"), (4, u "([Ljava/lang/Object;Z)V"), (13, u "get"), (0, u "(I)Ljava/lang/Object;"), (33, .class_ 115), (0, u "java/util/ImmutableCollections")] 3

def k25c0 : Code := { maxStack := 2, maxLocals := 3, code := jdk_45_method_1_code, exceptionTable := #[], attributes := #[] }
def k25m0 : Method := { name := "<init>", desc := "([Ljava/lang/Object;Z)V", sig := { parameters := [(.array (.object "java/lang/Object")), .boolean], returnType := none }, accessFlags := 2, code := some k25c0 }
def k25c1 : Code := { maxStack := 2, maxLocals := 2, code := jdk_45_method_4_code, exceptionTable := #[], attributes := #[] }
def k25m1 : Method := { name := "get", desc := "(I)Ljava/lang/Object;", sig := { parameters := [.int], returnType := some (.object "java/lang/Object") }, accessFlags := 1, code := some k25c1 }
/-- java/util/ImmutableCollections$ListN -/
def k25 : Class := { plain "java/util/ImmutableCollections$ListN" (some 23) with
  accessFlags := 48
  interfaces := #[2]
  cf := some (fileOf pool25 8 #[.nestHost 114] #[{ accessFlags := 2, nameIndex := 5, descriptorIndex := 65, attributes := #[] }, { accessFlags := 1, nameIndex := 79, descriptorIndex := 80, attributes := #[] }] 48 2 #[59] #[{ accessFlags := 18, nameIndex := 11, descriptorIndex := 12, attributes := #[] }, { accessFlags := 18, nameIndex := 15, descriptorIndex := 16, attributes := #[] }])
  fields := #[{ name := "elements", type := (.array (.object "java/lang/Object")), accessFlags := 18, slot := 0, constantValue := 0 }, { name := "allowNulls", type := .boolean, accessFlags := 18, slot := 1, constantValue := 0 }]
  methods := #[k25m0, k25m1]
  instanceTypes := #[(.array (.object "java/lang/Object")), .boolean]
  staticTypes := #[]
  resolved := Array.replicate 119 none
  statics := none }

def pool26 : Array CpInfo := pool [(2, .class_ 4), (1, u "java/lang/Object"), (0, u "<init>"), (0, u "()V"), (7, .class_ 16), (1, u "java/util/Arrays"), (57, .class_ 76), (1, u "java/util/Arrays$NaturalOrder"), (9, .methodref 2 87), (0, .nameAndType 88 89), (0, u "getClass"), (0, u "()Ljava/lang/Class;"), (20, .class_ 111), (0, u "[Ljava/lang/Object;"), (1, .class_ 115), (1, u "java/util/Arrays$LegacyMergeSort"), (1, u "Z"), (32, .methodref 151 152), (0, .class_ 153), (0, .nameAndType 154 155), (0, u "java/lang/System"), (0, u "arraycopy"), (0, u "(Ljava/lang/Object;ILjava/lang/Object;II)V"), (144, .methodref 14 301), (0, .nameAndType 302 303), (0, u "copyOf"), (0, u "([Ljava/lang/Object;ILjava/lang/Class;)[Ljava/lang/Object;"), (0, .methodref 305 306), (0, .class_ 307), (0, .nameAndType 308 309), (0, u "java/lang/Math"), (0, u "min"), (0, u "(II)I"), (65, .class_ 376), (0, u "java/util/Arrays$ArrayList"), (68, u "$assertionsDisabled"), (269, u "MIN_ARRAY_SORT_GRAN"), (0, u "I"), (2, u "INSERTIONSORT_THRESHOLD"), (140, u "([Ljava/lang/Object;I)[Ljava/lang/Object;"), (114, .class_ 976), (0, u "java/util/Arrays$ArrayItr")] 52

def k26m0 : Method := { name := "<init>", desc := "()V", sig := { parameters := [], returnType := none }, accessFlags := 2, code := none }
def k26c1 : Code := { maxStack := 3, maxLocals := 2, code := jdk_65_method_119_code, exceptionTable := #[], attributes := #[] }
def k26m1 : Method := { name := "copyOf", desc := "([Ljava/lang/Object;I)[Ljava/lang/Object;", sig := { parameters := [(.array (.object "java/lang/Object")), .int], returnType := some (.array (.object "java/lang/Object")) }, accessFlags := 9, code := some k26c1 }
def k26c2 : Code := { maxStack := 6, maxLocals := 4, code := jdk_65_method_120_code, exceptionTable := #[], attributes := #[] }
def k26m2 : Method := { name := "copyOf", desc := "([Ljava/lang/Object;ILjava/lang/Class;)[Ljava/lang/Object;", sig := { parameters := [(.array (.object "java/lang/Object")), .int, (.object "java/lang/Class")], returnType := some (.array (.object "java/lang/Object")) }, accessFlags := 9, code := some k26c2 }
/-- java/util/Arrays -/
def k26 : Class := { plain "java/util/Arrays" (some 0) with
  accessFlags := 49
  interfaces := #[]
  cf := some (fileOf pool26 14 #[.nestMembers #[975, 375, 113, 74]] #[{ accessFlags := 2, nameIndex := 5, descriptorIndex := 6, attributes := #[] }, { accessFlags := 9, nameIndex := 302, descriptorIndex := 860, attributes := #[] }, { accessFlags := 9, nameIndex := 302, descriptorIndex := 303, attributes := #[] }] 49 2 #[] #[{ accessFlags := 26, nameIndex := 715, descriptorIndex := 716, attributes := #[] }, { accessFlags := 26, nameIndex := 719, descriptorIndex := 716, attributes := #[] }, { accessFlags := 4120, nameIndex := 445, descriptorIndex := 117, attributes := #[] }])
  fields := #[{ name := "MIN_ARRAY_SORT_GRAN", type := .int, accessFlags := 26, slot := 0, constantValue := 0 }, { name := "INSERTIONSORT_THRESHOLD", type := .int, accessFlags := 26, slot := 1, constantValue := 0 }, { name := "$assertionsDisabled", type := .boolean, accessFlags := 4120, slot := 2, constantValue := 0 }]
  methods := #[k26m0, k26m1, k26m2]
  instanceTypes := #[]
  staticTypes := #[.int, .int, .boolean]
  resolved := Array.replicate 1029 none
  statics := none }

def pool27 : Array CpInfo := pool [(2, .class_ 4), (1, u "java/lang/Object"), (0, u "<init>"), (0, u "()V"), (1, .class_ 10), (1, u "java/lang/System"), (0, u "allowSecurityManager"), (0, u "I"), (16, u "cons"), (0, u "Ljava/io/Console;"), (77, .class_ 110), (1, u "java/lang/System$CallersHolder"), (43, u "initialErrStream"), (0, u "Ljava/io/PrintStream;"), (19, u "security"), (0, u "Ljava/lang/SecurityManager;"), (31, .class_ 209), (0, u "java/lang/System$1"), (7, u "props"), (0, u "Ljava/util/Properties;"), (2, u "lineSeparator"), (0, u "Ljava/lang/String;"), (96, .class_ 321), (1, u "java/lang/System$LoggerFinder"), (5, .class_ 328), (0, u "java/lang/System$Logger"), (67, u "err"), (2, u "out"), (91, u "notSupportedJnuEncoding"), (15, u "in"), (17, u "initialIn"), (0, u "Ljava/io/InputStream;"), (35, u "bootLayer"), (0, u "Ljava/lang/ModuleLayer;"), (99, .class_ 664), (0, u "java/lang/System$2"), (9, u "NEVER"), (2, u "MAYBE"), (49, u "arraycopy"), (0, u "(Ljava/lang/Object;ILjava/lang/Object;II)V"), (72, .class_ 802), (0, u "java/lang/System$Logger$Level")] 31

def k27m0 : Method := { name := "<init>", desc := "()V", sig := { parameters := [], returnType := none }, accessFlags := 2, code := none }
def k27m1 : Method := { name := "arraycopy", desc := "(Ljava/lang/Object;ILjava/lang/Object;II)V", sig := { parameters := [(.object "java/lang/Object"), .int, (.object "java/lang/Object"), .int, .int], returnType := none }, accessFlags := 265, code := none }
/-- java/lang/System -/
def k27 : Class := { plain "java/lang/System" (some 0) with
  accessFlags := 49
  interfaces := #[]
  cf := some (fileOf pool27 8 #[.nestMembers #[319, 327, 801, 108, 663, 208]] #[{ accessFlags := 2, nameIndex := 5, descriptorIndex := 6, attributes := #[] }, { accessFlags := 265, nameIndex := 727, descriptorIndex := 728, attributes := #[] }] 49 2 #[] #[{ accessFlags := 25, nameIndex := 507, descriptorIndex := 526, attributes := #[] }, { accessFlags := 25, nameIndex := 399, descriptorIndex := 155, attributes := #[] }, { accessFlags := 25, nameIndex := 396, descriptorIndex := 155, attributes := #[] }, { accessFlags := 10, nameIndex := 525, descriptorIndex := 526, attributes := #[] }, { accessFlags := 26, nameIndex := 674, descriptorIndex := 12, attributes := #[] }, { accessFlags := 26, nameIndex := 677, descriptorIndex := 12, attributes := #[] }, { accessFlags := 10, nameIndex := 11, descriptorIndex := 12, attributes := #[] }, { accessFlags := 74, nameIndex := 175, descriptorIndex := 176, attributes := #[] }, { accessFlags := 10, nameIndex := 491, descriptorIndex := 222, attributes := #[] }, { accessFlags := 74, nameIndex := 29, descriptorIndex := 30, attributes := #[] }, { accessFlags := 74, nameIndex := 154, descriptorIndex := 155, attributes := #[] }, { accessFlags := 10, nameIndex := 217, descriptorIndex := 218, attributes := #[] }, { accessFlags := 10, nameIndex := 221, descriptorIndex := 222, attributes := #[] }, { accessFlags := 8, nameIndex := 562, descriptorIndex := 563, attributes := #[] }])
  fields := #[{ name := "in", type := (.object "java/io/InputStream"), accessFlags := 25, slot := 0, constantValue := 0 }, { name := "out", type := (.object "java/io/PrintStream"), accessFlags := 25, slot := 1, constantValue := 0 }, { name := "err", type := (.object "java/io/PrintStream"), accessFlags := 25, slot := 2, constantValue := 0 }, { name := "initialIn", type := (.object "java/io/InputStream"), accessFlags := 10, slot := 3, constantValue := 0 }, { name := "NEVER", type := .int, accessFlags := 26, slot := 4, constantValue := 0 }, { name := "MAYBE", type := .int, accessFlags := 26, slot := 5, constantValue := 0 }, { name := "allowSecurityManager", type := .int, accessFlags := 10, slot := 6, constantValue := 0 }, { name := "security", type := (.object "java/lang/SecurityManager"), accessFlags := 74, slot := 7, constantValue := 0 }, { name := "notSupportedJnuEncoding", type := (.object "java/lang/String"), accessFlags := 10, slot := 8, constantValue := 0 }, { name := "cons", type := (.object "java/io/Console"), accessFlags := 74, slot := 9, constantValue := 0 }, { name := "initialErrStream", type := (.object "java/io/PrintStream"), accessFlags := 74, slot := 10, constantValue := 0 }, { name := "props", type := (.object "java/util/Properties"), accessFlags := 10, slot := 11, constantValue := 0 }, { name := "lineSeparator", type := (.object "java/lang/String"), accessFlags := 10, slot := 12, constantValue := 0 }, { name := "bootLayer", type := (.object "java/lang/ModuleLayer"), accessFlags := 8, slot := 13, constantValue := 0 }]
  methods := #[k27m0, k27m1]
  instanceTypes := #[]
  staticTypes := #[(.object "java/io/InputStream"), (.object "java/io/PrintStream"), (.object "java/io/PrintStream"), (.object "java/io/InputStream"), .int, .int, .int, (.object "java/lang/SecurityManager"), (.object "java/lang/String"), (.object "java/io/Console"), (.object "java/io/PrintStream"), (.object "java/util/Properties"), (.object "java/lang/String"), (.object "java/lang/ModuleLayer")]
  resolved := Array.replicate 834 none
  statics := none }

def pool28 : Array CpInfo := pool [(2, .class_ 4), (1, u "java/lang/Object"), (0, u "<init>"), (0, u "()V"), (35, .class_ 44), (1, u "java/util/Objects"), (0, u "requireNonNull"), (0, u "(Ljava/lang/Object;)Ljava/lang/Object;")] 137

def k28m0 : Method := { name := "<init>", desc := "()V", sig := { parameters := [], returnType := none }, accessFlags := 2, code := none }
def k28c1 : Code := { maxStack := 2, maxLocals := 1, code := jdk_31_method_10_code, exceptionTable := #[], attributes := #[] }
def k28m1 : Method := { name := "requireNonNull", desc := "(Ljava/lang/Object;)Ljava/lang/Object;", sig := { parameters := [(.object "java/lang/Object")], returnType := some (.object "java/lang/Object") }, accessFlags := 9, code := some k28c1 }
/-- java/util/Objects -/
def k28 : Class := { plain "java/util/Objects" (some 0) with
  accessFlags := 49
  interfaces := #[]
  cf := some (fileOf pool28 42 #[] #[{ accessFlags := 2, nameIndex := 5, descriptorIndex := 6, attributes := #[] }, { accessFlags := 9, nameIndex := 45, descriptorIndex := 46, attributes := #[] }] 49 2 #[] #[])
  fields := #[]
  methods := #[k28m0, k28m1]
  instanceTypes := #[]
  staticTypes := #[]
  resolved := Array.replicate 184 none
  statics := none }

def pool29 : Array CpInfo := pool [(6, .class_ 8), (1, u "java/lang/Object"), (0, u "<init>"), (0, u "()V"), (1, .class_ 14), (1, u "java/lang/StringUTF16"), (31, u "$assertionsDisabled"), (0, u "Z"), (13, u "HI_BYTE_SHIFT"), (0, u "I"), (2, u "LO_BYTE_SHIFT"), (49, .methodref 12 116), (0, .nameAndType 117 118), (0, u "compress"), (0, u "([CI[BII)I"), (3, u "([CII)[B"), (138, u "coderFromArrayLen"), (0, u "([BI)B"), (106, .class_ 371), (1, u "java/lang/StringUTF16$LinesSpliterator"), (58, u "MAX_LENGTH"), (196, .class_ 628), (0, u "java/lang/StringUTF16$CodePointsSpliterator"), (0, .class_ 630), (0, u "java/lang/StringUTF16$CharsSpliterator")] 4

def k29m0 : Method := { name := "<init>", desc := "()V", sig := { parameters := [], returnType := none }, accessFlags := 0, code := none }
def k29c1 : Code := { maxStack := 2, maxLocals := 2, code := jdk_52_method_15_code, exceptionTable := #[], attributes := #[] }
def k29m1 : Method := { name := "coderFromArrayLen", desc := "([BI)B", sig := { parameters := [(.array .byte), .int], returnType := some .byte }, accessFlags := 8, code := some k29c1 }
def k29c2 : Code := { maxStack := 5, maxLocals := 6, code := jdk_52_method_16_code, exceptionTable := #[], attributes := #[] }
def k29m2 : Method := { name := "compress", desc := "([CII)[B", sig := { parameters := [(.array .char), .int, .int], returnType := some (.array .byte) }, accessFlags := 9, code := some k29c2 }
def k29c3 : Code := { maxStack := 3, maxLocals := 7, code := jdk_52_method_21_code, exceptionTable := #[], attributes := #[] }
def k29m3 : Method := { name := "compress", desc := "([CI[BII)I", sig := { parameters := [(.array .char), .int, (.array .byte), .int, .int], returnType := some .int }, accessFlags := 9, code := some k29c3 }
/-- java/lang/StringUTF16 -/
def k29 : Class := { plain "java/lang/StringUTF16" (some 0) with
  accessFlags := 48
  interfaces := #[]
  cf := some (fileOf pool29 12 #[.nestMembers #[627, 629, 369]] #[{ accessFlags := 0, nameIndex := 9, descriptorIndex := 10, attributes := #[] }, { accessFlags := 8, nameIndex := 261, descriptorIndex := 262, attributes := #[] }, { accessFlags := 9, nameIndex := 117, descriptorIndex := 122, attributes := #[] }, { accessFlags := 9, nameIndex := 117, descriptorIndex := 118, attributes := #[] }] 48 6 #[] #[{ accessFlags := 26, nameIndex := 61, descriptorIndex := 62, attributes := #[] }, { accessFlags := 26, nameIndex := 65, descriptorIndex := 62, attributes := #[] }, { accessFlags := 24, nameIndex := 430, descriptorIndex := 62, attributes := #[] }, { accessFlags := 4120, nameIndex := 46, descriptorIndex := 47, attributes := #[] }])
  fields := #[{ name := "HI_BYTE_SHIFT", type := .int, accessFlags := 26, slot := 0, constantValue := 0 }, { name := "LO_BYTE_SHIFT", type := .int, accessFlags := 26, slot := 1, constantValue := 0 }, { name := "MAX_LENGTH", type := .int, accessFlags := 24, slot := 2, constantValue := 0 }, { name := "$assertionsDisabled", type := .boolean, accessFlags := 4120, slot := 3, constantValue := 0 }]
  methods := #[k29m0, k29m1, k29m2, k29m3]
  instanceTypes := #[]
  staticTypes := #[.int, .int, .int, .boolean]
  resolved := Array.replicate 635 none
  statics := none }

def pool30 : Array CpInfo := pool [(4, .class_ 6), (1, u "java/lang/Object"), (0, u "<init>"), (0, u "()V"), (5, .class_ 16), (1, u "java/lang/StringLatin1"), (104, u "$assertionsDisabled"), (0, u "Z"), (98, .class_ 223), (1, u "java/lang/StringLatin1$LinesSpliterator"), (166, .class_ 391), (0, u "java/lang/StringLatin1$CharsSpliterator")] 3

def k30m0 : Method := { name := "<init>", desc := "()V", sig := { parameters := [], returnType := none }, accessFlags := 0, code := none }
/-- java/lang/StringLatin1 -/
def k30 : Class := { plain "java/lang/StringLatin1" (some 0) with
  accessFlags := 48
  interfaces := #[]
  cf := some (fileOf pool30 14 #[.nestMembers #[390, 221]] #[{ accessFlags := 0, nameIndex := 7, descriptorIndex := 8, attributes := #[] }] 48 4 #[] #[{ accessFlags := 4120, nameIndex := 121, descriptorIndex := 122, attributes := #[] }])
  fields := #[{ name := "$assertionsDisabled", type := .boolean, accessFlags := 4120, slot := 0, constantValue := 0 }]
  methods := #[k30m0]
  instanceTypes := #[]
  staticTypes := #[.boolean]
  resolved := Array.replicate 395 none
  statics := none }

def pool31 : Array CpInfo := pool [(2, .class_ 4), (1, u "java/lang/Object"), (0, u "<init>"), (0, u "()V"), (17, .class_ 26), (1, u "jdk/internal/util/Preconditions"), (28, .class_ 56), (0, u "jdk/internal/util/Preconditions$4"), (57, .class_ 115), (0, u "jdk/internal/util/Preconditions$1"), (7, u "SIOOBE_FORMATTER"), (0, u "Ljava/util/function/BiFunction;"), (0, .class_ 126), (0, u "jdk/internal/util/Preconditions$2"), (3, u "AIOOBE_FORMATTER"), (0, .class_ 132), (0, u "jdk/internal/util/Preconditions$3"), (3, u "IOOBE_FORMATTER")] 57

def k31m0 : Method := { name := "<init>", desc := "()V", sig := { parameters := [], returnType := none }, accessFlags := 1, code := none }
/-- jdk/internal/util/Preconditions -/
def k31 : Class := { plain "jdk/internal/util/Preconditions" (some 0) with
  accessFlags := 33
  interfaces := #[]
  cf := some (fileOf pool31 24 #[.nestMembers #[55, 131, 125, 114]] #[{ accessFlags := 1, nameIndex := 5, descriptorIndex := 6, attributes := #[] }] 33 2 #[] #[{ accessFlags := 25, nameIndex := 123, descriptorIndex := 124, attributes := #[] }, { accessFlags := 25, nameIndex := 130, descriptorIndex := 124, attributes := #[] }, { accessFlags := 25, nameIndex := 136, descriptorIndex := 124, attributes := #[] }])
  fields := #[{ name := "SIOOBE_FORMATTER", type := (.object "java/util/function/BiFunction"), accessFlags := 25, slot := 0, constantValue := 0 }, { name := "AIOOBE_FORMATTER", type := (.object "java/util/function/BiFunction"), accessFlags := 25, slot := 1, constantValue := 0 }, { name := "IOOBE_FORMATTER", type := (.object "java/util/function/BiFunction"), accessFlags := 25, slot := 2, constantValue := 0 }]
  methods := #[k31m0]
  instanceTypes := #[]
  staticTypes := #[(.object "java/util/function/BiFunction"), (.object "java/util/function/BiFunction"), (.object "java/util/function/BiFunction")]
  resolved := Array.replicate 194 none
  statics := some 4 }

def pool32 : Array CpInfo := pool [(9, u "<init>"), (6, .class_ 18), (1, u "java/lang/Object"), (0, u "()V"), (1, .class_ 23), (1, u "jdk/internal/util/ArraysSupport"), (0, u "LOG2_ARRAY_LONG_INDEX_SCALE"), (0, u "I"), (2, u "U"), (0, u "Ljdk/internal/misc/Unsafe;"), (8, u "BIG_ENDIAN"), (0, u "Z"), (8, u "LOG2_BYTE_BIT_SIZE"), (4, u "LOG2_ARRAY_INT_INDEX_SCALE"), (54, u "JLA"), (0, u "Ljdk/internal/access/JavaLangAccess;"), (11, u "LOG2_ARRAY_BOOLEAN_INDEX_SCALE"), (9, u "LOG2_ARRAY_BYTE_INDEX_SCALE"), (5, u "LOG2_ARRAY_CHAR_INDEX_SCALE"), (5, u "LOG2_ARRAY_SHORT_INDEX_SCALE"), (18, u "LOG2_ARRAY_FLOAT_INDEX_SCALE"), (24, u "LOG2_ARRAY_DOUBLE_INDEX_SCALE"), (89, u "T_BOOLEAN"), (2, u "T_CHAR"), (1, u "T_FLOAT"), (1, u "T_DOUBLE"), (1, u "T_BYTE"), (1, u "T_SHORT"), (1, u "T_INT"), (1, u "T_LONG"), (1, u "SOFT_MAX_ARRAY_LENGTH")] 83

def k32m0 : Method := { name := "<init>", desc := "()V", sig := { parameters := [], returnType := none }, accessFlags := 2, code := none }
/-- jdk/internal/util/ArraysSupport -/
def k32 : Class := { plain "jdk/internal/util/ArraysSupport" (some 0) with
  accessFlags := 33
  interfaces := #[]
  cf := some (fileOf pool32 21 #[] #[{ accessFlags := 2, nameIndex := 9, descriptorIndex := 19, attributes := #[] }] 33 16 #[] #[{ accessFlags := 24, nameIndex := 28, descriptorIndex := 29, attributes := #[] }, { accessFlags := 26, nameIndex := 38, descriptorIndex := 39, attributes := #[] }, { accessFlags := 25, nameIndex := 121, descriptorIndex := 25, attributes := #[] }, { accessFlags := 25, nameIndex := 131, descriptorIndex := 25, attributes := #[] }, { accessFlags := 25, nameIndex := 137, descriptorIndex := 25, attributes := #[] }, { accessFlags := 25, nameIndex := 143, descriptorIndex := 25, attributes := #[] }, { accessFlags := 25, nameIndex := 53, descriptorIndex := 25, attributes := #[] }, { accessFlags := 25, nameIndex := 24, descriptorIndex := 25, attributes := #[] }, { accessFlags := 25, nameIndex := 162, descriptorIndex := 25, attributes := #[] }, { accessFlags := 25, nameIndex := 187, descriptorIndex := 25, attributes := #[] }, { accessFlags := 26, nameIndex := 48, descriptorIndex := 25, attributes := #[] }, { accessFlags := 25, nameIndex := 277, descriptorIndex := 25, attributes := #[] }, { accessFlags := 25, nameIndex := 280, descriptorIndex := 25, attributes := #[] }, { accessFlags := 25, nameIndex := 282, descriptorIndex := 25, attributes := #[] }, { accessFlags := 25, nameIndex := 284, descriptorIndex := 25, attributes := #[] }, { accessFlags := 25, nameIndex := 286, descriptorIndex := 25, attributes := #[] }, { accessFlags := 25, nameIndex := 288, descriptorIndex := 25, attributes := #[] }, { accessFlags := 25, nameIndex := 290, descriptorIndex := 25, attributes := #[] }, { accessFlags := 25, nameIndex := 292, descriptorIndex := 25, attributes := #[] }, { accessFlags := 26, nameIndex := 108, descriptorIndex := 109, attributes := #[] }, { accessFlags := 25, nameIndex := 294, descriptorIndex := 25, attributes := #[] }])
  fields := #[{ name := "U", type := (.object "jdk/internal/misc/Unsafe"), accessFlags := 24, slot := 0, constantValue := 0 }, { name := "BIG_ENDIAN", type := .boolean, accessFlags := 26, slot := 1, constantValue := 0 }, { name := "LOG2_ARRAY_BOOLEAN_INDEX_SCALE", type := .int, accessFlags := 25, slot := 2, constantValue := 0 }, { name := "LOG2_ARRAY_BYTE_INDEX_SCALE", type := .int, accessFlags := 25, slot := 3, constantValue := 0 }, { name := "LOG2_ARRAY_CHAR_INDEX_SCALE", type := .int, accessFlags := 25, slot := 4, constantValue := 0 }, { name := "LOG2_ARRAY_SHORT_INDEX_SCALE", type := .int, accessFlags := 25, slot := 5, constantValue := 0 }, { name := "LOG2_ARRAY_INT_INDEX_SCALE", type := .int, accessFlags := 25, slot := 6, constantValue := 0 }, { name := "LOG2_ARRAY_LONG_INDEX_SCALE", type := .int, accessFlags := 25, slot := 7, constantValue := 0 }, { name := "LOG2_ARRAY_FLOAT_INDEX_SCALE", type := .int, accessFlags := 25, slot := 8, constantValue := 0 }, { name := "LOG2_ARRAY_DOUBLE_INDEX_SCALE", type := .int, accessFlags := 25, slot := 9, constantValue := 0 }, { name := "LOG2_BYTE_BIT_SIZE", type := .int, accessFlags := 26, slot := 10, constantValue := 0 }, { name := "T_BOOLEAN", type := .int, accessFlags := 25, slot := 11, constantValue := 0 }, { name := "T_CHAR", type := .int, accessFlags := 25, slot := 12, constantValue := 0 }, { name := "T_FLOAT", type := .int, accessFlags := 25, slot := 13, constantValue := 0 }, { name := "T_DOUBLE", type := .int, accessFlags := 25, slot := 14, constantValue := 0 }, { name := "T_BYTE", type := .int, accessFlags := 25, slot := 15, constantValue := 0 }, { name := "T_SHORT", type := .int, accessFlags := 25, slot := 16, constantValue := 0 }, { name := "T_INT", type := .int, accessFlags := 25, slot := 17, constantValue := 0 }, { name := "T_LONG", type := .int, accessFlags := 25, slot := 18, constantValue := 0 }, { name := "JLA", type := (.object "jdk/internal/access/JavaLangAccess"), accessFlags := 26, slot := 19, constantValue := 0 }, { name := "SOFT_MAX_ARRAY_LENGTH", type := .int, accessFlags := 25, slot := 20, constantValue := 0 }]
  methods := #[k32m0]
  instanceTypes := #[]
  staticTypes := #[(.object "jdk/internal/misc/Unsafe"), .boolean, .int, .int, .int, .int, .int, .int, .int, .int, .int, .int, .int, .int, .int, .int, .int, .int, .int, (.object "jdk/internal/access/JavaLangAccess"), .int]
  resolved := Array.replicate 378 none
  statics := none }

/-- the primitive byte -/
def k33 : Class := { plain "byte" none with kind := .primitive 'B', accessFlags := 0x411 }
/-- [B -/
def k34 : Class := { plain "[B" (some 0) with kind := .array 33 .byte, interfaces := #[15, 2], accessFlags := 1041 }

/-- the primitive char -/
def k35 : Class := { plain "char" none with kind := .primitive 'C', accessFlags := 0x411 }
/-- [C -/
def k36 : Class := { plain "[C" (some 0) with kind := .array 35 .char, interfaces := #[15, 2], accessFlags := 1041 }

/-- the primitive int -/
def k37 : Class := { plain "int" none with kind := .primitive 'I', accessFlags := 0x411 }
/-- [I -/
def k38 : Class := { plain "[I" (some 0) with kind := .array 37 .int, interfaces := #[15, 2], accessFlags := 1041 }

/-- [Ljava/lang/Object; -/
def k39 : Class := { plain "[Ljava/lang/Object;" (some 0) with kind := .array 0 (.object "java/lang/Object"), interfaces := #[15, 2], accessFlags := 1041, mirror := some 5 }

def heap : Heap := #[{ cls := 7, slots := #[.long 0, .int 1, .null, .int 0, .null, .int 0, .int 0], vm := .statics 7 },
  { cls := 16, slots := #[.long 0, .int 0, .ref 7, .ref 8], vm := .statics 16 },
  { cls := 19, slots := #[.ref 6, .ref 6, .ref 6, .ref 6, .null], vm := .statics 19 },
  { cls := 21, slots := #[.long 0, .int 0, .null, .ref 9, .ref 10, .null, .null, .null, .int 0, .int 1], vm := .statics 21 },
  { cls := 31, slots := #[.null, .null, .null], vm := .statics 31 },
  { cls := 0, slots := #[], vm := .mirror 39 },
  { cls := 19, slots := #[.null, .int 0, .int 0, .null], vm := .none },
  { cls := 39, slots := #[], vm := .none },
  { cls := 39, slots := #[], vm := .none },
  { cls := 0, slots := #[], vm := .none },
  { cls := 25, slots := #[.null, .int 0], vm := .none }]
def classes : Array Class := #[k0, k1, k2, k3, k4, k5, k6, k7, k8, k9, k10, k11, k12, k13, k14, k15, k16, k17, k18, k19, k20, k21, k22, k23, k24, k25, k26, k27, k28, k29, k30, k31, k32, k33, k34, k35, k36, k37, k38, k39]
def interned : List (Array UInt16 × Addr) := []
def slotsUsed : Nat := 35
def theMethod : MethodId := ⟨1, 3⟩
def args0 : Array Value := #[.int 65536, .int 131073, .int 3, .int 1]
def aboutOver (below : List Frame) : State where
  vm := { classes := classes, interned := interned.toArray }
  heap := heap
  slotsUsed := slotsUsed
  threads := #[{ frames := .invoking theMethod args0 :: below }]
def below0 : List Frame := [.native { method := ⟨0, 0⟩, args := #[] }]
def about1 : State := aboutOver below0
def p0 : Program := .bare "" "" ""
def e0 : Env := launch0.env 0 0 0
theorem w_frames : about1.frames = Frame.invoking theMethod args0 :: below0 := rfl
set_option maxRecDepth 65536 in
theorem w_args : argsFit about1.vm theMethod args0 = true := by decide +kernel
set_option maxRecDepth 65536 in
theorem w_heap : heapFits about1 = true := by decide +kernel
set_option maxRecDepth 65536 in
theorem w_runnable : about1.curStatus? = some .runnable := by decide +kernel
set_option maxRecDepth 65536 in
theorem w_alone : about1.alone = true := by decide +kernel
set_option maxRecDepth 65536 in
theorem w_named : about1.methodNamed? x = some theMethod := by decide +kernel
set_option maxRecDepth 65536 in
theorem w_hears : about1.hears theMethod below0 = true := by decide +kernel
set_option maxRecDepth 65536 in
theorem w_ripe : about1.ripe theMethod args0 below0 = true := by decide +kernel
theorem w_running : about1.status = .running := rfl
set_option maxRecDepth 65536 in
theorem w_room : about1.hasRoom e0.platform room_1 = true :=
  launch0.hasRoom_least _ room_1 (by decide +kernel) (by decide +kernel) (by decide +kernel) (by decide +kernel) (by decide +kernel) (by decide +kernel)
theorem allAtoms_all (ts : List Jvm.Cond) (a : Array Jvm.Value) (st : Jvm.State) : (allAtoms ts).before a st = ts.all (fun c => c.before a st) := by
  induction ts with
  | nil => rfl
  | cons c t ih =>
    show (Jvm.Cond.and c (allAtoms t)).before a st = _
    rw [Jvm.Cond.before_and, ih, List.all_cons]
def words1 : List Jvm.Cond := Jvm.Cond.code x code maxLocals ret :: tables_1
/-- a 'code' word, met by the world's own term for the bytes: nothing is compared byte by byte -/
theorem code_word {y : MethodName} {bytes : ByteArray} {mx : Nat} {rt : Option FieldType} {a : Array Value} {s : State} {m : MethodId} {meth : Method} {c : Code} (h1 : s.methodNamed? y = some m) (h2 : s.vm.method? m = some meth) (h3 : meth.code = some c) (h4 : c.code = bytes)
    (h5 : (c.maxLocals == mx && c.exceptionTable.isEmpty && decide (c.maxStack ≤ mostOperands) && decide (meth.sig.returnType = rt) && !meth.locks && decide (parseMethodDescriptor y.desc = some meth.sig)) = true) : (Jvm.Cond.code y bytes mx rt).before a s = true := by
  simp only [Bool.and_eq_true, beq_iff_eq, Bool.not_eq_true', decide_eq_true_eq] at h5
  obtain ⟨⟨⟨⟨⟨g1, g2⟩, g3⟩, g4⟩, g5⟩, g6⟩ := h5
  simp [Cond.before, Cond.holds, Cond.value, h1, h2, h3, h4, g1, g2, g3, g4, g5, g6]
def isCode : Jvm.Cond → Bool
  | .code _ _ _ _ => true
  | _ => false
theorem all_split {L : List Jvm.Cond} {P : Jvm.Cond → Bool} (h1 : L.all (fun c => isCode c || P c) = true) (h2 : ∀ c ∈ L.filter isCode, P c = true) : L.all P = true := by
  refine List.all_eq_true.mpr fun c hc => ?_
  have h := List.all_eq_true.mp h1 c hc
  rcases Bool.eq_false_or_eq_true (isCode c) with hi | hi
  · exact h2 c (List.mem_filter.mpr ⟨hc, hi⟩)
  · simpa [hi] using h
set_option maxRecDepth 65536 in
theorem w_c0 : (Jvm.Cond.code x code maxLocals ret).before args0 about1 = true := code_word (m := ⟨1, 3⟩) (meth := k1m3) (c := k1c3) (by decide +kernel) rfl rfl rfl (by decide +kernel)
set_option maxRecDepth 65536 in
theorem w_c1 : (Jvm.Cond.code ({ cls := "com/example/rights_leak_checker/rightsleakchecker/takegrant/BridgeFromPinLaw", name := "str", desc := "(I)Ljava/lang/String;" } : Jvm.MethodName) method_2_code (5 : Nat) (Option.some (Jvm.ClassFile.FieldType.object "java/lang/String"))).before args0 about1 = true := code_word (m := ⟨1, 1⟩) (meth := k1m1) (c := k1c1) (by decide +kernel) rfl rfl rfl (by decide +kernel)
set_option maxRecDepth 65536 in
theorem w_c2 : (Jvm.Cond.code ({ cls := "java/lang/String", name := "<init>", desc := "([C)V" } : Jvm.MethodName) jdk_42_method_3_code (2 : Nat) (Option.none : Option Jvm.ClassFile.FieldType)).before args0 about1 = true := code_word (m := ⟨7, 1⟩) (meth := k7m1) (c := k7c1) (by decide +kernel) rfl rfl rfl (by decide +kernel)
set_option maxRecDepth 65536 in
theorem w_c3 : (Jvm.Cond.code ({ cls := "java/lang/String", name := "<init>", desc := "([CIILjava/lang/Void;)V" } : Jvm.MethodName) jdk_42_method_149_code (6 : Nat) (Option.none : Option Jvm.ClassFile.FieldType)).before args0 about1 = true := code_word (m := ⟨7, 3⟩) (meth := k7m3) (c := k7c3) (by decide +kernel) rfl rfl rfl (by decide +kernel)
set_option maxRecDepth 65536 in
theorem w_c4 : (Jvm.Cond.code ({ cls := "java/lang/Object", name := "<init>", desc := "()V" } : Jvm.MethodName) object_method_1_code (1 : Nat) (Option.none : Option Jvm.ClassFile.FieldType)).before args0 about1 = true := code_word (m := ⟨0, 0⟩) (meth := k0m0) (c := k0c0) (by decide +kernel) rfl rfl rfl (by decide +kernel)
set_option maxRecDepth 65536 in
theorem w_c5 : (Jvm.Cond.code ({ cls := "java/util/ArrayList", name := "<init>", desc := "()V" } : Jvm.MethodName) jdk_38_method_2_code (1 : Nat) (Option.none : Option Jvm.ClassFile.FieldType)).before args0 about1 = true := code_word (m := ⟨16, 0⟩) (meth := k16m0) (c := k16c0) (by decide +kernel) rfl rfl rfl (by decide +kernel)
set_option maxRecDepth 65536 in
theorem w_c6 : (Jvm.Cond.code ({ cls := "java/util/AbstractList", name := "<init>", desc := "()V" } : Jvm.MethodName) jdk_39_method_1_code (1 : Nat) (Option.none : Option Jvm.ClassFile.FieldType)).before args0 about1 = true := code_word (m := ⟨13, 0⟩) (meth := k13m0) (c := k13c0) (by decide +kernel) rfl rfl rfl (by decide +kernel)
set_option maxRecDepth 65536 in
theorem w_c7 : (Jvm.Cond.code ({ cls := "java/util/AbstractCollection", name := "<init>", desc := "()V" } : Jvm.MethodName) jdk_22_method_1_code (1 : Nat) (Option.none : Option Jvm.ClassFile.FieldType)).before args0 about1 = true := code_word (m := ⟨10, 0⟩) (meth := k10m0) (c := k10c0) (by decide +kernel) rfl rfl rfl (by decide +kernel)
set_option maxRecDepth 65536 in
theorem w_c8 : (Jvm.Cond.code ({ cls := "java/util/ArrayList", name := "add", desc := "(Ljava/lang/Object;)Z" } : Jvm.MethodName) jdk_38_method_25_code (2 : Nat) (Option.some Jvm.ClassFile.FieldType.boolean)).before args0 about1 = true := code_word (m := ⟨16, 7⟩) (meth := k16m7) (c := k16c7) (by decide +kernel) rfl rfl rfl (by decide +kernel)
set_option maxRecDepth 65536 in
theorem w_c9 : (Jvm.Cond.code ({ cls := "java/util/ArrayList", name := "add", desc := "(Ljava/lang/Object;[Ljava/lang/Object;I)V" } : Jvm.MethodName) jdk_38_method_24_code (4 : Nat) (Option.none : Option Jvm.ClassFile.FieldType)).before args0 about1 = true := code_word (m := ⟨16, 6⟩) (meth := k16m6) (c := k16c6) (by decide +kernel) rfl rfl rfl (by decide +kernel)
set_option maxRecDepth 65536 in
theorem w_c10 : (Jvm.Cond.code ({ cls := "java/util/ArrayList", name := "grow", desc := "()[Ljava/lang/Object;" } : Jvm.MethodName) jdk_38_method_7_code (1 : Nat) (Option.some (Jvm.ClassFile.FieldType.array (Jvm.ClassFile.FieldType.object "java/lang/Object")))).before args0 about1 = true := code_word (m := ⟨16, 2⟩) (meth := k16m2) (c := k16c2) (by decide +kernel) rfl rfl rfl (by decide +kernel)
set_option maxRecDepth 65536 in
theorem w_c11 : (Jvm.Cond.code ({ cls := "java/util/ArrayList", name := "grow", desc := "(I)[Ljava/lang/Object;" } : Jvm.MethodName) jdk_38_method_6_code (4 : Nat) (Option.some (Jvm.ClassFile.FieldType.array (Jvm.ClassFile.FieldType.object "java/lang/Object")))).before args0 about1 = true := code_word (m := ⟨16, 1⟩) (meth := k16m1) (c := k16c1) (by decide +kernel) rfl rfl rfl (by decide +kernel)
set_option maxRecDepth 65536 in
theorem w_c12 : (Jvm.Cond.code ({ cls := "java/lang/Math", name := "max", desc := "(II)I" } : Jvm.MethodName) jdk_29_method_65_code (2 : Nat) (Option.some Jvm.ClassFile.FieldType.int)).before args0 about1 = true := code_word (m := ⟨17, 1⟩) (meth := k17m1) (c := k17c1) (by decide +kernel) rfl rfl rfl (by decide +kernel)
set_option maxRecDepth 65536 in
theorem w_c13 : (Jvm.Cond.code ({ cls := "com/example/rights_leak_checker/rightsleakchecker/takegrant/BridgeFromPinLaw", name := "letter", desc := "(I)Lcom/example/rights_leak_checker/rightsleakchecker/takegrant/Bridge$Letter;" } : Jvm.MethodName) method_3_code (2 : Nat) (Option.some (Jvm.ClassFile.FieldType.object "com/example/rights_leak_checker/rightsleakchecker/takegrant/Bridge$Letter"))).before args0 about1 = true := code_word (m := ⟨1, 2⟩) (meth := k1m2) (c := k1c2) (by decide +kernel) rfl rfl rfl (by decide +kernel)
set_option maxRecDepth 65536 in
theorem w_c14 : (Jvm.Cond.code ({ cls := "com/example/rights_leak_checker/rightsleakchecker/takegrant/Bridge", name := "<init>", desc := "(Ljava/util/List;Ljava/util/List;)V" } : Jvm.MethodName) prog_42_method_1_code (3 : Nat) (Option.none : Option Jvm.ClassFile.FieldType)).before args0 about1 = true := code_word (m := ⟨20, 0⟩) (meth := k20m0) (c := k20c0) (by decide +kernel) rfl rfl rfl (by decide +kernel)
set_option maxRecDepth 65536 in
theorem w_c15 : (Jvm.Cond.code ({ cls := "java/util/ArrayList", name := "size", desc := "()I" } : Jvm.MethodName) jdk_38_method_8_code (1 : Nat) (Option.some Jvm.ClassFile.FieldType.int)).before args0 about1 = true := code_word (m := ⟨16, 3⟩) (meth := k16m3) (c := k16c3) (by decide +kernel) rfl rfl rfl (by decide +kernel)
set_option maxRecDepth 65536 in
theorem w_c16 : (Jvm.Cond.code ({ cls := "java/util/List", name := "copyOf", desc := "(Ljava/util/Collection;)Ljava/util/List;" } : Jvm.MethodName) jdk_40_method_48_code (1 : Nat) (Option.some (Jvm.ClassFile.FieldType.object "java/util/List"))).before args0 about1 = true := code_word (m := ⟨12, 4⟩) (meth := k12m4) (c := k12c4) (by decide +kernel) rfl rfl rfl (by decide +kernel)
set_option maxRecDepth 65536 in
theorem w_c17 : (Jvm.Cond.code ({ cls := "java/util/ImmutableCollections", name := "listCopy", desc := "(Ljava/util/Collection;)Ljava/util/List;" } : Jvm.MethodName) jdk_56_method_3_code (2 : Nat) (Option.some (Jvm.ClassFile.FieldType.object "java/util/List"))).before args0 about1 = true := code_word (m := ⟨21, 1⟩) (meth := k21m1) (c := k21c1) (by decide +kernel) rfl rfl rfl (by decide +kernel)
set_option maxRecDepth 65536 in
theorem w_c18 : (Jvm.Cond.code ({ cls := "java/util/ArrayList", name := "isEmpty", desc := "()Z" } : Jvm.MethodName) jdk_38_method_9_code (1 : Nat) (Option.some Jvm.ClassFile.FieldType.boolean)).before args0 about1 = true := code_word (m := ⟨16, 4⟩) (meth := k16m4) (c := k16c4) (by decide +kernel) rfl rfl rfl (by decide +kernel)
set_option maxRecDepth 65536 in
theorem w_c19 : (Jvm.Cond.code ({ cls := "java/util/ArrayList", name := "toArray", desc := "()[Ljava/lang/Object;" } : Jvm.MethodName) jdk_38_method_16_code (1 : Nat) (Option.some (Jvm.ClassFile.FieldType.array (Jvm.ClassFile.FieldType.object "java/lang/Object")))).before args0 about1 = true := code_word (m := ⟨16, 5⟩) (meth := k16m5) (c := k16c5) (by decide +kernel) rfl rfl rfl (by decide +kernel)
set_option maxRecDepth 65536 in
theorem w_c20 : (Jvm.Cond.code ({ cls := "java/util/Arrays", name := "copyOf", desc := "([Ljava/lang/Object;I)[Ljava/lang/Object;" } : Jvm.MethodName) jdk_65_method_119_code (2 : Nat) (Option.some (Jvm.ClassFile.FieldType.array (Jvm.ClassFile.FieldType.object "java/lang/Object")))).before args0 about1 = true := code_word (m := ⟨26, 1⟩) (meth := k26m1) (c := k26c1) (by decide +kernel) rfl rfl rfl (by decide +kernel)
set_option maxRecDepth 65536 in
theorem w_c21 : (Jvm.Cond.code ({ cls := "java/util/Arrays", name := "copyOf", desc := "([Ljava/lang/Object;ILjava/lang/Class;)[Ljava/lang/Object;" } : Jvm.MethodName) jdk_65_method_120_code (4 : Nat) (Option.some (Jvm.ClassFile.FieldType.array (Jvm.ClassFile.FieldType.object "java/lang/Object")))).before args0 about1 = true := code_word (m := ⟨26, 2⟩) (meth := k26m2) (c := k26c2) (by decide +kernel) rfl rfl rfl (by decide +kernel)
set_option maxRecDepth 65536 in
theorem w_c22 : (Jvm.Cond.code ({ cls := "java/lang/Math", name := "min", desc := "(II)I" } : Jvm.MethodName) jdk_29_method_69_code (2 : Nat) (Option.some Jvm.ClassFile.FieldType.int)).before args0 about1 = true := code_word (m := ⟨17, 2⟩) (meth := k17m2) (c := k17c2) (by decide +kernel) rfl rfl rfl (by decide +kernel)
set_option maxRecDepth 65536 in
theorem w_c23 : (Jvm.Cond.code ({ cls := "java/util/List", name := "of", desc := "([Ljava/lang/Object;)Ljava/util/List;" } : Jvm.MethodName) jdk_40_method_47_code (2 : Nat) (Option.some (Jvm.ClassFile.FieldType.object "java/util/List"))).before args0 about1 = true := code_word (m := ⟨12, 3⟩) (meth := k12m3) (c := k12c3) (by decide +kernel) rfl rfl rfl (by decide +kernel)
set_option maxRecDepth 65536 in
theorem w_c24 : (Jvm.Cond.code ({ cls := "java/util/ImmutableCollections", name := "listFromArray", desc := "([Ljava/lang/Object;)Ljava/util/List;" } : Jvm.MethodName) jdk_56_method_4_code (3 : Nat) (Option.some (Jvm.ClassFile.FieldType.object "java/util/List"))).before args0 about1 = true := code_word (m := ⟨21, 2⟩) (meth := k21m2) (c := k21c2) (by decide +kernel) rfl rfl rfl (by decide +kernel)
set_option maxRecDepth 65536 in
theorem w_c25 : (Jvm.Cond.code ({ cls := "java/util/Objects", name := "requireNonNull", desc := "(Ljava/lang/Object;)Ljava/lang/Object;" } : Jvm.MethodName) jdk_31_method_10_code (1 : Nat) (Option.some (Jvm.ClassFile.FieldType.object "java/lang/Object"))).before args0 about1 = true := code_word (m := ⟨28, 1⟩) (meth := k28m1) (c := k28c1) (by decide +kernel) rfl rfl rfl (by decide +kernel)
set_option maxRecDepth 65536 in
theorem w_c26 : (Jvm.Cond.code ({ cls := "java/util/ImmutableCollections$ListN", name := "<init>", desc := "([Ljava/lang/Object;Z)V" } : Jvm.MethodName) jdk_45_method_1_code (3 : Nat) (Option.none : Option Jvm.ClassFile.FieldType)).before args0 about1 = true := code_word (m := ⟨25, 0⟩) (meth := k25m0) (c := k25c0) (by decide +kernel) rfl rfl rfl (by decide +kernel)
set_option maxRecDepth 65536 in
theorem w_c27 : (Jvm.Cond.code ({ cls := "java/util/ImmutableCollections$AbstractImmutableList", name := "<init>", desc := "()V" } : Jvm.MethodName) jdk_46_method_1_code (1 : Nat) (Option.none : Option Jvm.ClassFile.FieldType)).before args0 about1 = true := code_word (m := ⟨23, 0⟩) (meth := k23m0) (c := k23c0) (by decide +kernel) rfl rfl rfl (by decide +kernel)
set_option maxRecDepth 65536 in
theorem w_c28 : (Jvm.Cond.code ({ cls := "java/util/ImmutableCollections$AbstractImmutableCollection", name := "<init>", desc := "()V" } : Jvm.MethodName) jdk_47_method_1_code (1 : Nat) (Option.none : Option Jvm.ClassFile.FieldType)).before args0 about1 = true := code_word (m := ⟨22, 0⟩) (meth := k22m0) (c := k22c0) (by decide +kernel) rfl rfl rfl (by decide +kernel)
set_option maxRecDepth 65536 in
theorem w_c29 : (Jvm.Cond.code ({ cls := "java/util/ImmutableCollections$List12", name := "<init>", desc := "(Ljava/lang/Object;Ljava/lang/Object;)V" } : Jvm.MethodName) jdk_44_method_2_code (3 : Nat) (Option.none : Option Jvm.ClassFile.FieldType)).before args0 about1 = true := code_word (m := ⟨24, 1⟩) (meth := k24m1) (c := k24c1) (by decide +kernel) rfl rfl rfl (by decide +kernel)
set_option maxRecDepth 65536 in
theorem w_c30 : (Jvm.Cond.code ({ cls := "com/example/rights_leak_checker/rightsleakchecker/takegrant/Bridge", name := "from", desc := "()Ljava/lang/String;" } : Jvm.MethodName) prog_42_method_2_code (1 : Nat) (Option.some (Jvm.ClassFile.FieldType.object "java/lang/String"))).before args0 about1 = true := code_word (m := ⟨20, 1⟩) (meth := k20m1) (c := k20c1) (by decide +kernel) rfl rfl rfl (by decide +kernel)
set_option maxRecDepth 65536 in
theorem w_c31 : (Jvm.Cond.code ({ cls := "java/util/ImmutableCollections$ListN", name := "get", desc := "(I)Ljava/lang/Object;" } : Jvm.MethodName) jdk_45_method_4_code (2 : Nat) (Option.some (Jvm.ClassFile.FieldType.object "java/lang/Object"))).before args0 about1 = true := code_word (m := ⟨25, 1⟩) (meth := k25m1) (c := k25c1) (by decide +kernel) rfl rfl rfl (by decide +kernel)
set_option maxRecDepth 65536 in
theorem w_c32 : (Jvm.Cond.code ({ cls := "java/lang/String", name := "equals", desc := "(Ljava/lang/Object;)Z" } : Jvm.MethodName) jdk_42_method_66_code (3 : Nat) (Option.some Jvm.ClassFile.FieldType.boolean)).before args0 about1 = true := code_word (m := ⟨7, 2⟩) (meth := k7m2) (c := k7c2) (by decide +kernel) rfl rfl rfl (by decide +kernel)
set_option maxRecDepth 65536 in
theorem w_c33 : (Jvm.Cond.code ({ cls := "java/util/ImmutableCollections$List12", name := "<init>", desc := "(Ljava/lang/Object;)V" } : Jvm.MethodName) jdk_44_method_1_code (2 : Nat) (Option.none : Option Jvm.ClassFile.FieldType)).before args0 about1 = true := code_word (m := ⟨24, 0⟩) (meth := k24m0) (c := k24c0) (by decide +kernel) rfl rfl rfl (by decide +kernel)
set_option maxRecDepth 65536 in
theorem w_c34 : (Jvm.Cond.code ({ cls := "java/util/ImmutableCollections$List12", name := "get", desc := "(I)Ljava/lang/Object;" } : Jvm.MethodName) jdk_44_method_5_code (2 : Nat) (Option.some (Jvm.ClassFile.FieldType.object "java/lang/Object"))).before args0 about1 = true := code_word (m := ⟨24, 2⟩) (meth := k24m2) (c := k24c2) (by decide +kernel) rfl rfl rfl (by decide +kernel)
set_option maxRecDepth 65536 in
theorem w_c35 : (Jvm.Cond.code ({ cls := "java/lang/StringUTF16", name := "compress", desc := "([CII)[B" } : Jvm.MethodName) jdk_52_method_16_code (6 : Nat) (Option.some (Jvm.ClassFile.FieldType.array Jvm.ClassFile.FieldType.byte))).before args0 about1 = true := code_word (m := ⟨29, 2⟩) (meth := k29m2) (c := k29c2) (by decide +kernel) rfl rfl rfl (by decide +kernel)
set_option maxRecDepth 65536 in
theorem w_c36 : (Jvm.Cond.code ({ cls := "java/lang/StringUTF16", name := "compress", desc := "([CI[BII)I" } : Jvm.MethodName) jdk_52_method_21_code (7 : Nat) (Option.some Jvm.ClassFile.FieldType.int)).before args0 about1 = true := code_word (m := ⟨29, 3⟩) (meth := k29m3) (c := k29c3) (by decide +kernel) rfl rfl rfl (by decide +kernel)
set_option maxRecDepth 65536 in
theorem w_c37 : (Jvm.Cond.code ({ cls := "java/lang/StringUTF16", name := "coderFromArrayLen", desc := "([BI)B" } : Jvm.MethodName) jdk_52_method_15_code (2 : Nat) (Option.some Jvm.ClassFile.FieldType.byte)).before args0 about1 = true := code_word (m := ⟨29, 1⟩) (meth := k29m1) (c := k29c1) (by decide +kernel) rfl rfl rfl (by decide +kernel)
def codes1 : List Jvm.Cond := [Jvm.Cond.code x code maxLocals ret, Jvm.Cond.code ({ cls := "com/example/rights_leak_checker/rightsleakchecker/takegrant/BridgeFromPinLaw", name := "str", desc := "(I)Ljava/lang/String;" } : Jvm.MethodName) method_2_code (5 : Nat) (Option.some (Jvm.ClassFile.FieldType.object "java/lang/String")), Jvm.Cond.code ({ cls := "java/lang/String", name := "<init>", desc := "([C)V" } : Jvm.MethodName) jdk_42_method_3_code (2 : Nat) (Option.none : Option Jvm.ClassFile.FieldType), Jvm.Cond.code ({ cls := "java/lang/String", name := "<init>", desc := "([CIILjava/lang/Void;)V" } : Jvm.MethodName) jdk_42_method_149_code (6 : Nat) (Option.none : Option Jvm.ClassFile.FieldType), Jvm.Cond.code ({ cls := "java/lang/Object", name := "<init>", desc := "()V" } : Jvm.MethodName) object_method_1_code (1 : Nat) (Option.none : Option Jvm.ClassFile.FieldType), Jvm.Cond.code ({ cls := "java/util/ArrayList", name := "<init>", desc := "()V" } : Jvm.MethodName) jdk_38_method_2_code (1 : Nat) (Option.none : Option Jvm.ClassFile.FieldType), Jvm.Cond.code ({ cls := "java/util/AbstractList", name := "<init>", desc := "()V" } : Jvm.MethodName) jdk_39_method_1_code (1 : Nat) (Option.none : Option Jvm.ClassFile.FieldType), Jvm.Cond.code ({ cls := "java/util/AbstractCollection", name := "<init>", desc := "()V" } : Jvm.MethodName) jdk_22_method_1_code (1 : Nat) (Option.none : Option Jvm.ClassFile.FieldType), Jvm.Cond.code ({ cls := "java/util/ArrayList", name := "add", desc := "(Ljava/lang/Object;)Z" } : Jvm.MethodName) jdk_38_method_25_code (2 : Nat) (Option.some Jvm.ClassFile.FieldType.boolean), Jvm.Cond.code ({ cls := "java/util/ArrayList", name := "add", desc := "(Ljava/lang/Object;[Ljava/lang/Object;I)V" } : Jvm.MethodName) jdk_38_method_24_code (4 : Nat) (Option.none : Option Jvm.ClassFile.FieldType), Jvm.Cond.code ({ cls := "java/util/ArrayList", name := "grow", desc := "()[Ljava/lang/Object;" } : Jvm.MethodName) jdk_38_method_7_code (1 : Nat) (Option.some (Jvm.ClassFile.FieldType.array (Jvm.ClassFile.FieldType.object "java/lang/Object"))), Jvm.Cond.code ({ cls := "java/util/ArrayList", name := "grow", desc := "(I)[Ljava/lang/Object;" } : Jvm.MethodName) jdk_38_method_6_code (4 : Nat) (Option.some (Jvm.ClassFile.FieldType.array (Jvm.ClassFile.FieldType.object "java/lang/Object"))), Jvm.Cond.code ({ cls := "java/lang/Math", name := "max", desc := "(II)I" } : Jvm.MethodName) jdk_29_method_65_code (2 : Nat) (Option.some Jvm.ClassFile.FieldType.int), Jvm.Cond.code ({ cls := "com/example/rights_leak_checker/rightsleakchecker/takegrant/BridgeFromPinLaw", name := "letter", desc := "(I)Lcom/example/rights_leak_checker/rightsleakchecker/takegrant/Bridge$Letter;" } : Jvm.MethodName) method_3_code (2 : Nat) (Option.some (Jvm.ClassFile.FieldType.object "com/example/rights_leak_checker/rightsleakchecker/takegrant/Bridge$Letter")), Jvm.Cond.code ({ cls := "com/example/rights_leak_checker/rightsleakchecker/takegrant/Bridge", name := "<init>", desc := "(Ljava/util/List;Ljava/util/List;)V" } : Jvm.MethodName) prog_42_method_1_code (3 : Nat) (Option.none : Option Jvm.ClassFile.FieldType), Jvm.Cond.code ({ cls := "java/util/ArrayList", name := "size", desc := "()I" } : Jvm.MethodName) jdk_38_method_8_code (1 : Nat) (Option.some Jvm.ClassFile.FieldType.int), Jvm.Cond.code ({ cls := "java/util/List", name := "copyOf", desc := "(Ljava/util/Collection;)Ljava/util/List;" } : Jvm.MethodName) jdk_40_method_48_code (1 : Nat) (Option.some (Jvm.ClassFile.FieldType.object "java/util/List")), Jvm.Cond.code ({ cls := "java/util/ImmutableCollections", name := "listCopy", desc := "(Ljava/util/Collection;)Ljava/util/List;" } : Jvm.MethodName) jdk_56_method_3_code (2 : Nat) (Option.some (Jvm.ClassFile.FieldType.object "java/util/List")), Jvm.Cond.code ({ cls := "java/util/ArrayList", name := "isEmpty", desc := "()Z" } : Jvm.MethodName) jdk_38_method_9_code (1 : Nat) (Option.some Jvm.ClassFile.FieldType.boolean), Jvm.Cond.code ({ cls := "java/util/ArrayList", name := "toArray", desc := "()[Ljava/lang/Object;" } : Jvm.MethodName) jdk_38_method_16_code (1 : Nat) (Option.some (Jvm.ClassFile.FieldType.array (Jvm.ClassFile.FieldType.object "java/lang/Object"))), Jvm.Cond.code ({ cls := "java/util/Arrays", name := "copyOf", desc := "([Ljava/lang/Object;I)[Ljava/lang/Object;" } : Jvm.MethodName) jdk_65_method_119_code (2 : Nat) (Option.some (Jvm.ClassFile.FieldType.array (Jvm.ClassFile.FieldType.object "java/lang/Object"))), Jvm.Cond.code ({ cls := "java/util/Arrays", name := "copyOf", desc := "([Ljava/lang/Object;ILjava/lang/Class;)[Ljava/lang/Object;" } : Jvm.MethodName) jdk_65_method_120_code (4 : Nat) (Option.some (Jvm.ClassFile.FieldType.array (Jvm.ClassFile.FieldType.object "java/lang/Object"))), Jvm.Cond.code ({ cls := "java/lang/Math", name := "min", desc := "(II)I" } : Jvm.MethodName) jdk_29_method_69_code (2 : Nat) (Option.some Jvm.ClassFile.FieldType.int), Jvm.Cond.code ({ cls := "java/util/List", name := "of", desc := "([Ljava/lang/Object;)Ljava/util/List;" } : Jvm.MethodName) jdk_40_method_47_code (2 : Nat) (Option.some (Jvm.ClassFile.FieldType.object "java/util/List")), Jvm.Cond.code ({ cls := "java/util/ImmutableCollections", name := "listFromArray", desc := "([Ljava/lang/Object;)Ljava/util/List;" } : Jvm.MethodName) jdk_56_method_4_code (3 : Nat) (Option.some (Jvm.ClassFile.FieldType.object "java/util/List")), Jvm.Cond.code ({ cls := "java/util/Objects", name := "requireNonNull", desc := "(Ljava/lang/Object;)Ljava/lang/Object;" } : Jvm.MethodName) jdk_31_method_10_code (1 : Nat) (Option.some (Jvm.ClassFile.FieldType.object "java/lang/Object")), Jvm.Cond.code ({ cls := "java/util/ImmutableCollections$ListN", name := "<init>", desc := "([Ljava/lang/Object;Z)V" } : Jvm.MethodName) jdk_45_method_1_code (3 : Nat) (Option.none : Option Jvm.ClassFile.FieldType), Jvm.Cond.code ({ cls := "java/util/ImmutableCollections$AbstractImmutableList", name := "<init>", desc := "()V" } : Jvm.MethodName) jdk_46_method_1_code (1 : Nat) (Option.none : Option Jvm.ClassFile.FieldType), Jvm.Cond.code ({ cls := "java/util/ImmutableCollections$AbstractImmutableCollection", name := "<init>", desc := "()V" } : Jvm.MethodName) jdk_47_method_1_code (1 : Nat) (Option.none : Option Jvm.ClassFile.FieldType), Jvm.Cond.code ({ cls := "java/util/ImmutableCollections$List12", name := "<init>", desc := "(Ljava/lang/Object;Ljava/lang/Object;)V" } : Jvm.MethodName) jdk_44_method_2_code (3 : Nat) (Option.none : Option Jvm.ClassFile.FieldType), Jvm.Cond.code ({ cls := "com/example/rights_leak_checker/rightsleakchecker/takegrant/Bridge", name := "from", desc := "()Ljava/lang/String;" } : Jvm.MethodName) prog_42_method_2_code (1 : Nat) (Option.some (Jvm.ClassFile.FieldType.object "java/lang/String")), Jvm.Cond.code ({ cls := "java/util/ImmutableCollections$ListN", name := "get", desc := "(I)Ljava/lang/Object;" } : Jvm.MethodName) jdk_45_method_4_code (2 : Nat) (Option.some (Jvm.ClassFile.FieldType.object "java/lang/Object")), Jvm.Cond.code ({ cls := "java/lang/String", name := "equals", desc := "(Ljava/lang/Object;)Z" } : Jvm.MethodName) jdk_42_method_66_code (3 : Nat) (Option.some Jvm.ClassFile.FieldType.boolean), Jvm.Cond.code ({ cls := "java/util/ImmutableCollections$List12", name := "<init>", desc := "(Ljava/lang/Object;)V" } : Jvm.MethodName) jdk_44_method_1_code (2 : Nat) (Option.none : Option Jvm.ClassFile.FieldType), Jvm.Cond.code ({ cls := "java/util/ImmutableCollections$List12", name := "get", desc := "(I)Ljava/lang/Object;" } : Jvm.MethodName) jdk_44_method_5_code (2 : Nat) (Option.some (Jvm.ClassFile.FieldType.object "java/lang/Object")), Jvm.Cond.code ({ cls := "java/lang/StringUTF16", name := "compress", desc := "([CII)[B" } : Jvm.MethodName) jdk_52_method_16_code (6 : Nat) (Option.some (Jvm.ClassFile.FieldType.array Jvm.ClassFile.FieldType.byte)), Jvm.Cond.code ({ cls := "java/lang/StringUTF16", name := "compress", desc := "([CI[BII)I" } : Jvm.MethodName) jdk_52_method_21_code (7 : Nat) (Option.some Jvm.ClassFile.FieldType.int), Jvm.Cond.code ({ cls := "java/lang/StringUTF16", name := "coderFromArrayLen", desc := "([BI)B" } : Jvm.MethodName) jdk_52_method_15_code (2 : Nat) (Option.some Jvm.ClassFile.FieldType.byte)]
set_option maxRecDepth 65536 in
theorem codes_eq : words1.filter isCode = codes1 := rfl
theorem w_codes : ∀ c ∈ words1.filter isCode, c.before args0 about1 = true := by
  rw [codes_eq]
  intro c hc
  simp only [codes1, List.mem_cons, List.not_mem_nil, or_false] at hc
  rcases hc with rfl | rfl | rfl | rfl | rfl | rfl | rfl | rfl | rfl | rfl | rfl | rfl | rfl | rfl | rfl | rfl | rfl | rfl | rfl | rfl | rfl | rfl | rfl | rfl | rfl | rfl | rfl | rfl | rfl | rfl | rfl | rfl | rfl | rfl | rfl | rfl | rfl | rfl
  · exact w_c0
  · exact w_c1
  · exact w_c2
  · exact w_c3
  · exact w_c4
  · exact w_c5
  · exact w_c6
  · exact w_c7
  · exact w_c8
  · exact w_c9
  · exact w_c10
  · exact w_c11
  · exact w_c12
  · exact w_c13
  · exact w_c14
  · exact w_c15
  · exact w_c16
  · exact w_c17
  · exact w_c18
  · exact w_c19
  · exact w_c20
  · exact w_c21
  · exact w_c22
  · exact w_c23
  · exact w_c24
  · exact w_c25
  · exact w_c26
  · exact w_c27
  · exact w_c28
  · exact w_c29
  · exact w_c30
  · exact w_c31
  · exact w_c32
  · exact w_c33
  · exact w_c34
  · exact w_c35
  · exact w_c36
  · exact w_c37
set_option maxRecDepth 65536 in
theorem w_t1 : (words1.take 24).all (fun c => isCode c || c.before args0 about1) = true := by decide +kernel
set_option maxRecDepth 65536 in
theorem w_t2 : ((words1.drop 24).take 24).all (fun c => isCode c || c.before args0 about1) = true := by decide +kernel
set_option maxRecDepth 65536 in
theorem w_t3 : (((words1.drop 24).drop 24).take 24).all (fun c => isCode c || c.before args0 about1) = true := by decide +kernel
set_option maxRecDepth 65536 in
theorem w_t4 : ((((words1.drop 24).drop 24).drop 24).take 24).all (fun c => isCode c || c.before args0 about1) = true := by decide +kernel
set_option maxRecDepth 65536 in
theorem w_t5 : (((((words1.drop 24).drop 24).drop 24).drop 24).take 24).all (fun c => isCode c || c.before args0 about1) = true := by decide +kernel
set_option maxRecDepth 65536 in
theorem w_t6 : ((((((words1.drop 24).drop 24).drop 24).drop 24).drop 24).take 24).all (fun c => isCode c || c.before args0 about1) = true := by decide +kernel
set_option maxRecDepth 65536 in
theorem w_t7 : (((((((words1.drop 24).drop 24).drop 24).drop 24).drop 24).drop 24).take 24).all (fun c => isCode c || c.before args0 about1) = true := by decide +kernel
set_option maxRecDepth 65536 in
theorem w_t8 : ((((((((words1.drop 24).drop 24).drop 24).drop 24).drop 24).drop 24).drop 24).take 24).all (fun c => isCode c || c.before args0 about1) = true := by decide +kernel
set_option maxRecDepth 65536 in
theorem w_t9 : (((((((((words1.drop 24).drop 24).drop 24).drop 24).drop 24).drop 24).drop 24).drop 24).take 24).all (fun c => isCode c || c.before args0 about1) = true := by decide +kernel
set_option maxRecDepth 65536 in
theorem w_t10 : ((((((((((words1.drop 24).drop 24).drop 24).drop 24).drop 24).drop 24).drop 24).drop 24).drop 24).take 24).all (fun c => isCode c || c.before args0 about1) = true := by decide +kernel
set_option maxRecDepth 65536 in
theorem w_t11 : ((((((((((words1.drop 24).drop 24).drop 24).drop 24).drop 24).drop 24).drop 24).drop 24).drop 24).drop 24).all (fun c => isCode c || c.before args0 about1) = true := by decide +kernel
theorem w_tables : (allAtoms (Jvm.Cond.code x code maxLocals ret :: tables_1)).before args0 about1 = true := by
  rw [allAtoms_all]
  show words1.all (fun c => c.before args0 about1) = true
  refine all_split ?_ w_codes
  rw [← List.take_append_drop 24 words1, List.all_append, w_t1, ← List.take_append_drop 24 (words1.drop 24), List.all_append, w_t2, ← List.take_append_drop 24 ((words1.drop 24).drop 24), List.all_append, w_t3, ← List.take_append_drop 24 (((words1.drop 24).drop 24).drop 24), List.all_append, w_t4, ← List.take_append_drop 24 ((((words1.drop 24).drop 24).drop 24).drop 24), List.all_append, w_t5, ← List.take_append_drop 24 (((((words1.drop 24).drop 24).drop 24).drop 24).drop 24), List.all_append, w_t6, ← List.take_append_drop 24 ((((((words1.drop 24).drop 24).drop 24).drop 24).drop 24).drop 24), List.all_append, w_t7, ← List.take_append_drop 24 (((((((words1.drop 24).drop 24).drop 24).drop 24).drop 24).drop 24).drop 24), List.all_append, w_t8, ← List.take_append_drop 24 ((((((((words1.drop 24).drop 24).drop 24).drop 24).drop 24).drop 24).drop 24).drop 24), List.all_append, w_t9, ← List.take_append_drop 24 (((((((((words1.drop 24).drop 24).drop 24).drop 24).drop 24).drop 24).drop 24).drop 24).drop 24), List.all_append, w_t10, w_t11]
  rfl
set_option maxRecDepth 65536 in
theorem w_rest : rest_1_c.before args0 about1 = true := by decide +kernel
set_option maxRecDepth 65536 in
theorem w_case : (Jvm.Cond.and given_1 narrow_1).before args0 about1 = true := by decide +kernel
set_option maxRecDepth 65536 in
theorem w_consts : constsHeld consts_1 about1 := Jvm.Lit.constsHeldB_iff.mp (by decide +kernel)
theorem w_applies : (headSpec (Jvm.Cond.code x code maxLocals ret :: tables_1) room_1).applies x e0.platform about1 = true :=
  (Spec.applies_iff w_frames).mpr ⟨w_running, w_runnable, w_alone, w_named, w_hears, w_ripe, w_room, w_tables⟩
theorem atStart : AtStart classFile x code maxLocals ret World_1 tables_1 room_1 Calls_1 rest_1 Pre_1 launch0 p0 e0 about1 theMethod args0 below0 :=
  ⟨lists_1, trivial, launch0.admits_env _ _ _, launch0.least_env, fairChoices_fair.cas, fairChoices_fair.clock, w_frames, w_args, w_heap, w_applies, ⟨⟨39, k39, 5, by decide +kernel, rfl, rfl, _, rfl, rfl⟩, ⟨w_consts, trivial⟩⟩, w_rest, w_case⟩
end start1
theorem witness_1 : WitnessClaimed_1 := ⟨start1.p0, start1.e0, start1.about1, start1.theMethod, start1.args0, start1.below0, start1.atStart⟩
end Jvm.Pilot.@@N@@
