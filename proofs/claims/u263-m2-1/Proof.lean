import JvmDerived
import JvmDerived.Pilot.@@N@@Statement
import JvmDerived.Pilot.@@N@@Code
set_option linter.unusedVariables false
set_option linter.unusedSimpArgs false
namespace Jvm.Pilot.@@N@@
open Jvm Jvm.ClassFile Sem Op Lib Jvm.Free Jvm.Stand Jvm.LawKit Jvm.RoadKit Bundle Jvm.Pilot.@@N@@.Jvm.D
/-- from the point (T, g) the body comes to its end, with what P says of value, heap and places -/
def own_E (p : Program) (e : Env) (below : List Frame) (s : State) (k n : Nat) (P : Option Value → Heap → List Loc → Prop) (T : State) (g : JFrame) : Prop :=
  ∃ s₂ o, Steps p.tables e below (T.setTop g) s₂ ∧ s₂.status = .running ∧ Ended s₂ below o ∧ ∃ v L, o = .returned v ∧ P v s₂.heap L ∧ FrameEnd s o s₂ L k n
/-- what a law leaves: true, and nothing old written -/
def own_L (n0 : Nat) (v : Option Value) (h : Heap) (L : List Loc) : Prop := v = some (.int (1 : Int32)) ∧ Fr n0 L
section Own
variable {p : Program} {l : Launch} {e : Env} {R : Room} {s : State} {m : MethodId} {args : Array Value} {below : List Frame} {meth : Method} {c : Code} {T T' : State} {locs : List Loc} {cells slots : Nat} {k n : Nat} {P : Option Value → Heap → List Loc → Prop} {g g' : JFrame}
theorem own_st (h : ∀ t, Steps p.tables e below (T'.setTop g') t → Steps p.tables e below (T.setTop g) t) (E : own_E p e below s k n P T' g') : own_E p e below s k n P T g := by
  obtain ⟨s₂, o, h1, r⟩ := E; exact ⟨s₂, o, h _ h1, r⟩
theorem own_end (X : Stand p l e R s m args below meth c T locs cells slots) {v : Option Value} (hv : meth.sig.returnType = none → v = none) (hlk : meth.locks = false) (hk : cells ≤ k) (hn : slots ≤ n) (hP : P v T.heap locs)
    (h : ∀ fs : List Frame, (∀ (f : JFrame) (acts : List Action), f.method = m → f.locked = none → f.entered = [] → (doReturn e (T.setTop f) acts v).1 = T.setFrames fs) → Steps p.tables e below (T.setTop g) (T.setFrames fs)) : own_E p e below s k n P T g := by
  obtain ⟨fs, hr, hrun, hended, hW, hsame⟩ := X.leave (v := v) hv hlk
  exact ⟨_, _, h fs hr, hrun, hended, _, _, rfl, hP, ⟨_, rfl⟩, hW, hsame.mono hk hn⟩
theorem own_retV (X : Stand p l e R s m args below meth c T locs cells slots) (hx : p.tables.exec = Jvm.exec) (hret : meth.sig.returnType = none) (hlk : meth.locks = false) {pc : Nat} {Ls : Array Slot} (hd : decode c.code pc = .ok (.return_, 1)) (hk : cells ≤ k) (hn : slots ≤ n) (hP : P none T.heap locs) : own_E p e below s k n P T (mkF m pc Ls []) :=
  own_end X (fun _ => rfl) hlk hk hn hP fun _ hr => X.returnOut hx hret hd hr
theorem own_retN (X : Stand p l e R s m args below meth c T locs cells slots) (hx : p.tables.exec = Jvm.exec) {t : FieldType} (hret : meth.sig.returnType = some t) (ht : t = .boolean ∨ t = .byte ∨ t = .char ∨ t = .short) (hlk : meth.locks = false) {pc : Nat} {Ls : Array Slot} {z : Int32} {rest : List Value} (hd : decode c.code pc = .ok (.ireturn, 1)) (hk : cells ≤ k) (hn : slots ≤ n) (hP : P (some (.int (nar t z))) T.heap locs) : own_E p e below s k n P T (mkF m pc Ls (.int z :: rest)) :=
  own_end X (fun h => by rw [hret] at h; cases h) hlk hk hn hP fun _ hr => retN X hx hret ht hd hr
theorem own_retI (X : Stand p l e R s m args below meth c T locs cells slots) (hx : p.tables.exec = Jvm.exec) (hret : meth.sig.returnType = some .int) (hlk : meth.locks = false) {pc : Nat} {Ls : Array Slot} {z : Int32} {rest : List Value} (hd : decode c.code pc = .ok (.ireturn, 1)) (hk : cells ≤ k) (hn : slots ≤ n) (hP : P (some (.int z)) T.heap locs) : own_E p e below s k n P T (mkF m pc Ls (.int z :: rest)) :=
  own_end X (fun h => by rw [hret] at h; cases h) hlk hk hn hP fun _ hr => retOut X hx hret rfl (Or.inl ⟨rfl, Or.inl rfl, z, rfl⟩) hd hr
theorem own_retL (X : Stand p l e R s m args below meth c T locs cells slots) (hx : p.tables.exec = Jvm.exec) (hret : meth.sig.returnType = some .long) (hlk : meth.locks = false) {pc : Nat} {Ls : Array Slot} {z : Int64} {rest : List Value} (hd : decode c.code pc = .ok (.lreturn, 1)) (hk : cells ≤ k) (hn : slots ≤ n) (hP : P (some (.long z)) T.heap locs) : own_E p e below s k n P T (mkF m pc Ls (.long z :: rest)) :=
  own_end X (fun h => by rw [hret] at h; cases h) hlk hk hn hP fun _ hr => retOut X hx hret rfl (Or.inr (Or.inl ⟨rfl, rfl, z, rfl⟩)) hd hr
theorem own_narR {t : FieldType} {v : Value} (ht : t.isReference = true) : narrow t v = v := by cases t <;> first | (cases ht; done) | (cases v <;> rfl)
theorem own_fitR {t : FieldType} {v : Value} (h : v.isRef = true) (ht : t.isReference = true) : fits t v = true := by cases t <;> first | (cases ht; done) | (cases v <;> first | (cases h; done) | rfl)
theorem own_retA (X : Stand p l e R s m args below meth c T locs cells slots) (hx : p.tables.exec = Jvm.exec) {t : FieldType} (hret : meth.sig.returnType = some t) (ht : t.isReference = true) {w : Value} (hw : w.isRef = true) (hlk : meth.locks = false) {pc : Nat} {Ls : Array Slot} {rest : List Value} (hd : decode c.code pc = .ok (.areturn, 1)) (hk : cells ≤ k) (hn : slots ≤ n) (hP : P (some w) T.heap locs) : own_E p e below s k n P T (mkF m pc Ls (w :: rest)) :=
  own_end X (fun h => by rw [hret] at h; cases h) hlk hk hn hP fun _ hr => retOut X hx hret (own_narR ht) (Or.inr (Or.inr (Or.inr (Or.inr ⟨rfl, ht, hw⟩)))) hd hr
end Own
/-! the calls, their figures said plainly -/
section OwnCalls
variable {p : Program} {l : Launch} {e : Env} {R : Room} {s : State} {m : MethodId} {args : Array Value} {below : List Frame} {meth : Method} {c : Code} {T : State} {locs : List Loc} {cells slots : Nat} {W : Nat} {rm : Room} {as' : Array Value} {Q : Option Value → Heap → List Loc → Prop} {h : Heap} {c' s' : Nat}
theorem own_callS (X : Stand p l e R s m args below meth c T locs cells slots) (hx : p.tables.exec = Jvm.exec) {own : String} {index : Nat} {y : MethodName} {bytes : ByteArray} {maxL : Nat} {ret : Option FieldType} (hown : s.vm.findClass own = some m.cls) (hlink : (Cond.methodLink own index y).before args s = true) (hstat : (Cond.static y).before args s = true) (hinit : (Cond.initialized y.cls).before args s = true) (hcode : (Cond.code y bytes maxL ret).before args s = true) (hy : y.cls ≠ "java/lang/invoke/MethodHandle" ∧ y.cls ≠ "java/lang/invoke/VarHandle") (hK : Back l R p e below s args y 3 W (fun A a => a = as' ∧ A.U.heap = h ∧ A.cells + rm.cells ≤ R.cells ∧ A.slots + rm.slots ≤ R.slots) (fun A _ v B => ∃ L, Q v B.U.heap L ∧ B.locs = A.locs ++ L ∧ B.cells = A.cells + rm.cells ∧ B.slots = A.slots + rm.slots)) {g : JFrame} (hg : g.method = m) (hsize : g.locals.size = c.maxLocals) {argsL rest : List Value} (hlen : ∀ sig, parseMethodDescriptor y.desc = some sig → argsL.length = sig.parameters.length) (hstack : g.stack = argsL.reverse ++ rest) (hW : 2 * g.monitorRoom + (rest.map fun v => v.category).sum ≤ W) (hdg : decode c.code g.pc = .ok (.invokestatic index, 3)) (ha : argsL.toArray = as') (eT : T.heap = h) (hc : cells + rm.cells ≤ R.cells) (hs : slots + rm.slots ≤ R.slots) (h1 : cells + rm.cells = c') (h2 : slots + rm.slots = s') :
    ∃ (v : Option Value) (T' : State) (L : List Loc), Stand p l e R s m args below meth c T' (locs ++ L) c' s' ∧ Q v T'.heap L ∧ ∀ t, Steps p.tables e below (T'.setTop { g with pc := g.pc + 3, stack := v.toList ++ rest }) t → Steps p.tables e below (T.setTop g) t := by
  subst h1 h2
  obtain ⟨v, vm₁, ⟨T', L', k', n'⟩, -, X', ⟨L, hQ, h3, h4, h5⟩, st⟩ := Jvm.LawKit.callS X hx hown hlink hstat hinit hcode hy hK hg hsize hlen hstack hW hdg (fun _ _ => ⟨ha, eT, hc, hs⟩)
  dsimp only [Pt.U, Pt.locs, Pt.cells, Pt.slots] at X' h3 h4 h5 st hQ
  subst h3 h4 h5
  exact ⟨v, T', L, X', hQ, st⟩
theorem own_callI (X : Stand p l e R s m args below meth c T locs cells slots) (hx : p.tables.exec = Jvm.exec) {own : String} {index : Nat} {y : MethodName} {bytes : ByteArray} {maxL : Nat} (hy1 : y.name = "<init>") (hown : s.vm.findClass own = some m.cls) (hlink : (Cond.methodLink own index y).before args s = true) (hinst : (Cond.instanceMethod y).before args s = true) (hcode : (Cond.code y bytes maxL none).before args s = true) (hy : y.cls ≠ "java/lang/invoke/MethodHandle" ∧ y.cls ≠ "java/lang/invoke/VarHandle") (hK : Back l R p e below s args y 3 W (fun A a => a = as' ∧ A.U.heap = h ∧ A.cells + rm.cells ≤ R.cells ∧ A.slots + rm.slots ≤ R.slots) (fun A _ v B => ∃ L, Q v B.U.heap L ∧ B.locs = A.locs ++ L ∧ B.cells = A.cells + rm.cells ∧ B.slots = A.slots + rm.slots)) {g : JFrame} (hg : g.method = m) (hsize : g.locals.size = c.maxLocals) {a : Addr} {argsL rest : List Value} (hlen : ∀ sig, parseMethodDescriptor y.desc = some sig → argsL.length = sig.parameters.length) (hstack : g.stack = argsL.reverse ++ .ref a :: rest) (hW : 2 * g.monitorRoom + (rest.map fun v => v.category).sum ≤ W) (hdg : decode c.code g.pc = .ok (.invokespecial index, 3)) (ha : (.ref a :: argsL).toArray = as') (eT : T.heap = h) (hc : cells + rm.cells ≤ R.cells) (hs : slots + rm.slots ≤ R.slots) (h1 : cells + rm.cells = c') (h2 : slots + rm.slots = s') :
    ∃ (v : Option Value) (T' : State) (L : List Loc), Stand p l e R s m args below meth c T' (locs ++ L) c' s' ∧ Q v T'.heap L ∧ ∀ t, Steps p.tables e below (T'.setTop { g with pc := g.pc + 3, stack := v.toList ++ rest }) t → Steps p.tables e below (T.setTop g) t := by
  subst h1 h2
  obtain ⟨v, vm₁, ⟨T', L', k', n'⟩, -, X', ⟨L, hQ, h3, h4, h5⟩, st⟩ := X.specialBack hx hy1 hown hlink hinst hcode hy hK hg hsize (Steps.refl _) hlen hstack hW hdg (fun _ _ => ⟨ha, eT, hc, hs⟩)
  dsimp only [Pt.U, Pt.locs, Pt.cells, Pt.slots] at X' h3 h4 h5 st hQ
  subst h3 h4 h5
  exact ⟨v, T', L, X', hQ, fun t k => st.trans k⟩
theorem own_callP (X : Stand p l e R s m args below meth c T locs cells slots) (hx : p.tables.exec = Jvm.exec) {own : String} {index : Nat} {y : MethodName} {bytes : ByteArray} {maxL : Nat} {ret : Option FieldType} (hown : s.vm.findClass own = some m.cls) (hlink : (Cond.methodLink own index y).before args s = true) (hinst : (Cond.instanceMethod y).before args s = true) (hsel : (Cond.selects y.cls y y).before args s = true) (hpriv : s.PrivateAt y) (hcode : (Cond.code y bytes maxL ret).before args s = true) (hy : y.cls ≠ "java/lang/invoke/MethodHandle" ∧ y.cls ≠ "java/lang/invoke/VarHandle") (hK : Back l R p e below s args y 3 W (fun A a => a = as' ∧ A.U.heap = h ∧ A.cells + rm.cells ≤ R.cells ∧ A.slots + rm.slots ≤ R.slots) (fun A _ v B => ∃ L, Q v B.U.heap L ∧ B.locs = A.locs ++ L ∧ B.cells = A.cells + rm.cells ∧ B.slots = A.slots + rm.slots)) {g : JFrame} (hg : g.method = m) (hsize : g.locals.size = c.maxLocals) {a : Addr} {cell : Cell} (hcell : T.heap[a]? = some cell) (hobj : ∀ q, cell.vm ≠ .statics q) {argsL rest : List Value} (hlen : ∀ sig, parseMethodDescriptor y.desc = some sig → argsL.length = sig.parameters.length) (hstack : g.stack = argsL.reverse ++ .ref a :: rest) (hW : 2 * g.monitorRoom + (rest.map fun v => v.category).sum ≤ W) (hdg : decode c.code g.pc = .ok (.invokevirtual index, 3)) (ha : (.ref a :: argsL).toArray = as') (eT : T.heap = h) (hc : cells + rm.cells ≤ R.cells) (hs : slots + rm.slots ≤ R.slots) (h1 : cells + rm.cells = c') (h2 : slots + rm.slots = s') :
    ∃ (v : Option Value) (T' : State) (L : List Loc), Stand p l e R s m args below meth c T' (locs ++ L) c' s' ∧ Q v T'.heap L ∧ ∀ t, Steps p.tables e below (T'.setTop { g with pc := g.pc + 3, stack := v.toList ++ rest }) t → Steps p.tables e below (T.setTop g) t := by
  subst h1 h2
  obtain ⟨v, vm₁, ⟨T', L', k', n'⟩, -, X', ⟨L, hQ, h3, h4, h5⟩, st⟩ := X.privateBack hx hown hlink hinst hsel hpriv hcode hy hK hg hsize (Steps.refl _) hcell hobj hlen hstack hW hdg (fun _ _ => ⟨ha, eT, hc, hs⟩)
  dsimp only [Pt.U, Pt.locs, Pt.cells, Pt.slots] at X' h3 h4 h5 st hQ
  subst h3 h4 h5
  exact ⟨v, T', L, X', hQ, fun t k => st.trans k⟩
theorem own_callV (X : Stand p l e R s m args below meth c T locs cells slots) (hx : p.tables.exec = Jvm.exec) {own : String} {index : Nat} {C : String} {y z : MethodName} (hown : s.vm.findClass own = some m.cls) (hlink : (Cond.methodLink own index y).before args s = true) (hdecl : (Cond.declares y).before args s = true) (hnf : NotFace s y) (hsel : (Cond.selects C y z).before args s = true) (hinst : (Cond.instanceMethod z).before args s = true) (hy : y.cls ≠ "java/lang/invoke/MethodHandle" ∧ y.cls ≠ "java/lang/invoke/VarHandle") (hK : Back l R p e below s args z 3 W (fun A a => a = as' ∧ A.U.heap = h ∧ A.cells + rm.cells ≤ R.cells ∧ A.slots + rm.slots ≤ R.slots) (fun A _ v B => ∃ L, Q v B.U.heap L ∧ B.locs = A.locs ++ L ∧ B.cells = A.cells + rm.cells ∧ B.slots = A.slots + rm.slots)) {b : Addr} {cB : ClassId} (hcB : s.vm.findClass C = some cB) (hrecv : IsOf cB T b) {g : JFrame} (hg : g.method = m) (hsize : g.locals.size = c.maxLocals) {argsL rest : List Value} (hlen : ∀ sig, parseMethodDescriptor y.desc = some sig → argsL.length = sig.parameters.length) (hstack : g.stack = argsL.reverse ++ .ref b :: rest) (hW : 2 * g.monitorRoom + (rest.map fun v => v.category).sum ≤ W) (hdg : decode c.code g.pc = .ok (.invokevirtual index, 3)) (ha : (.ref b :: argsL).toArray = as') (eT : T.heap = h) (hc : cells + rm.cells ≤ R.cells) (hs : slots + rm.slots ≤ R.slots) (h1 : cells + rm.cells = c') (h2 : slots + rm.slots = s') :
    ∃ (v : Option Value) (T' : State) (L : List Loc), Stand p l e R s m args below meth c T' (locs ++ L) c' s' ∧ Q v T'.heap L ∧ ∀ t, Steps p.tables e below (T'.setTop { g with pc := g.pc + 3, stack := v.toList ++ rest }) t → Steps p.tables e below (T.setTop g) t := by
  subst h1 h2
  obtain ⟨v, vm₁, ⟨T', L', k', n'⟩, -, X', ⟨L, hQ, h3, h4, h5⟩, st⟩ := X.virtualBack hx hown hlink hdecl hnf hsel hinst hy hK hcB hrecv hg hsize (Steps.refl _) hlen hstack hW hdg (fun _ _ => ⟨ha, eT, hc, hs⟩)
  dsimp only [Pt.U, Pt.locs, Pt.cells, Pt.slots] at X' h3 h4 h5 st hQ
  subst h3 h4 h5
  exact ⟨v, T', L, X', hQ, fun t k => st.trans k⟩
theorem own_callF (X : Stand p l e R s m args below meth c T locs cells slots) (hx : p.tables.exec = Jvm.exec) {own : String} {index count : Nat} {C : String} {xi y : MethodName} (hown : s.vm.findClass own = some m.cls) (hlink : (Cond.methodLink own index xi).before args s = true) (hdecl : (Cond.declares xi).before args s = true) (hface : (Cond.interfaceMethod xi.cls xi.cls xi.name xi.desc).before args s = true) (hsel : (Cond.selects C xi y).before args s = true) (hinst : (Cond.instanceMethod y).before args s = true) (hpub : (Cond.publicMethod y).before args s = true) (hunh : (Cond.unhidden C xi.name xi.desc).before args s = true) (hcast : (Cond.castable C xi.cls).before args s = true) (hy : xi.cls ≠ "java/lang/invoke/MethodHandle" ∧ xi.cls ≠ "java/lang/invoke/VarHandle") (hK : Back l R p e below s args y 5 W (fun A a => a = as' ∧ A.U.heap = h ∧ A.cells + rm.cells ≤ R.cells ∧ A.slots + rm.slots ≤ R.slots) (fun A _ v B => ∃ L, Q v B.U.heap L ∧ B.locs = A.locs ++ L ∧ B.cells = A.cells + rm.cells ∧ B.slots = A.slots + rm.slots)) {b : Addr} {cB : ClassId} {kB : Class} (hcB : s.vm.findClass C = some cB) (hkB : s.vm.classes[cB]? = some kB) (hrecv : IsOf cB T b) {g : JFrame} (hg : g.method = m) (hsize : g.locals.size = c.maxLocals) {argsL rest : List Value} (hlen : ∀ sig, parseMethodDescriptor xi.desc = some sig → argsL.length = sig.parameters.length) (hstack : g.stack = argsL.reverse ++ .ref b :: rest) (hW : 2 * g.monitorRoom + (rest.map fun v => v.category).sum ≤ W) (hdg : decode c.code g.pc = .ok (.invokeinterface index count, 5)) (ha : (.ref b :: argsL).toArray = as') (eT : T.heap = h) (hc : cells + rm.cells ≤ R.cells) (hs : slots + rm.slots ≤ R.slots) (h1 : cells + rm.cells = c') (h2 : slots + rm.slots = s') :
    ∃ (v : Option Value) (T' : State) (L : List Loc), Stand p l e R s m args below meth c T' (locs ++ L) c' s' ∧ Q v T'.heap L ∧ ∀ t, Steps p.tables e below (T'.setTop { g with pc := g.pc + 5, stack := v.toList ++ rest }) t → Steps p.tables e below (T.setTop g) t := by
  subst h1 h2
  obtain ⟨v, vm₁, ⟨T', L', k', n'⟩, -, X', ⟨L, hQ, h3, h4, h5⟩, st⟩ := X.interfaceBack hx hown hlink hdecl hface hsel hinst hpub hunh hcast hy hK hcB hkB hrecv hg hsize (Steps.refl _) hlen hstack hW hdg (fun _ _ => ⟨ha, eT, hc, hs⟩)
  dsimp only [Pt.U, Pt.locs, Pt.cells, Pt.slots] at X' h3 h4 h5 st hQ
  subst h3 h4 h5
  exact ⟨v, T', L, X', hQ, fun t k => st.trans k⟩
end OwnCalls
theorem own_z {Z : State} {n0 : Nat} {h : Heap} (O : Old Z n0 h) : n0 ≤ h.size := O.1 ▸ O.2.1
theorem own_oldlt {Z : State} {n0 : Nat} {h : Heap} {a : Addr} (O : Old Z n0 h) (q : a < Z.heap.size) : a < h.size := Nat.lt_of_lt_of_le q O.2.1
theorem own_ext {h h' : Heap} (K : Keep h h' []) : Ext h h' := ⟨K.1, fun x c q => K.2.1 x c q nin0⟩
theorem own_fld0 {args : Array Value} {Z : State} {t : Term} {a : Addr} {C n d : String} {k : Int32} (ev : t.eval args Z none [] Z = some (.ref a)) (h : (Jvm.Cond.eq (Term.field t C n d) (Term.int k)).value args Z none Z [] = some true) : Fld Z Z.heap a C n d (.int k) := by
  cases hv : Z.fieldOf? a C n d with
  | none => simp [Cond.value, Term.eval, ev, hv] at h
  | some x => cases x <;> simp [Cond.value, Term.eval, ev, hv] at h; subst h; exact Fld.start hv
theorem own_nz {args : Array Value} {Z : State} {t : Term} {cz : Int32} (ev : t.eval args Z none [] Z = some (.int cz)) (h : (Jvm.Cond.not (Jvm.Cond.eq t (Term.int (0 : Int32)))).value args Z none Z [] = some true) : ¬ cz = (0 : Int32) := by
  simpa [Cond.value, ev, Term.eval] using h
theorem own_neF {Z : State} {h : Heap} {a b : Addr} {C n d : String} {x y : Value} (F : Fld Z h a C n d x) (G : Fld Z h b C n d y) (q : x ≠ y) : a ≠ b := fun e => by
  subst e
  obtain ⟨c1, cf1, k1, i1, f1, h1, h2, -, -, -, -, h7⟩ := F
  obtain ⟨c2, cf2, k2, i2, f2, g1, g2, -, -, -, -, g7⟩ := G
  cases h1.symm.trans g1
  cases h2.symm.trans g2
  exact q (Option.some.inj (h7.symm.trans g7))
theorem own_rem (x y : Int32) (d : Int) (hd : 0 < d) (hy : y.toInt = d) : 0 ≤ ((x &&& 2147483647) % y).toInt ∧ ((x &&& 2147483647) % y).toInt < d := by
  have h1 := (c_andS x 2147483647).2.2 (by decide)
  have h2 := (c_irem (x &&& 2147483647) y d hy).1 h1
  rw [h2]; exact ⟨Int.emod_nonneg _ (by omega), Int.emod_lt_of_pos _ hd⟩
theorem own_nc (x : Int32) : nar .char ((x &&& 255).toUInt32.toUInt16.toUInt32.toInt32) = x &&& 255 := by
  show ((x &&& 255).toUInt32.toUInt16.toUInt32.toInt32).toUInt32.toUInt16.toUInt32.toInt32 = _
  rw [i2c_mask, i2c_mask]
theorem own_ncm (x : Int32) : nar .char (x &&& 255) = x &&& 255 := i2c_mask x
theorem own_bb (b : Int32) : nar .byte (b.toInt8.toInt32) = b.toInt8.toInt32 := by
  show b.toInt8.toInt32.toInt8.toInt32 = _
  have h1 := c_i2b b
  have h2 := c_i2b b.toInt8.toInt32
  exact Int32.toInt_inj.mp (by omega)
theorem own_neA {Z : State} {h : Heap} {a b : Addr} {C : String} {k : Nat} {a0 : Array Value} {kb : ClassId} {ty : FieldType} {n : Int32} {vs : List Value} {dv : Value} (E : Exa Z h a C) (wi : (Jvm.Cond.instantiable C k).before a0 Z = true) (F : Arv Z h b kb ty n vs dv) : a ≠ b := by
  obtain ⟨c, A, -⟩ := F; exact ne_arr E wi A
theorem own_r255 (x : Int32) : ¬ (x &&& 255) < (0 : Int32) ∧ ¬ (255 : Int32) < (x &&& 255) := by
  have e := c_mask x 255 8 (by decide) (by decide)
  have z0 : (0 : Int32).toInt = 0 := rfl
  have z1 : (255 : Int32).toInt = 255 := rfl
  have z2 : ((2 ^ 8 : Nat) : Int) = 256 := rfl
  constructor <;> rw [Int32.lt_iff_toInt_lt] <;> omega
theorem own_c255 (x : Int32) : ¬ (255 : Int32) < nar .char ((x &&& 255).toUInt32.toUInt16.toUInt32.toInt32) := by rw [own_nc]; exact (own_r255 x).2
theorem own_eqI {x y : Int32} (h : x.toInt = y.toInt) : x = y := Int32.toInt_inj.mp h
/-- a contract in short: what a body leaves, its heap before and its arguments given -/
abbrev own_MF (l : Launch) (y : MethodName) (ws : List Jvm.Cond) (R : Room) (A : Array Value) (Z : State) (h0 : Heap) (Q : Option Value → Heap → List Loc → Prop) : Prop :=
  MetFree l y (head1 ws R) (fun ar_ U => ar_ = A ∧ Z.Warmed39 U.vm ∧ U.heap = h0) (fun _ _ _ _ _ => True) (fun _ U o U' => ∃ v L, o = .returned v ∧ Q v U'.heap L ∧ FrameEnd U o U' L R.cells R.slots)
theorem own_met {l : Launch} {y : MethodName} {ws : List Jvm.Cond} {R : Room} {A : Array Value} {Z : State} {h0 : Heap} {Q : Option Value → Heap → List Loc → Prop} {bytes : ByteArray} {maxL : Nat} {ret : Option FieldType} {own nme : String} (ho : y.cls = own) (hn : y.name = nme) (hpl : plainFor y = true)
    (K : ∀ (p : Program) (e : Env) (s : State) (m : MethodId) (below : List Frame) (meth : Method) (c : Code) (s₁ : State), p.tables.exec = Jvm.exec → c.code = bytes → c.maxLocals = maxL → s.vm.findClass own = some m.cls → meth.name = nme → Stand p l e R s m A below meth c s₁ [] 0 0 → s₁.heap = h0 → meth.sig.returnType = ret → meth.locks = false → Z.Warmed39 s.vm → own_E p e below s R.cells R.slots Q s₁ (entryFrame m A maxL)) :
    own_MF l y (Jvm.Cond.code y bytes maxL ret :: ws) R A Z h0 Q := by
  refine MetFree.of_bodySF hpl hisR ?_
  intro p e s m args below meth c s₁ Bd hml0 hP hK
  obtain ⟨rfl, hZ, hh⟩ := hP
  exact K p e s m below meth c s₁ Bd.exec Bd.bytes hml0 (ho ▸ findClass_of_methodNamed Bd.named) (hn ▸ (name_of_methodNamed Bd.named Bd.method).1) (Stand.of_body Bd) (by rw [← hh, Bd.state]; rfl) Bd.returns Bd.notSynchronized hZ
theorem own_sp {p : Program} {e : Env} {below : List Frame} {s : State} {k n : Nat} {P : Option Value → Heap → List Loc → Prop} {T T' : State} {m : MethodId} {pc q : Nat} {Ls : Array Slot} {S S' : List Value} (h : ∀ t, Steps p.tables e below (T'.setTop (mkF m q Ls S')) t → Steps p.tables e below (T.setTop (mkF m pc Ls S)) t) (E : own_E p e below s k n P T' (mkF m q Ls S')) : own_E p e below s k n P T (mkF m pc Ls S) := own_st h E
theorem wd {Z : State} {a0 : Array Value} (hw : ∀ d ∈ tables_1, d.before a0 Z = true) (i : Nat) {d : Jvm.Cond} (h : tables_1[i]? = some d) : d.before a0 Z = true := hw d (List.mem_of_getElem? h)
section OwnMir
variable {p : Program} {l : Launch} {e : Env} {R : Room} {s : State} {m : MethodId} {args : Array Value} {below : List Frame} {meth : Method} {c : Code} {T : State} {locs : List Loc} {cells slots : Nat} {Z : State} {a0 : Array Value} {h : Heap}
theorem own_NSroot {O K : String} {n : Nat} (w : (Jvm.Cond.noSuperclass O).before a0 Z = true) (wk : (Jvm.Cond.instantiable K n).before a0 Z = true) (hn : O ≠ K) : NS Z O K := by
  obtain ⟨c, k, h1, h2, h3, -, -⟩ := Cond.noSuperclass_spec w
  obtain ⟨t, kt, g1, -⟩ := Cond.instantiable_spec wk
  have ne := ids_ne h1 g1 hn
  refine ⟨c, t, h1, g1, fun fuel => ?_⟩
  cases fuel with
  | zero => rfl
  | succ f => simp [Vm.isSubclassAux, ne, h2, h3]
theorem own_NSno {C S K : String} {n : Nat} (w : (Jvm.Cond.superclass C S).before a0 Z = true) (wk : (Jvm.Cond.instantiable K n).before a0 Z = true) (N : NS Z C K) (hn : C ≠ K) : ∃ c t, Z.vm.findClass C = some c ∧ Z.vm.findClass K = some t ∧ Z.vm.assignable c t = false := by
  obtain ⟨c, t, h0, g0, n3⟩ := N
  obtain ⟨p, k, kp, h1, h2, h3, h4, h5, -, h7⟩ := Cond.superclass_spec h0 w
  obtain ⟨t', k', g1, g2, g5, g7, -⟩ := Cond.instantiable_spec wk
  cases g0.symm.trans g1
  have g8 : k'.isInterface = false := by cases q : k'.isInterface <;> simp [q] at g7 ⊢
  have ne := ids_ne h0 g0 hn
  refine ⟨c, t, h0, g0, ?_⟩
  show Z.vm.assignableAux (255 + 1) c t = false
  simp [Vm.assignableAux, ne, h2, g2, h5, g5, g8, Vm.isSubclass, n3]
/-- the Class object of the class C has been made, at mr -/
def own_Mir (Z : State) (C : String) (mr : Addr) : Prop := ∃ (c : ClassId) (k : Class), Z.vm.findClass C = some c ∧ Z.vm.classes[c]? = some k ∧ k.mirror = some mr
theorem own_ldk (X : Stand p l e R s m args below meth c T locs cells slots) (hx : p.tables.exec = Jvm.exec) (hZ : Z.Warmed39 s.vm) {own C : String} {index : Nat} (hown : s.vm.findClass own = some m.cls) (w : (Jvm.Cond.classLink own index C).before a0 Z = true) (eT : T.heap = h) {mr : Addr} (M : own_Mir Z C mr)
    {g : JFrame} (hg : g.method = m) (hd : decode c.code g.pc = .ok (.ldc index, 2)) : ∃ T', Stand p l e R s m args below meth c T' locs cells slots ∧ T'.heap = h ∧ ∀ target, Steps p.tables e below (T'.setTop { g with pc := g.pc + 2, stack := .ref mr :: g.stack }) target → Steps p.tables e below (T.setTop g) target := by
  obtain ⟨cc, kc, m1, m2, m3⟩ := M
  obtain ⟨k', q, ek⟩ := hZ.alike.2.2 _ _ m2
  have f1 : s.vm.findClass C = some cc := by rw [hZ.alike.findClass]; exact m1
  have hev : (Term.mirror C).eval args s none [] s = some (.ref mr) := by
    have e3 : k'.mirror = some mr := by rw [ek]; exact m3
    simp [Term.eval, f1, q, e3]
  obtain ⟨vm', X', st⟩ := X.ldcMirror hx hown (mvT hZ w) hev hg hd
  exact ⟨_, X', eT, st⟩
abbrev own_gc : MethodName := ⟨"java/lang/Object", "getClass", "()Ljava/lang/Class;"⟩
theorem own_gcls (X : Stand p l e R s m args below meth c T locs cells slots) (hx : p.tables.exec = Jvm.exec) (hZ : Z.Warmed39 s.vm) {own C : String} {index : Nat} {a : Addr} (hown : s.vm.findClass own = some m.cls)
    (w1 : (Jvm.Cond.methodLink own index own_gc).before a0 Z = true) (w2 : (Jvm.Cond.declares own_gc).before a0 Z = true) (w3 : (Jvm.Cond.noSuperclass "java/lang/Object").before a0 Z = true) (w4 : (Jvm.Cond.selects C own_gc own_gc).before a0 Z = true)
    (w5 : (Jvm.Cond.instanceMethod own_gc).before a0 Z = true) (w6 : (Jvm.Cond.native own_gc).before a0 Z = true) (eT : T.heap = h) (E : Exa Z h a C) {mr : Addr} (M : own_Mir Z C mr)
    {g : JFrame} (hg : g.method = m) (hsize : g.locals.size = c.maxLocals) {rest : List Value} (hs : g.stack = .ref a :: rest) (hd : decode c.code g.pc = .ok (.invokevirtual index, 3)) (hf : 1 ≤ R.frames) {W : Nat} (hW : 2 * g.monitorRoom + (rest.map fun v => v.category).sum ≤ W) (hl : W + (nativeFrameWords "java/lang/Object" "getClass" 1 + 11) ≤ R.locals) :
    ∃ T', Stand p l e R s m args below meth c T' locs cells slots ∧ T'.heap = h ∧ ∀ target, Steps p.tables e below (T'.setTop { g with pc := g.pc + 3, stack := .ref mr :: rest }) target → Steps p.tables e below (T.setTop g) target := by
  obtain ⟨cB, kB, i1, i2, i3⟩ := isOf hZ eT E
  obtain ⟨cc, kc, m1, m2, m3⟩ := M
  have i1' := i1
  rw [hZ.alike.findClass] at i1'
  cases i1'.symm.trans m1
  obtain ⟨k', q, ek⟩ := hZ.alike.2.2 _ _ m2
  have nf : NotFace s own_gc := nf_top (args := args) (mvT hZ w3)
  obtain ⟨vm', X', st⟩ := X.getClassOf hx hown (mvT hZ w1) (mvT hZ w2) nf (mvT hZ w4) (mvT hZ w5) (mvT hZ w6) i1 i3 q (by rw [ek]; exact m3) hg hsize hs hd hf (by omega)
  exact ⟨_, X', eT, st⟩
theorem own_exaArv {a : Addr} {k : ClassId} {ty : FieldType} {z : Int32} {vs : List Value} {dv : Value} {C : String} (F : Arv Z h a k ty z vs dv) (hC : Z.vm.findClass C = some k) : Exa Z h a C := by
  obtain ⟨cl, A, q, -⟩ := F
  have hp := A.plain
  obtain ⟨h1, ⟨-, kk, h2, comp, h3⟩, -⟩ := A
  exact ⟨cl, kk, h1, by rw [q]; exact hC, h2, hp, fun z => by rw [h3] at z; cases z⟩
theorem own_insK {h' : Heap} {ws : List Addr} {a : Addr} {C : String} (F : Ins Z h a C true) (K : Keep h h' ws) : Ins Z h' a C true := by
  obtain ⟨cell, t, h1, h2, h3⟩ := F
  obtain ⟨c', q1, q2, q3, -⟩ := K.2.2 _ _ h1
  exact ⟨c', t, q1, h2, by rw [q2, q3]; exact h3⟩
theorem own_kk {a : Addr} {k kO : ClassId} {ty : FieldType} {n : Int32} {C : String} (E : Exa Z h a C) (A : Arr Z h a (newA k ty n) ty) (FC : Z.vm.findClass C = some kO) : kO = k := by
  obtain ⟨cell, k', h1, h2, -⟩ := E
  cases h1.symm.trans A.1
  exact Option.some.inj (FC.symm.trans h2)
theorem own_OV (w : (Jvm.Cond.arrayOver (.object "java/lang/Object")).before a0 Z = true) : ∃ kO, Ovr Z kO "java/lang/Object" ∧ Z.vm.findClass "[Ljava/lang/Object;" = some kO := by
  obtain ⟨comp, c, k, h1, -, h3, h4, h5⟩ := Cond.arrayOver_spec (show (Jvm.Cond.arrayOver (.object "java/lang/Object")).holds a0 Z none Z [] = true from w)
  exact ⟨c, ⟨k, comp, h3, h4, h1⟩, h5⟩
theorem own_callIN {W : Nat} {rm : Room} {as' : Array Value} {Q : Option Value → Heap → List Loc → Prop} {c' s' : Nat} (X : Stand p l e R s m args below meth c T locs cells slots) (hx : p.tables.exec = Jvm.exec) {own host : String} {index : Nat} {y : MethodName} {bytes : ByteArray} {maxL : Nat} (hy1 : y.name = "<init>") (hown : s.vm.findClass own = some m.cls) (hlink : (Jvm.Cond.methodLinkNest own index y host).before args s = true) (hinst : (Jvm.Cond.instanceMethod y).before args s = true) (hcode : (Jvm.Cond.code y bytes maxL none).before args s = true) (hy : y.cls ≠ "java/lang/invoke/MethodHandle" ∧ y.cls ≠ "java/lang/invoke/VarHandle") (hK : Back l R p e below s args y 3 W (fun A a => a = as' ∧ A.U.heap = h ∧ A.cells + rm.cells ≤ R.cells ∧ A.slots + rm.slots ≤ R.slots) (fun A _ v B => ∃ L, Q v B.U.heap L ∧ B.locs = A.locs ++ L ∧ B.cells = A.cells + rm.cells ∧ B.slots = A.slots + rm.slots)) {g : JFrame} (hg : g.method = m) (hsize : g.locals.size = c.maxLocals) {a : Addr} {argsL rest : List Value} (hlen : ∀ sig, parseMethodDescriptor y.desc = some sig → argsL.length = sig.parameters.length) (hstack : g.stack = argsL.reverse ++ .ref a :: rest) (hW : 2 * g.monitorRoom + (rest.map fun v => v.category).sum ≤ W) (hdg : decode c.code g.pc = .ok (.invokespecial index, 3)) (ha : (.ref a :: argsL).toArray = as') (eT : T.heap = h) (hc : cells + rm.cells ≤ R.cells) (hs : slots + rm.slots ≤ R.slots) (h1 : cells + rm.cells = c') (h2 : slots + rm.slots = s') :
    ∃ (v : Option Value) (T' : State) (L : List Loc), Stand p l e R s m args below meth c T' (locs ++ L) c' s' ∧ Q v T'.heap L ∧ ∀ t, Steps p.tables e below (T'.setTop { g with pc := g.pc + 3, stack := v.toList ++ rest }) t → Steps p.tables e below (T.setTop g) t := by
  subst h1 h2
  obtain ⟨v, vm₁, ⟨T', L', k', n'⟩, -, X', ⟨L, hQ, h3, h4, h5⟩, st⟩ := X.specialBackNest hx hy1 hown hlink hinst hcode hy hK hg hsize (Steps.refl _) hlen hstack hW hdg (fun _ _ => ⟨ha, eT, hc, hs⟩)
  dsimp only [Pt.U, Pt.locs, Pt.cells, Pt.slots] at X' h3 h4 h5 st hQ
  subst h3 h4 h5
  exact ⟨v, T', L, X', hQ, fun t k => st.trans k⟩
end OwnMir
theorem own_len0 {Z : State} {args : Array Value} {a : Addr} {cl : Cell} {t : Term} {ty : FieldType} {z : Int32} (ev : t.eval args Z none [] Z = some (.ref a)) (A : Arr Z Z.heap a cl ty) (hl : (Jvm.Cond.eq (Term.length t) (Term.int z)).value args Z none Z [] = some true) : cl.slots.size.toInt32 = z := by
  have hat : Z.arrayAt? a = some cl := A.fin (Vm.Alike.refl _)
  by_cases q : cl.slots.size < 2 ^ 31
  · have e1 := len_f ev hat q
    exact gotT (Cond.eq_ints e1 rfl) hl
  · exfalso
    have e1 : (Term.length t).eval args Z none [] Z = none := by simp [Term.eval, ev, hat, q]
    obtain ⟨x, y, q1, -⟩ := cmp_v (Or.inl hl)
    rw [e1] at q1; cases q1
theorem own_int0 {args : Array Value} {Z : State} {t : Term} {k : Int32} (h : (Jvm.Cond.eq t (Term.int k)).value args Z none Z [] = some true) : t.eval args Z none [] Z = some (.int k) := by
  cases hv : t.eval args Z none [] Z with
  | none => simp [Cond.value, Term.eval, hv] at h
  | some x => cases x <;> simp [Cond.value, Term.eval, hv] at h; subst h; rfl

abbrev own_m0 : MethodName := ⟨"java/lang/StringLatin1", "canEncode", "(C)Z"⟩
abbrev own_m1 : MethodName := ⟨"java/lang/StringLatin1", "toBytes", "(C)[B"⟩
abbrev own_m2 : MethodName := ⟨"java/lang/StringUTF16", "putChar", "([BII)V"⟩
abbrev own_m3 : MethodName := ⟨"java/lang/StringUTF16", "toBytes", "(C)[B"⟩
abbrev own_m4 : MethodName := ⟨"java/lang/String", "<init>", "([BB)V"⟩
abbrev own_m5 : MethodName := ⟨"java/lang/String", "valueOf", "(C)Ljava/lang/String;"⟩
abbrev own_m6 : MethodName := ⟨"java/util/AbstractCollection", "<init>", "()V"⟩
abbrev own_m7 : MethodName := ⟨"java/util/AbstractList", "<init>", "()V"⟩
abbrev own_m8 : MethodName := ⟨"java/util/ArrayList", "<init>", "()V"⟩
abbrev own_m9 : MethodName := ⟨"java/lang/Math", "max", "(II)I"⟩
abbrev own_m10 : MethodName := ⟨"java/util/ArrayList", "grow", "(I)[Ljava/lang/Object;"⟩
abbrev own_m11 : MethodName := ⟨"java/util/ArrayList", "grow", "()[Ljava/lang/Object;"⟩
abbrev own_m12 : MethodName := ⟨"java/util/ArrayList", "add", "(Ljava/lang/Object;[Ljava/lang/Object;I)V"⟩
abbrev own_m13 : MethodName := ⟨"java/util/ArrayList", "add", "(Ljava/lang/Object;)Z"⟩
abbrev own_m14 : MethodName := ⟨"java/util/ArrayList", "size", "()I"⟩
abbrev own_m15 : MethodName := ⟨"java/util/ImmutableCollections$AbstractImmutableCollection", "<init>", "()V"⟩
abbrev own_m16 : MethodName := ⟨"java/util/ImmutableCollections$AbstractImmutableList", "<init>", "()V"⟩
abbrev own_m17 : MethodName := ⟨"java/util/Objects", "requireNonNull", "(Ljava/lang/Object;)Ljava/lang/Object;"⟩
abbrev own_m18 : MethodName := ⟨"java/lang/Math", "min", "(II)I"⟩
abbrev own_m19 : MethodName := ⟨"java/util/ArrayList", "isEmpty", "()Z"⟩
abbrev own_m20 : MethodName := ⟨"java/util/ImmutableCollections$List12", "<init>", "(Ljava/lang/Object;Ljava/lang/Object;)V"⟩
abbrev own_m21 : MethodName := ⟨"java/util/ImmutableCollections$List12", "<init>", "(Ljava/lang/Object;)V"⟩
abbrev own_m22 : MethodName := ⟨"java/util/ImmutableCollections$ListN", "<init>", "([Ljava/lang/Object;Z)V"⟩
abbrev own_m23 : MethodName := ⟨"java/util/Arrays", "copyOf", "([Ljava/lang/Object;ILjava/lang/Class;)[Ljava/lang/Object;"⟩
abbrev own_m24 : MethodName := ⟨"java/util/Arrays", "copyOf", "([Ljava/lang/Object;I)[Ljava/lang/Object;"⟩
abbrev own_m25 : MethodName := ⟨"java/util/ArrayList", "toArray", "()[Ljava/lang/Object;"⟩
abbrev own_m26 : MethodName := ⟨"java/util/List", "of", "([Ljava/lang/Object;)Ljava/util/List;"⟩
abbrev own_m27 : MethodName := ⟨"java/util/Collection", "isEmpty", "()Z"⟩
abbrev own_m28 : MethodName := ⟨"java/util/Collection", "toArray", "()[Ljava/lang/Object;"⟩
abbrev own_m29 : MethodName := ⟨"java/util/ImmutableCollections", "listCopy", "(Ljava/util/Collection;)Ljava/util/List;"⟩
abbrev own_m30 : MethodName := ⟨"java/util/List", "copyOf", "(Ljava/util/Collection;)Ljava/util/List;"⟩
abbrev own_m31 : MethodName := ⟨"java/util/ImmutableCollections", "listFromArray", "([Ljava/lang/Object;)Ljava/util/List;"⟩
abbrev own_m32 : MethodName := ⟨"com/example/rights_leak_checker/rightsleakchecker/takegrant/BridgeToPinLaw", "vertex", "(JI)Ljava/lang/String;"⟩
abbrev own_m33 : MethodName := ⟨"com/example/rights_leak_checker/rightsleakchecker/takegrant/BridgeToPinLaw", "letter", "(I)Lcom/example/rights_leak_checker/rightsleakchecker/takegrant/Bridge$Letter;"⟩
abbrev own_m34 : MethodName := ⟨"java/util/List", "size", "()I"⟩
abbrev own_m35 : MethodName := ⟨"com/example/rights_leak_checker/rightsleakchecker/takegrant/Bridge", "<init>", "(Ljava/util/List;Ljava/util/List;)V"⟩
abbrev own_m36 : MethodName := ⟨"java/util/ImmutableCollections$List12", "size", "()I"⟩
abbrev own_m37 : MethodName := ⟨"java/util/ImmutableCollections$List12", "get", "(I)Ljava/lang/Object;"⟩
abbrev own_m38 : MethodName := ⟨"java/util/List", "get", "(I)Ljava/lang/Object;"⟩
abbrev own_m39 : MethodName := ⟨"com/example/rights_leak_checker/rightsleakchecker/takegrant/Bridge", "to", "()Ljava/lang/String;"⟩
abbrev own_m40 : MethodName := ⟨"java/util/ImmutableCollections$ListN", "size", "()I"⟩
abbrev own_m41 : MethodName := ⟨"java/util/ImmutableCollections$ListN", "get", "(I)Ljava/lang/Object;"⟩
abbrev own_m42 : MethodName := ⟨"java/lang/String", "equals", "(Ljava/lang/Object;)Z"⟩
def own_can (c : Int32) : Int32 := if (255 : Int32) < c then 0 else 1
theorem d3_0 : decode jdk_43_method_3_code 0 = .ok (.iload_n 0, 1) := by decide +kernel
theorem d3_1 : decode jdk_43_method_3_code 1 = .ok (.sipush 255, 3) := by decide +kernel
theorem d3_4 : decode jdk_43_method_3_code 4 = .ok (.if_icmp .gt 7, 3) := by decide +kernel
theorem d3_7 : decode jdk_43_method_3_code 7 = .ok (.iconst 1, 1) := by decide +kernel
theorem d3_8 : decode jdk_43_method_3_code 8 = .ok (.goto 4, 3) := by decide +kernel
theorem d3_11 : decode jdk_43_method_3_code 11 = .ok (.iconst 0, 1) := by decide +kernel
theorem d3_12 : decode jdk_43_method_3_code 12 = .ok (.ireturn, 1) := by decide +kernel
theorem pn_0 : plainName "java/lang/StringLatin1" = true := by first | (simp [plainName, overriddenIn]; done) | decide +kernel
theorem ef_can (m : MethodId) (x0 : Int32) : entryFrame m #[(.int x0)] 1 = mkF m 0 #[iv x0] [] := by first | (simp [entryFrame, mkF, argsToLocals, Value.category]; done) | rfl
def Q_can (Z : State) (cc : Int32) (h0 : Heap) (n0 : Nat) (v : Option Value) (h : Heap) (L : List Loc) : Prop := (v = some (.int (own_can cc))) ∧ (Fr n0 L) ∧ (h = h0)
set_option maxRecDepth 65536 in
set_option maxHeartbeats 40000000 in
theorem rm_can (l : Launch) (Z : State) (a0 : Array Value) (hw : ∀ d ∈ tables_1, d.before a0 Z = true) (ws : List Jvm.Cond) (cc : Int32) (h0 : Heap) (n0 : Nat) (O0 : Old Z n0 h0) :
    own_MF l own_m0 (Jvm.Cond.code own_m0 jdk_43_method_3_code 1 (some .boolean) :: ws) ({ frames := 0, cells := 0, slots := 0, locals := 0 } : Room) #[(.int cc)] Z h0 (Q_can Z cc h0 n0) := by
  refine own_met (own := "java/lang/StringLatin1") (nme := "canEncode") rfl rfl (plainFor_of_name pn_0) ?_
  intro p e s m below meth c s₁ hx hby hml hown hnm X0 e0 hret hlk hZ
  have N0 := Fr.nil n0
  rw [ef_can m cc]
  refine own_st (T' := s₁) (g' := (mkF m 1 #[iv cc] [(.int cc)])) (fun _ k_ => XS.iloadN X0.here hx rfl (hb hby d3_0) rfl  k_) ?_
  refine own_st (T' := s₁) (g' := (mkF m 4 #[iv cc] [(.int (255 : Int32)), (.int cc)])) (fun _ k_ => XS.sipush X0.here hx rfl (hb hby d3_1) k_) ?_
  by_cases hc1 : (255 : Int32) < cc
  · refine own_st (T' := s₁) (g' := (mkF m 11 #[iv cc] [])) (fun _ k_ => XS.icmpYes X0.here hx rfl (pc0 := 4) (pc' := 11) rfl (hb hby d3_4) rfl (tlt hc1).2.2.1 (by decide) (by decide) k_) ?_
    refine own_st (T' := s₁) (g' := (mkF m 12 #[iv cc] [(.int (0 : Int32))])) (fun _ k_ => XS.iconst X0.here hx rfl (hb hby d3_11) k_) ?_
    exact own_retN X0 hx (t := .boolean) hret (by simp) hlk (hb hby d3_12) (by decide) (by decide) ⟨(by unfold own_can; rw [if_pos hc1]; rfl), N0, e0⟩
  · refine own_st (T' := s₁) (g' := (mkF m 7 #[iv cc] [])) (fun _ k_ => XS.icmpNo X0.here hx rfl (hb hby d3_4) rfl (flt hc1).2.2.1 k_) ?_
    refine own_st (T' := s₁) (g' := (mkF m 8 #[iv cc] [(.int (1 : Int32))])) (fun _ k_ => XS.iconst X0.here hx rfl (hb hby d3_7) k_) ?_
    refine own_st (T' := s₁) (g' := (mkF m 12 #[iv cc] [(.int (1 : Int32))])) (fun _ k_ => XS.goto X0.here hx rfl (pc0 := 8) (pc' := 12) rfl (hb hby d3_8) (by decide) (by decide) k_) ?_
    exact own_retN X0 hx (t := .boolean) hret (by simp) hlk (hb hby d3_12) (by decide) (by decide) ⟨(by unfold own_can; rw [if_neg hc1]; rfl), N0, e0⟩
theorem d4_0 : decode jdk_43_method_46_code 0 = .ok (.iconst 1, 1) := by decide +kernel
theorem d4_1 : decode jdk_43_method_46_code 1 = .ok (.newarray .byte, 2) := by decide +kernel
theorem d4_3 : decode jdk_43_method_46_code 3 = .ok (.dup, 1) := by decide +kernel
theorem d4_4 : decode jdk_43_method_46_code 4 = .ok (.iconst 0, 1) := by decide +kernel
theorem d4_5 : decode jdk_43_method_46_code 5 = .ok (.iload_n 0, 1) := by decide +kernel
theorem d4_6 : decode jdk_43_method_46_code 6 = .ok (.i2b, 1) := by decide +kernel
theorem d4_7 : decode jdk_43_method_46_code 7 = .ok (.bastore, 1) := by decide +kernel
theorem d4_8 : decode jdk_43_method_46_code 8 = .ok (.areturn, 1) := by decide +kernel
theorem ef_tb1 (m : MethodId) (x0 : Int32) : entryFrame m #[(.int x0)] 1 = mkF m 0 #[iv x0] [] := by first | (simp [entryFrame, mkF, argsToLocals, Value.category]; done) | rfl
def Q_tb1 (Z : State) (cc : Int32) (h0 : Heap) (n0 : Nat) (v : Option Value) (h : Heap) (L : List Loc) : Prop := ∃ (t : Addr), (v = some (.ref t)) ∧ (Fr n0 L) ∧ (Keep h0 h [])
set_option maxRecDepth 65536 in
set_option maxHeartbeats 40000000 in
theorem rm_tb1 (l : Launch) (Z : State) (a0 : Array Value) (hw : ∀ d ∈ tables_1, d.before a0 Z = true) (ws : List Jvm.Cond) (cc : Int32) (h0 : Heap) (n0 : Nat) (O0 : Old Z n0 h0) :
    own_MF l own_m1 (Jvm.Cond.code own_m1 jdk_43_method_46_code 1 (some (.array .byte)) :: ws) ({ frames := 0, cells := 1, slots := 1, locals := 0 } : Room) #[(.int cc)] Z h0 (Q_tb1 Z cc h0 n0) := by
  refine own_met (own := "java/lang/StringLatin1") (nme := "toBytes") rfl rfl (plainFor_of_name pn_0) ?_
  intro p e s m below meth c s₁ hx hby hml hown hnm X0 e0 hret hlk hZ
  have N0 := Fr.nil n0
  rw [ef_tb1 m cc]
  refine own_st (T' := s₁) (g' := (mkF m 1 #[iv cc] [(.int (1 : Int32))])) (fun _ k_ => XS.iconst X0.here hx rfl (hb hby d4_0) k_) ?_
  obtain ⟨T1, h1, k1, X1, e1, E1, A1, st1⟩ := newP X0 hx hZ (wd hw 21 rfl) e0 (g := (mkF m 1 #[iv cc] [(.int (1 : Int32))])) rfl (hb hby d4_1) rfl (by decide) (cap := 1) (by decide) (by decide) (by decide) (by decide)
  obtain ⟨b1, g1⟩ : ∃ z, z = h0.size := ⟨_, rfl⟩
  rw [← g1] at A1 st1
  have fr1 : n0 ≤ b1 := Nat.le_trans (own_z O0) (Nat.le_of_eq g1.symm)
  have sz1 : h0.size ≤ b1 := Nat.le_trans (Keep.refl h0 []).1 (Nat.le_of_eq g1.symm)
  have V1 : Arv Z h1 b1 k1 .byte (1 : Int32) [(.int (0 : Int32))] (.int (0 : Int32)) := (Arv.new A1 (by decide)).pad (pad_rep [] (.int (0 : Int32)) 1)
  refine own_st (T' := T1) (g' := (mkF m 3 #[iv cc] [(.ref b1)])) st1 ?_
  clear st1
  refine own_st (T' := T1) (g' := (mkF m 4 #[iv cc] [(.ref b1), (.ref b1)])) (fun _ k_ => XS.dup X1.here hx rfl (hb hby d4_3) rfl rfl k_) ?_
  refine own_st (T' := T1) (g' := (mkF m 5 #[iv cc] [(.int (0 : Int32)), (.ref b1), (.ref b1)])) (fun _ k_ => XS.iconst X1.here hx rfl (hb hby d4_4) k_) ?_
  refine own_st (T' := T1) (g' := (mkF m 6 #[iv cc] [(.int cc), (.int (0 : Int32)), (.ref b1), (.ref b1)])) (fun _ k_ => XS.iloadN X1.here hx rfl (hb hby d4_5) rfl  k_) ?_
  refine own_st (T' := T1) (g' := (mkF m 7 #[iv cc] [(.int (cc.toInt8.toInt32)), (.int (0 : Int32)), (.ref b1), (.ref b1)])) (fun _ k_ => XS.i2b X1.here hx rfl (hb hby d4_6) rfl k_) ?_
  obtain ⟨cl2, Ar2, q2, S2, N2, H2, G2⟩ := id V1
  have hin2 : ¬ ((0 : Int32) < 0 ∨ cl2.slots.size ≤ ((0 : Int32)).toNatClampNeg) := inb_of S2 ⟨by decide, by decide⟩
  obtain ⟨T3, h3, X3, e3, W3, st3⟩ := stB X1 hx hZ e1 Ar2 (j := (0 : Int32)) hin2 (g := (mkF m 7 #[iv cc] [(.int (cc.toInt8.toInt32)), (.int (0 : Int32)), (.ref b1), (.ref b1)])) rfl rfl (hb hby d4_7)
  have V3 : Arv Z h3 b1 k1 .byte (1 : Int32) [(.int (nar .byte (cc.toInt8.toInt32)))] (.int (0 : Int32)) := Arv.set Ar2 q2 S2 N2 H2 G2 (fits_nar_byte _) W3 0 rfl (Nat.le_of_ble_eq_true rfl)
  have Vn3 : Arv Z h3 b1 k1 .byte (1 : Int32) [(.int (cc.toInt8.toInt32))] (.int (0 : Int32)) := by simpa only [own_bb] using V3
  have Nx3 := Fr.snoc X3 N0 fr1
  refine own_st (T' := T3) (g' := (mkF m 8 #[iv cc] [(.ref b1)])) st3 ?_
  clear hin2 G2 H2 N2 S2 q2 Ar2 cl2 st3
  have f4 := (Keep.refl h0 []).ext E1
  have f5 := f4.wr W3 (Or.inr sz1)
  exact own_retA X3 hx hret rfl rfl hlk (hb hby d4_8) (by decide) (by decide) (by rw [e3]; exact ⟨b1, rfl, Nx3, f5⟩)
theorem d8_0 : decode jdk_52_method_4_code 0 = .ok (.getstatic 44, 3) := by decide +kernel
theorem d8_3 : decode jdk_52_method_4_code 3 = .ok (.ifCond .ne 25, 3) := by decide +kernel
theorem d8_28 : decode jdk_52_method_4_code 28 = .ok (.iload_n 1, 1) := by decide +kernel
theorem d8_29 : decode jdk_52_method_4_code 29 = .ok (.iconst 1, 1) := by decide +kernel
theorem d8_30 : decode jdk_52_method_4_code 30 = .ok (.ishl, 1) := by decide +kernel
theorem d8_31 : decode jdk_52_method_4_code 31 = .ok (.istore_n 1, 1) := by decide +kernel
theorem d8_32 : decode jdk_52_method_4_code 32 = .ok (.aload_n 0, 1) := by decide +kernel
theorem d8_33 : decode jdk_52_method_4_code 33 = .ok (.iload_n 1, 1) := by decide +kernel
theorem d8_34 : decode jdk_52_method_4_code 34 = .ok (.iinc 1 1, 3) := by decide +kernel
theorem d8_37 : decode jdk_52_method_4_code 37 = .ok (.iload_n 2, 1) := by decide +kernel
theorem d8_38 : decode jdk_52_method_4_code 38 = .ok (.getstatic 59, 3) := by decide +kernel
theorem d8_41 : decode jdk_52_method_4_code 41 = .ok (.ishr, 1) := by decide +kernel
theorem d8_42 : decode jdk_52_method_4_code 42 = .ok (.i2b, 1) := by decide +kernel
theorem d8_43 : decode jdk_52_method_4_code 43 = .ok (.bastore, 1) := by decide +kernel
theorem d8_44 : decode jdk_52_method_4_code 44 = .ok (.aload_n 0, 1) := by decide +kernel
theorem d8_45 : decode jdk_52_method_4_code 45 = .ok (.iload_n 1, 1) := by decide +kernel
theorem d8_46 : decode jdk_52_method_4_code 46 = .ok (.iload_n 2, 1) := by decide +kernel
theorem d8_47 : decode jdk_52_method_4_code 47 = .ok (.getstatic 63, 3) := by decide +kernel
theorem d8_50 : decode jdk_52_method_4_code 50 = .ok (.ishr, 1) := by decide +kernel
theorem d8_51 : decode jdk_52_method_4_code 51 = .ok (.i2b, 1) := by decide +kernel
theorem d8_52 : decode jdk_52_method_4_code 52 = .ok (.bastore, 1) := by decide +kernel
theorem d8_53 : decode jdk_52_method_4_code 53 = .ok (.return_, 1) := by decide +kernel
theorem pn_1 : plainName "java/lang/StringUTF16" = true := by first | (simp [plainName, overriddenIn]; done) | decide +kernel
theorem ef_putc (m : MethodId) (x0 : Addr) (x1 : Int32) (x2 : Int32) : entryFrame m #[(.ref x0), (.int x1), (.int x2)] 3 = mkF m 0 #[rv x0, iv x1, iv x2] [] := by first | (simp [entryFrame, mkF, argsToLocals, Value.category]; done) | rfl
def Q_putc (Z : State) (t : Addr) (kt : ClassId) (cc : Int32) (h0 : Heap) (n0 : Nat) (v : Option Value) (h : Heap) (L : List Loc) : Prop := (v = none) ∧ (Fr n0 L) ∧ (Keep h0 h [t])
set_option maxRecDepth 65536 in
set_option maxHeartbeats 40000000 in
theorem rm_putc (l : Launch) (Z : State) (a0 : Array Value) (hw : ∀ d ∈ tables_1, d.before a0 Z = true) (ws : List Jvm.Cond) (t : Addr) (kt : ClassId) (cc : Int32) (h0 : Heap) (n0 : Nat) (O0 : Old Z n0 h0) (VT : Arv Z h0 t kt .byte (2 : Int32) [(.int (0 : Int32)), (.int (0 : Int32))] (.int (0 : Int32))) (ft : n0 ≤ t) (SA : Sta Z Z.heap "java/lang/StringUTF16" "$assertionsDisabled" "Z" (.int (1 : Int32))) (SHI : Sta Z Z.heap "java/lang/StringUTF16" "HI_BYTE_SHIFT" "I" (.int (0 : Int32))) (SLO : Sta Z Z.heap "java/lang/StringUTF16" "LO_BYTE_SHIFT" "I" (.int (8 : Int32))) :
    own_MF l own_m2 (Jvm.Cond.code own_m2 jdk_52_method_4_code 3 none :: ws) ({ frames := 0, cells := 0, slots := 0, locals := 0 } : Room) #[(.ref t), (.int (0 : Int32)), (.int cc)] Z h0 (Q_putc Z t kt cc h0 n0) := by
  refine own_met (own := "java/lang/StringUTF16") (nme := "putChar") rfl rfl (plainFor_of_name pn_1) ?_
  intro p e s m below meth c s₁ hx hby hml hown hnm X0 e0 hret hlk hZ
  have N0 := Fr.nil n0
  rw [ef_putc m t (0 : Int32) cc]
  obtain ⟨T1, X1, e1, st1⟩ := getS2 X0 hx hZ hown (host := "") (Or.inl (wd hw 40 rfl)) Via.refl e0 (SA.ext O0.2) (g := (mkF m 0 #[rv t, iv (0 : Int32), iv cc] [])) rfl (hb hby d8_0)
  refine own_st (T' := T1) (g' := (mkF m 3 #[rv t, iv (0 : Int32), iv cc] [(.int (1 : Int32))])) st1 ?_
  clear st1
  refine own_st (T' := T1) (g' := (mkF m 28 #[rv t, iv (0 : Int32), iv cc] [])) (fun _ k_ => XS.ifYes X1.here hx rfl (pc0 := 3) (pc' := 28) rfl (hb hby d8_3) rfl ((if0 _ _).trans (feq (by decide : ¬ ((1 : Int32) = (0 : Int32)))).2) (by decide) (by decide) k_) ?_
  refine own_st (T' := T1) (g' := (mkF m 29 #[rv t, iv (0 : Int32), iv cc] [(.int (0 : Int32))])) (fun _ k_ => XS.iloadN X1.here hx rfl (hb hby d8_28) rfl  k_) ?_
  refine own_st (T' := T1) (g' := (mkF m 30 #[rv t, iv (0 : Int32), iv cc] [(.int (1 : Int32)), (.int (0 : Int32))])) (fun _ k_ => XS.iconst X1.here hx rfl (hb hby d8_29) k_) ?_
  refine own_st (T' := T1) (g' := (mkF m 31 #[rv t, iv (0 : Int32), iv cc] [(.int (0 : Int32))])) (fun _ k_ => XS.ishl X1.here hx rfl (hb hby d8_30) rfl k_) ?_
  refine own_st (T' := T1) (g' := (mkF m 32 #[rv t, iv (0 : Int32), iv cc] [])) (fun _ k_ => XS.istoreN X1.here hx rfl (hb hby d8_31) rfl (l' := #[rv t, iv (0 : Int32), iv cc]) rfl k_) ?_
  refine own_st (T' := T1) (g' := (mkF m 33 #[rv t, iv (0 : Int32), iv cc] [(.ref t)])) (fun _ k_ => XS.aloadN X1.here hx rfl (hb hby d8_32) rfl rfl  k_) ?_
  refine own_st (T' := T1) (g' := (mkF m 34 #[rv t, iv (0 : Int32), iv cc] [(.int (0 : Int32)), (.ref t)])) (fun _ k_ => XS.iloadN X1.here hx rfl (hb hby d8_33) rfl  k_) ?_
  refine own_st (T' := T1) (g' := (mkF m 37 #[rv t, iv (1 : Int32), iv cc] [(.int (0 : Int32)), (.ref t)])) (fun _ k_ => XS.iinc X1.here hx rfl (hb hby d8_34) rfl (l' := #[rv t, iv (1 : Int32), iv cc]) rfl k_) ?_
  refine own_st (T' := T1) (g' := (mkF m 38 #[rv t, iv (1 : Int32), iv cc] [(.int cc), (.int (0 : Int32)), (.ref t)])) (fun _ k_ => XS.iloadN X1.here hx rfl (hb hby d8_37) rfl  k_) ?_
  obtain ⟨T2, X2, e2, st2⟩ := getS2 X1 hx hZ hown (host := "") (Or.inl (wd hw 41 rfl)) Via.refl e1 (SHI.ext O0.2) (g := (mkF m 38 #[rv t, iv (1 : Int32), iv cc] [(.int cc), (.int (0 : Int32)), (.ref t)])) rfl (hb hby d8_38)
  refine own_st (T' := T2) (g' := (mkF m 41 #[rv t, iv (1 : Int32), iv cc] [(.int (0 : Int32)), (.int cc), (.int (0 : Int32)), (.ref t)])) st2 ?_
  clear st2
  refine own_st (T' := T2) (g' := (mkF m 42 #[rv t, iv (1 : Int32), iv cc] [(.int (cc >>> ((0 : Int32) &&& 31))), (.int (0 : Int32)), (.ref t)])) (fun _ k_ => XS.ishr X2.here hx rfl (hb hby d8_41) rfl k_) ?_
  refine own_st (T' := T2) (g' := (mkF m 43 #[rv t, iv (1 : Int32), iv cc] [(.int ((cc >>> ((0 : Int32) &&& 31)).toInt8.toInt32)), (.int (0 : Int32)), (.ref t)])) (fun _ k_ => XS.i2b X2.here hx rfl (hb hby d8_42) rfl k_) ?_
  obtain ⟨cl3, Ar3, q3, S3, N3, H3, G3⟩ := id VT
  have hin3 : ¬ ((0 : Int32) < 0 ∨ cl3.slots.size ≤ ((0 : Int32)).toNatClampNeg) := inb_of S3 ⟨by decide, by decide⟩
  obtain ⟨T4, h4, X4, e4, W4, st4⟩ := stB X2 hx hZ e2 Ar3 (j := (0 : Int32)) hin3 (g := (mkF m 43 #[rv t, iv (1 : Int32), iv cc] [(.int ((cc >>> ((0 : Int32) &&& 31)).toInt8.toInt32)), (.int (0 : Int32)), (.ref t)])) rfl rfl (hb hby d8_43)
  have V4 : Arv Z h4 t kt .byte (2 : Int32) [(.int (nar .byte ((cc >>> ((0 : Int32) &&& 31)).toInt8.toInt32))), (.int (0 : Int32))] (.int (0 : Int32)) := Arv.set Ar3 q3 S3 N3 H3 G3 (fits_nar_byte _) W4 0 rfl (Nat.le_of_ble_eq_true rfl)
  have Vn4 : Arv Z h4 t kt .byte (2 : Int32) [(.int ((cc >>> ((0 : Int32) &&& 31)).toInt8.toInt32)), (.int (0 : Int32))] (.int (0 : Int32)) := by simpa only [own_bb] using V4
  have Nx4 := Fr.snoc X4 N0 ft
  refine own_st (T' := T4) (g' := (mkF m 44 #[rv t, iv (1 : Int32), iv cc] [])) st4 ?_
  clear hin3 G3 H3 N3 S3 q3 Ar3 cl3 st4
  refine own_st (T' := T4) (g' := (mkF m 45 #[rv t, iv (1 : Int32), iv cc] [(.ref t)])) (fun _ k_ => XS.aloadN X4.here hx rfl (hb hby d8_44) rfl rfl  k_) ?_
  refine own_st (T' := T4) (g' := (mkF m 46 #[rv t, iv (1 : Int32), iv cc] [(.int (1 : Int32)), (.ref t)])) (fun _ k_ => XS.iloadN X4.here hx rfl (hb hby d8_45) rfl  k_) ?_
  refine own_st (T' := T4) (g' := (mkF m 47 #[rv t, iv (1 : Int32), iv cc] [(.int cc), (.int (1 : Int32)), (.ref t)])) (fun _ k_ => XS.iloadN X4.here hx rfl (hb hby d8_46) rfl  k_) ?_
  have f5 := O0.wr W4 ft
  obtain ⟨T6, X6, e6, st6⟩ := getS2 X4 hx hZ hown (host := "") (Or.inl (wd hw 42 rfl)) Via.refl e4 (SLO.ext f5.2) (g := (mkF m 47 #[rv t, iv (1 : Int32), iv cc] [(.int cc), (.int (1 : Int32)), (.ref t)])) rfl (hb hby d8_47)
  refine own_st (T' := T6) (g' := (mkF m 50 #[rv t, iv (1 : Int32), iv cc] [(.int (8 : Int32)), (.int cc), (.int (1 : Int32)), (.ref t)])) st6 ?_
  clear st6
  refine own_st (T' := T6) (g' := (mkF m 51 #[rv t, iv (1 : Int32), iv cc] [(.int (cc >>> ((8 : Int32) &&& 31))), (.int (1 : Int32)), (.ref t)])) (fun _ k_ => XS.ishr X6.here hx rfl (hb hby d8_50) rfl k_) ?_
  refine own_st (T' := T6) (g' := (mkF m 52 #[rv t, iv (1 : Int32), iv cc] [(.int ((cc >>> ((8 : Int32) &&& 31)).toInt8.toInt32)), (.int (1 : Int32)), (.ref t)])) (fun _ k_ => XS.i2b X6.here hx rfl (hb hby d8_51) rfl k_) ?_
  obtain ⟨cl7, Ar7, q7, S7, N7, H7, G7⟩ := id Vn4
  have hin7 : ¬ ((1 : Int32) < 0 ∨ cl7.slots.size ≤ ((1 : Int32)).toNatClampNeg) := inb_of S7 ⟨by decide, by decide⟩
  obtain ⟨T8, h8, X8, e8, W8, st8⟩ := stB X6 hx hZ e6 Ar7 (j := (1 : Int32)) hin7 (g := (mkF m 52 #[rv t, iv (1 : Int32), iv cc] [(.int ((cc >>> ((8 : Int32) &&& 31)).toInt8.toInt32)), (.int (1 : Int32)), (.ref t)])) rfl rfl (hb hby d8_52)
  have V8 : Arv Z h8 t kt .byte (2 : Int32) [(.int ((cc >>> ((0 : Int32) &&& 31)).toInt8.toInt32)), (.int (nar .byte ((cc >>> ((8 : Int32) &&& 31)).toInt8.toInt32)))] (.int (0 : Int32)) := Arv.set Ar7 q7 S7 N7 H7 G7 (fits_nar_byte _) W8 1 rfl (Nat.le_of_ble_eq_true rfl)
  have Vn8 : Arv Z h8 t kt .byte (2 : Int32) [(.int ((cc >>> ((0 : Int32) &&& 31)).toInt8.toInt32)), (.int ((cc >>> ((8 : Int32) &&& 31)).toInt8.toInt32))] (.int (0 : Int32)) := by simpa only [own_bb] using V8
  have Nx8 := Fr.snoc X8 Nx4 ft
  refine own_st (T' := T8) (g' := (mkF m 53 #[rv t, iv (1 : Int32), iv cc] [])) st8 ?_
  clear hin7 G7 H7 N7 S7 q7 Ar7 cl7 st8
  have f9 := (Keep.refl h0 [t]).wr W4 (Or.inl (List.mem_of_getElem? (i := 0) rfl))
  have f10 := f9.wr W8 (Or.inl (List.mem_of_getElem? (i := 0) rfl))
  exact own_retV X8 hx hret hlk (hb hby d8_53) (by decide) (by decide) (by rw [e8]; exact ⟨rfl, Nx8, f10⟩)
theorem d7_0 : decode jdk_52_method_24_code 0 = .ok (.iconst 2, 1) := by decide +kernel
theorem d7_1 : decode jdk_52_method_24_code 1 = .ok (.newarray .byte, 2) := by decide +kernel
theorem d7_3 : decode jdk_52_method_24_code 3 = .ok (.astore_n 1, 1) := by decide +kernel
theorem d7_4 : decode jdk_52_method_24_code 4 = .ok (.aload_n 1, 1) := by decide +kernel
theorem d7_5 : decode jdk_52_method_24_code 5 = .ok (.iconst 0, 1) := by decide +kernel
theorem d7_6 : decode jdk_52_method_24_code 6 = .ok (.iload_n 0, 1) := by decide +kernel
theorem d7_7 : decode jdk_52_method_24_code 7 = .ok (.invokestatic 111, 3) := by decide +kernel
theorem d7_10 : decode jdk_52_method_24_code 10 = .ok (.aload_n 1, 1) := by decide +kernel
theorem d7_11 : decode jdk_52_method_24_code 11 = .ok (.areturn, 1) := by decide +kernel
theorem pd___BII_V : parseMethodDescriptor "([BII)V" = some ⟨[(.array .byte), .int, .int], none⟩ := by decide +kernel
theorem ef_tb2 (m : MethodId) (x0 : Int32) : entryFrame m #[(.int x0)] 2 = mkF m 0 #[iv x0, .unset] [] := by first | (simp [entryFrame, mkF, argsToLocals, Value.category]; done) | rfl
def Q_tb2 (Z : State) (cc : Int32) (h0 : Heap) (n0 : Nat) (v : Option Value) (h : Heap) (L : List Loc) : Prop := ∃ (t : Addr), (v = some (.ref t)) ∧ (Fr n0 L) ∧ (Keep h0 h [])
set_option maxRecDepth 65536 in
set_option maxHeartbeats 40000000 in
theorem rm_tb2 (l : Launch) (Z : State) (a0 : Array Value) (hw : ∀ d ∈ tables_1, d.before a0 Z = true) (ws : List Jvm.Cond) (cc : Int32) (h0 : Heap) (n0 : Nat) (O0 : Old Z n0 h0) (SA : Sta Z Z.heap "java/lang/StringUTF16" "$assertionsDisabled" "Z" (.int (1 : Int32))) (SHI : Sta Z Z.heap "java/lang/StringUTF16" "HI_BYTE_SHIFT" "I" (.int (0 : Int32))) (SLO : Sta Z Z.heap "java/lang/StringUTF16" "LO_BYTE_SHIFT" "I" (.int (8 : Int32))) :
    own_MF l own_m3 (Jvm.Cond.code own_m3 jdk_52_method_24_code 2 (some (.array .byte)) :: ws) ({ frames := 1, cells := 1, slots := 2, locals := 14 } : Room) #[(.int cc)] Z h0 (Q_tb2 Z cc h0 n0) := by
  refine own_met (own := "java/lang/StringUTF16") (nme := "toBytes") rfl rfl (plainFor_of_name pn_1) ?_
  intro p e s m below meth c s₁ hx hby hml hown hnm X0 e0 hret hlk hZ
  have N0 := Fr.nil n0
  rw [ef_tb2 m cc]
  refine own_st (T' := s₁) (g' := (mkF m 1 #[iv cc, .unset] [(.int (2 : Int32))])) (fun _ k_ => XS.iconst X0.here hx rfl (hb hby d7_0) k_) ?_
  obtain ⟨T1, h1, k1, X1, e1, E1, A1, st1⟩ := newP X0 hx hZ (wd hw 21 rfl) e0 (g := (mkF m 1 #[iv cc, .unset] [(.int (2 : Int32))])) rfl (hb hby d7_1) rfl (by decide) (cap := 2) (by decide) (by decide) (by decide) (by decide)
  obtain ⟨b1, g1⟩ : ∃ z, z = h0.size := ⟨_, rfl⟩
  rw [← g1] at A1 st1
  have fr1 : n0 ≤ b1 := Nat.le_trans (own_z O0) (Nat.le_of_eq g1.symm)
  have sz1 : h0.size ≤ b1 := Nat.le_trans (Keep.refl h0 []).1 (Nat.le_of_eq g1.symm)
  have V1 : Arv Z h1 b1 k1 .byte (2 : Int32) [(.int (0 : Int32)), (.int (0 : Int32))] (.int (0 : Int32)) := (Arv.new A1 (by decide)).pad (pad_rep [] (.int (0 : Int32)) 2)
  refine own_st (T' := T1) (g' := (mkF m 3 #[iv cc, .unset] [(.ref b1)])) st1 ?_
  clear st1
  refine own_st (T' := T1) (g' := (mkF m 4 #[iv cc, rv b1] [])) (fun _ k_ => XS.astoreN X1.here hx rfl (hb hby d7_3) rfl rfl (l' := #[iv cc, rv b1]) rfl k_) ?_
  refine own_st (T' := T1) (g' := (mkF m 5 #[iv cc, rv b1] [(.ref b1)])) (fun _ k_ => XS.aloadN X1.here hx rfl (hb hby d7_4) rfl rfl  k_) ?_
  refine own_st (T' := T1) (g' := (mkF m 6 #[iv cc, rv b1] [(.int (0 : Int32)), (.ref b1)])) (fun _ k_ => XS.iconst X1.here hx rfl (hb hby d7_5) k_) ?_
  refine own_st (T' := T1) (g' := (mkF m 7 #[iv cc, rv b1] [(.int cc), (.int (0 : Int32)), (.ref b1)])) (fun _ k_ => XS.iloadN X1.here hx rfl (hb hby d7_6) rfl  k_) ?_
  have f2 := O0.ext E1
  obtain ⟨_, T3, L3, X3, hQ3, st3⟩ := own_callS X1 hx (y := own_m2) hown (mvT hZ (wd hw 37 rfl)) (mvT hZ (wd hw 38 rfl)) (mvT hZ (wd hw 35 rfl)) (mvT hZ (wd hw 39 rfl)) (by decide) (backOf (W := 0) (rm_putc l Z a0 hw [] b1 k1 cc h1 n0 f2 V1 fr1 SA SHI SLO) hZ (wd hw 39 rfl) (wd hw 35 rfl) (by decide) (by decide)) (g := (mkF m 7 #[iv cc, rv b1] [(.int cc), (.int (0 : Int32)), (.ref b1)])) rfl (by rw [hml]; rfl) (argsL := [(.ref b1), (.int (0 : Int32)), (.int cc)]) (rest := []) (lenOf pd___BII_V rfl) rfl (by show 2 * 0 + _ ≤ _; exact Nat.le_of_eq rfl) (hb hby d7_7) rfl e1 (by decide) (by decide) (c' := 1) (s' := 2) rfl rfl
  obtain ⟨rfl, Nq3, K3⟩ := hQ3
  have N3 := Fr.app N0 Nq3
  refine own_st (T' := T3) (g' := (mkF m 10 #[iv cc, rv b1] [])) st3 ?_
  clear st3
  refine own_st (T' := T3) (g' := (mkF m 11 #[iv cc, rv b1] [(.ref b1)])) (fun _ k_ => XS.aloadN X3.here hx rfl (hb hby d7_10) rfl rfl  k_) ?_
  have f4 := (Keep.refl h0 []).ext E1
  have f5 := f4.trans K3 (allS (Or.inr sz1) all0)
  exact own_retA X3 hx hret rfl rfl hlk (hb hby d7_11) (by decide) (by decide) ⟨b1, rfl, N3, f5⟩
theorem d5_0 : decode jdk_42_method_151_code 0 = .ok (.aload_n 0, 1) := by decide +kernel
theorem d5_1 : decode jdk_42_method_151_code 1 = .ok (.invokespecial 1, 3) := by decide +kernel
theorem d5_4 : decode jdk_42_method_151_code 4 = .ok (.aload_n 0, 1) := by decide +kernel
theorem d5_5 : decode jdk_42_method_151_code 5 = .ok (.aload_n 1, 1) := by decide +kernel
theorem d5_6 : decode jdk_42_method_151_code 6 = .ok (.putfield 9, 3) := by decide +kernel
theorem d5_9 : decode jdk_42_method_151_code 9 = .ok (.aload_n 0, 1) := by decide +kernel
theorem d5_10 : decode jdk_42_method_151_code 10 = .ok (.iload_n 2, 1) := by decide +kernel
theorem d5_11 : decode jdk_42_method_151_code 11 = .ok (.putfield 15, 3) := by decide +kernel
theorem d5_14 : decode jdk_42_method_151_code 14 = .ok (.return_, 1) := by decide +kernel
theorem pn_2 : plainName "java/lang/String" = true := by first | (simp [plainName, overriddenIn]; done) | decide +kernel
theorem ef_inb0 (m : MethodId) (x0 : Addr) (x1 : Addr) (x2 : Int32) : entryFrame m #[(.ref x0), (.ref x1), (.int x2)] 3 = mkF m 0 #[rv x0, rv x1, iv x2] [] := by first | (simp [entryFrame, mkF, argsToLocals, Value.category]; done) | rfl
def Q_inb0 (Z : State) (a : Addr) (t : Addr) (h0 : Heap) (n0 : Nat) (v : Option Value) (h : Heap) (L : List Loc) : Prop := (v = none) ∧ (Fr n0 L) ∧ (Keep h0 h [a]) ∧ (Exa Z h a "java/lang/String")
set_option maxRecDepth 65536 in
set_option maxHeartbeats 40000000 in
theorem rm_inb0 (l : Launch) (Z : State) (a0 : Array Value) (hw : ∀ d ∈ tables_1, d.before a0 Z = true) (ws : List Jvm.Cond) (a : Addr) (t : Addr) (h0 : Heap) (n0 : Nat) (O0 : Old Z n0 h0) (EA : Exa Z h0 a "java/lang/String") (FV : Fld Z h0 a "java/lang/String" "value" "[B" .null) (FCo : Fld Z h0 a "java/lang/String" "coder" "B" (.int (0 : Int32))) (fa : n0 ≤ a) :
    own_MF l own_m4 (Jvm.Cond.code own_m4 jdk_42_method_151_code 3 none :: ws) ({ frames := 1, cells := 0, slots := 0, locals := 12 } : Room) #[(.ref a), (.ref t), (.int (0 : Int32))] Z h0 (Q_inb0 Z a t h0 n0) := by
  refine own_met (own := "java/lang/String") (nme := "<init>") rfl rfl (plainFor_of_name pn_2) ?_
  intro p e s m below meth c s₁ hx hby hml hown hnm X0 e0 hret hlk hZ
  have N0 := Fr.nil n0
  rw [ef_inb0 m a t (0 : Int32)]
  refine own_st (T' := s₁) (g' := (mkF m 1 #[rv a, rv t, iv (0 : Int32)] [(.ref a)])) (fun _ k_ => XS.aloadN X0.here hx rfl (hb hby d5_0) rfl rfl  k_) ?_
  obtain ⟨T1, X1, e1, st1⟩ := initO X0 hx hZ hown (wd hw 26 rfl) (wd hw 27 rfl) (wd hw 28 rfl) e0 (g := (mkF m 1 #[rv a, rv t, iv (0 : Int32)] [(.ref a)])) rfl (by rw [hml]; rfl) rfl (hb hby d5_1) (by decide) (W := 0) (by show 2 * 0 + _ ≤ _; exact Nat.le_of_eq rfl) (by decide)
  refine own_st (T' := T1) (g' := (mkF m 4 #[rv a, rv t, iv (0 : Int32)] [])) st1 ?_
  clear st1
  refine own_st (T' := T1) (g' := (mkF m 5 #[rv a, rv t, iv (0 : Int32)] [(.ref a)])) (fun _ k_ => XS.aloadN X1.here hx rfl (hb hby d5_4) rfl rfl  k_) ?_
  refine own_st (T' := T1) (g' := (mkF m 6 #[rv a, rv t, iv (0 : Int32)] [(.ref t), (.ref a)])) (fun _ k_ => XS.aloadN X1.here hx rfl (hb hby d5_5) rfl rfl  k_) ?_
  obtain ⟨T2, h2, X2, e2, W2, st2⟩ := putF X1 hx hZ hown (host := "") (Or.inl (wd hw 29 rfl)) Via.refl e1 FV EA (Or.inr ⟨(wd hw 30 rfl), rfl, hnm⟩) (wd hw 17 rfl) (ty := (.array .byte)) (by decide) rfl rfl (g := (mkF m 6 #[rv a, rv t, iv (0 : Int32)] [(.ref t), (.ref a)])) rfl rfl (hb hby d5_6)
  have Fw2 : Fld Z h2 a "java/lang/String" "value" "[B" (.ref t) := Fld.same W2 FV
  have N2 := Fr.snoc X2 N0 fa
  refine own_st (T' := T2) (g' := (mkF m 9 #[rv a, rv t, iv (0 : Int32)] [])) st2 ?_
  clear st2
  refine own_st (T' := T2) (g' := (mkF m 10 #[rv a, rv t, iv (0 : Int32)] [(.ref a)])) (fun _ k_ => XS.aloadN X2.here hx rfl (hb hby d5_9) rfl rfl  k_) ?_
  refine own_st (T' := T2) (g' := (mkF m 11 #[rv a, rv t, iv (0 : Int32)] [(.int (0 : Int32)), (.ref a)])) (fun _ k_ => XS.iloadN X2.here hx rfl (hb hby d5_10) rfl  k_) ?_
  have f3 := EA.wr W2
  have f4 := FCo.other W2 (Or.inr (slot_ne (Or.inr (wd hw 32 rfl)) (Or.inr (wd hw 30 rfl)) (by decide) (t := .byte) (t' := (.array .byte)) (by decide) (by decide)))
  obtain ⟨T5, h5, X5, e5, W5, st5⟩ := putFN X2 hx hZ hown (wd hw 31 rfl) Via.refl e2 f4 f3 (Or.inr ⟨(wd hw 32 rfl), rfl, hnm⟩) (wd hw 17 rfl) (ty := .byte) (v' := (.int (0 : Int32))) (by decide) rfl (by decide) (g := (mkF m 11 #[rv a, rv t, iv (0 : Int32)] [(.int (0 : Int32)), (.ref a)])) rfl rfl (hb hby d5_11)
  have Fw5 : Fld Z h5 a "java/lang/String" "coder" "B" (.int (0 : Int32)) := Fld.same W5 f4
  have N5 := Fr.snoc X5 N2 fa
  refine own_st (T' := T5) (g' := (mkF m 14 #[rv a, rv t, iv (0 : Int32)] [])) st5 ?_
  clear st5
  have f6 := (Keep.refl h0 [a]).wr W2 (Or.inl (List.mem_of_getElem? (i := 0) rfl))
  have f7 := f6.wr W5 (Or.inl (List.mem_of_getElem? (i := 0) rfl))
  have f8 := f3.wr W5
  exact own_retV X5 hx hret hlk (hb hby d5_14) (by decide) (by decide) (by rw [e5]; exact ⟨rfl, N5, f7, f8⟩)
theorem ef_inb1 (m : MethodId) (x0 : Addr) (x1 : Addr) (x2 : Int32) : entryFrame m #[(.ref x0), (.ref x1), (.int x2)] 3 = mkF m 0 #[rv x0, rv x1, iv x2] [] := by first | (simp [entryFrame, mkF, argsToLocals, Value.category]; done) | rfl
def Q_inb1 (Z : State) (a : Addr) (t : Addr) (h0 : Heap) (n0 : Nat) (v : Option Value) (h : Heap) (L : List Loc) : Prop := (v = none) ∧ (Fr n0 L) ∧ (Keep h0 h [a]) ∧ (Exa Z h a "java/lang/String")
set_option maxRecDepth 65536 in
set_option maxHeartbeats 40000000 in
theorem rm_inb1 (l : Launch) (Z : State) (a0 : Array Value) (hw : ∀ d ∈ tables_1, d.before a0 Z = true) (ws : List Jvm.Cond) (a : Addr) (t : Addr) (h0 : Heap) (n0 : Nat) (O0 : Old Z n0 h0) (EA : Exa Z h0 a "java/lang/String") (FV : Fld Z h0 a "java/lang/String" "value" "[B" .null) (FCo : Fld Z h0 a "java/lang/String" "coder" "B" (.int (0 : Int32))) (fa : n0 ≤ a) :
    own_MF l own_m4 (Jvm.Cond.code own_m4 jdk_42_method_151_code 3 none :: ws) ({ frames := 1, cells := 0, slots := 0, locals := 12 } : Room) #[(.ref a), (.ref t), (.int (1 : Int32))] Z h0 (Q_inb1 Z a t h0 n0) := by
  refine own_met (own := "java/lang/String") (nme := "<init>") rfl rfl (plainFor_of_name pn_2) ?_
  intro p e s m below meth c s₁ hx hby hml hown hnm X0 e0 hret hlk hZ
  have N0 := Fr.nil n0
  rw [ef_inb1 m a t (1 : Int32)]
  refine own_st (T' := s₁) (g' := (mkF m 1 #[rv a, rv t, iv (1 : Int32)] [(.ref a)])) (fun _ k_ => XS.aloadN X0.here hx rfl (hb hby d5_0) rfl rfl  k_) ?_
  obtain ⟨T1, X1, e1, st1⟩ := initO X0 hx hZ hown (wd hw 26 rfl) (wd hw 27 rfl) (wd hw 28 rfl) e0 (g := (mkF m 1 #[rv a, rv t, iv (1 : Int32)] [(.ref a)])) rfl (by rw [hml]; rfl) rfl (hb hby d5_1) (by decide) (W := 0) (by show 2 * 0 + _ ≤ _; exact Nat.le_of_eq rfl) (by decide)
  refine own_st (T' := T1) (g' := (mkF m 4 #[rv a, rv t, iv (1 : Int32)] [])) st1 ?_
  clear st1
  refine own_st (T' := T1) (g' := (mkF m 5 #[rv a, rv t, iv (1 : Int32)] [(.ref a)])) (fun _ k_ => XS.aloadN X1.here hx rfl (hb hby d5_4) rfl rfl  k_) ?_
  refine own_st (T' := T1) (g' := (mkF m 6 #[rv a, rv t, iv (1 : Int32)] [(.ref t), (.ref a)])) (fun _ k_ => XS.aloadN X1.here hx rfl (hb hby d5_5) rfl rfl  k_) ?_
  obtain ⟨T2, h2, X2, e2, W2, st2⟩ := putF X1 hx hZ hown (host := "") (Or.inl (wd hw 29 rfl)) Via.refl e1 FV EA (Or.inr ⟨(wd hw 30 rfl), rfl, hnm⟩) (wd hw 17 rfl) (ty := (.array .byte)) (by decide) rfl rfl (g := (mkF m 6 #[rv a, rv t, iv (1 : Int32)] [(.ref t), (.ref a)])) rfl rfl (hb hby d5_6)
  have Fw2 : Fld Z h2 a "java/lang/String" "value" "[B" (.ref t) := Fld.same W2 FV
  have N2 := Fr.snoc X2 N0 fa
  refine own_st (T' := T2) (g' := (mkF m 9 #[rv a, rv t, iv (1 : Int32)] [])) st2 ?_
  clear st2
  refine own_st (T' := T2) (g' := (mkF m 10 #[rv a, rv t, iv (1 : Int32)] [(.ref a)])) (fun _ k_ => XS.aloadN X2.here hx rfl (hb hby d5_9) rfl rfl  k_) ?_
  refine own_st (T' := T2) (g' := (mkF m 11 #[rv a, rv t, iv (1 : Int32)] [(.int (1 : Int32)), (.ref a)])) (fun _ k_ => XS.iloadN X2.here hx rfl (hb hby d5_10) rfl  k_) ?_
  have f3 := EA.wr W2
  have f4 := FCo.other W2 (Or.inr (slot_ne (Or.inr (wd hw 32 rfl)) (Or.inr (wd hw 30 rfl)) (by decide) (t := .byte) (t' := (.array .byte)) (by decide) (by decide)))
  obtain ⟨T5, h5, X5, e5, W5, st5⟩ := putFN X2 hx hZ hown (wd hw 31 rfl) Via.refl e2 f4 f3 (Or.inr ⟨(wd hw 32 rfl), rfl, hnm⟩) (wd hw 17 rfl) (ty := .byte) (v' := (.int (1 : Int32))) (by decide) rfl (by decide) (g := (mkF m 11 #[rv a, rv t, iv (1 : Int32)] [(.int (1 : Int32)), (.ref a)])) rfl rfl (hb hby d5_11)
  have Fw5 : Fld Z h5 a "java/lang/String" "coder" "B" (.int (1 : Int32)) := Fld.same W5 f4
  have N5 := Fr.snoc X5 N2 fa
  refine own_st (T' := T5) (g' := (mkF m 14 #[rv a, rv t, iv (1 : Int32)] [])) st5 ?_
  clear st5
  have f6 := (Keep.refl h0 [a]).wr W2 (Or.inl (List.mem_of_getElem? (i := 0) rfl))
  have f7 := f6.wr W5 (Or.inl (List.mem_of_getElem? (i := 0) rfl))
  have f8 := f3.wr W5
  exact own_retV X5 hx hret hlk (hb hby d5_14) (by decide) (by decide) (by rw [e5]; exact ⟨rfl, N5, f7, f8⟩)
theorem d2_0 : decode jdk_42_method_139_code 0 = .ok (.getstatic 38, 3) := by decide +kernel
theorem d2_3 : decode jdk_42_method_139_code 3 = .ok (.ifCond .eq 23, 3) := by decide +kernel
theorem d2_6 : decode jdk_42_method_139_code 6 = .ok (.iload_n 0, 1) := by decide +kernel
theorem d2_7 : decode jdk_42_method_139_code 7 = .ok (.invokestatic 1015, 3) := by decide +kernel
theorem d2_10 : decode jdk_42_method_139_code 10 = .ok (.ifCond .eq 16, 3) := by decide +kernel
theorem d2_13 : decode jdk_42_method_139_code 13 = .ok (.new 10, 3) := by decide +kernel
theorem d2_16 : decode jdk_42_method_139_code 16 = .ok (.dup, 1) := by decide +kernel
theorem d2_17 : decode jdk_42_method_139_code 17 = .ok (.iload_n 0, 1) := by decide +kernel
theorem d2_18 : decode jdk_42_method_139_code 18 = .ok (.invokestatic 1018, 3) := by decide +kernel
theorem d2_21 : decode jdk_42_method_139_code 21 = .ok (.iconst 0, 1) := by decide +kernel
theorem d2_22 : decode jdk_42_method_139_code 22 = .ok (.invokespecial 209, 3) := by decide +kernel
theorem d2_25 : decode jdk_42_method_139_code 25 = .ok (.areturn, 1) := by decide +kernel
theorem d2_26 : decode jdk_42_method_139_code 26 = .ok (.new 10, 3) := by decide +kernel
theorem d2_29 : decode jdk_42_method_139_code 29 = .ok (.dup, 1) := by decide +kernel
theorem d2_30 : decode jdk_42_method_139_code 30 = .ok (.iload_n 0, 1) := by decide +kernel
theorem d2_31 : decode jdk_42_method_139_code 31 = .ok (.invokestatic 1021, 3) := by decide +kernel
theorem d2_34 : decode jdk_42_method_139_code 34 = .ok (.iconst 1, 1) := by decide +kernel
theorem d2_35 : decode jdk_42_method_139_code 35 = .ok (.invokespecial 209, 3) := by decide +kernel
theorem d2_38 : decode jdk_42_method_139_code 38 = .ok (.areturn, 1) := by decide +kernel
theorem pd__C_Z : parseMethodDescriptor "(C)Z" = some ⟨[.char], some .boolean⟩ := by decide +kernel
theorem pd__C__B : parseMethodDescriptor "(C)[B" = some ⟨[.char], some (.array .byte)⟩ := by decide +kernel
theorem pd___BB_V : parseMethodDescriptor "([BB)V" = some ⟨[(.array .byte), .byte], none⟩ := by decide +kernel
theorem ef_vof (m : MethodId) (x0 : Int32) : entryFrame m #[(.int x0)] 1 = mkF m 0 #[iv x0] [] := by first | (simp [entryFrame, mkF, argsToLocals, Value.category]; done) | rfl
def Q_vof (Z : State) (cc : Int32) (cz : Int32) (h0 : Heap) (n0 : Nat) (v : Option Value) (h : Heap) (L : List Loc) : Prop := ∃ (b : Addr), (v = some (.ref b)) ∧ (Fr n0 L) ∧ (Keep h0 h []) ∧ (Exa Z h b "java/lang/String") ∧ (h0.size ≤ b)
set_option maxRecDepth 65536 in
set_option maxHeartbeats 40000000 in
theorem rm_vof (l : Launch) (Z : State) (a0 : Array Value) (hw : ∀ d ∈ tables_1, d.before a0 Z = true) (ws : List Jvm.Cond) (cc : Int32) (cz : Int32) (h0 : Heap) (n0 : Nat) (O0 : Old Z n0 h0) (SC : Sta Z Z.heap "java/lang/String" "COMPACT_STRINGS" "Z" (.int cz)) (hcz : ¬ cz = (0 : Int32)) (SA : Sta Z Z.heap "java/lang/StringUTF16" "$assertionsDisabled" "Z" (.int (1 : Int32))) (SHI : Sta Z Z.heap "java/lang/StringUTF16" "HI_BYTE_SHIFT" "I" (.int (0 : Int32))) (SLO : Sta Z Z.heap "java/lang/StringUTF16" "LO_BYTE_SHIFT" "I" (.int (8 : Int32))) :
    own_MF l own_m5 (Jvm.Cond.code own_m5 jdk_42_method_139_code 1 (some (.object "java/lang/String")) :: ws) ({ frames := 2, cells := 2, slots := 6, locals := 29 } : Room) #[(.int cc)] Z h0 (Q_vof Z cc cz h0 n0) := by
  refine own_met (own := "java/lang/String") (nme := "valueOf") rfl rfl (plainFor_of_name pn_2) ?_
  intro p e s m below meth c s₁ hx hby hml hown hnm X0 e0 hret hlk hZ
  have N0 := Fr.nil n0
  rw [ef_vof m cc]
  obtain ⟨T1, X1, e1, st1⟩ := getS2 X0 hx hZ hown (host := "") (Or.inl (wd hw 11 rfl)) Via.refl e0 (SC.ext O0.2) (g := (mkF m 0 #[iv cc] [])) rfl (hb hby d2_0)
  refine own_st (T' := T1) (g' := (mkF m 3 #[iv cc] [(.int cz)])) st1 ?_
  clear st1
  refine own_st (T' := T1) (g' := (mkF m 6 #[iv cc] [])) (fun _ k_ => XS.ifNo X1.here hx rfl (hb hby d2_3) rfl ((if0 _ _).trans (feq (hcz : ¬ (cz = (0 : Int32)))).1) k_) ?_
  refine own_st (T' := T1) (g' := (mkF m 7 #[iv cc] [(.int cc)])) (fun _ k_ => XS.iloadN X1.here hx rfl (hb hby d2_6) rfl  k_) ?_
  obtain ⟨_, T2, L2, X2, hQ2, st2⟩ := own_callS X1 hx (y := own_m0) hown (mvT hZ (wd hw 12 rfl)) (mvT hZ (wd hw 13 rfl)) (mvT hZ (wd hw 14 rfl)) (mvT hZ (wd hw 15 rfl)) (by decide) (backOf (W := 0) (rm_can l Z a0 hw [] cc h0 n0 O0) hZ (wd hw 15 rfl) (wd hw 14 rfl) (by decide) (by decide)) (g := (mkF m 7 #[iv cc] [(.int cc)])) rfl (by rw [hml]; rfl) (argsL := [(.int cc)]) (rest := []) (lenOf pd__C_Z rfl) rfl (by show 2 * 0 + _ ≤ _; exact Nat.le_of_eq rfl) (hb hby d2_7) rfl e1 (by decide) (by decide) (c' := 0) (s' := 0) rfl rfl
  obtain ⟨rfl, Nq2, eq2⟩ := hQ2
  have N2 := Fr.app N0 Nq2
  refine own_st (T' := T2) (g' := (mkF m 10 #[iv cc] [(.int (own_can cc))])) st2 ?_
  clear st2
  by_cases hc3 : (own_can cc) = (0 : Int32)
  · refine own_st (T' := T2) (g' := (mkF m 26 #[iv cc] [])) (fun _ k_ => XS.ifYes X2.here hx rfl (pc0 := 10) (pc' := 26) rfl (hb hby d2_10) rfl ((if0 _ _).trans (teq hc3).1) (by decide) (by decide) k_) ?_
    obtain ⟨T4, h4, X4, e4, E4, A4, D4, -, st4⟩ := newO X2 hx hZ hown (wd hw 16 rfl) (wd hw 17 rfl) (wd hw 9 rfl) eq2 (g := (mkF m 26 #[iv cc] [])) rfl (hb hby d2_26) (by decide) (by decide)
    obtain ⟨b4, g4⟩ : ∃ z, z = h0.size := ⟨_, rfl⟩
    rw [← g4] at A4 D4 st4
    have fr4 : n0 ≤ b4 := Nat.le_trans (own_z O0) (Nat.le_of_eq g4.symm)
    have sz4 : h0.size ≤ b4 := Nat.le_trans (Keep.refl h0 []).1 (Nat.le_of_eq g4.symm)
    have F4_value : Fld Z h4 b4 "java/lang/String" "value" "[B" .null := D4 (Or.inr (wd hw 30 rfl)) (ty := (.array .byte)) (by decide)
    have F4_coder : Fld Z h4 b4 "java/lang/String" "coder" "B" (.int (0 : Int32)) := D4 (Or.inr (wd hw 32 rfl)) (ty := .byte) (by decide)
    refine own_st (T' := T4) (g' := (mkF m 29 #[iv cc] [(.ref b4)])) st4 ?_
    clear st4
    refine own_st (T' := T4) (g' := (mkF m 30 #[iv cc] [(.ref b4), (.ref b4)])) (fun _ k_ => XS.dup X4.here hx rfl (hb hby d2_29) rfl rfl k_) ?_
    refine own_st (T' := T4) (g' := (mkF m 31 #[iv cc] [(.int cc), (.ref b4), (.ref b4)])) (fun _ k_ => XS.iloadN X4.here hx rfl (hb hby d2_30) rfl  k_) ?_
    have f5 := O0.ext E4
    obtain ⟨_, T6, L6, X6, hQ6, st6⟩ := own_callS X4 hx (y := own_m3) hown (mvT hZ (wd hw 33 rfl)) (mvT hZ (wd hw 34 rfl)) (mvT hZ (wd hw 35 rfl)) (mvT hZ (wd hw 36 rfl)) (by decide) (backOf (W := 2) (rm_tb2 l Z a0 hw [] cc h4 n0 f5 SA SHI SLO) hZ (wd hw 36 rfl) (wd hw 35 rfl) (by decide) (by decide)) (g := (mkF m 31 #[iv cc] [(.int cc), (.ref b4), (.ref b4)])) rfl (by rw [hml]; rfl) (argsL := [(.int cc)]) (rest := [(.ref b4), (.ref b4)]) (lenOf pd__C__B rfl) rfl (by show 2 * 0 + _ ≤ _; exact Nat.le_of_eq rfl) (hb hby d2_31) rfl e4 (by decide) (by decide) (c' := 2) (s' := 6) rfl rfl
    obtain ⟨t6, rfl, Nq6, K6⟩ := hQ6
    have N6 := Fr.app N2 Nq6
    refine own_st (T' := T6) (g' := (mkF m 34 #[iv cc] [(.ref t6), (.ref b4), (.ref b4)])) st6 ?_
    clear st6
    refine own_st (T' := T6) (g' := (mkF m 35 #[iv cc] [(.int (1 : Int32)), (.ref t6), (.ref b4), (.ref b4)])) (fun _ k_ => XS.iconst X6.here hx rfl (hb hby d2_34) k_) ?_
    have f7 := A4.keep K6
    have f8 := F4_value.keep K6 nin0
    have f9 := F4_coder.keep K6 nin0
    have f10 := f5.keep K6 all0
    obtain ⟨_, T11, L11, X11, hQ11, st11⟩ := own_callI X6 hx (y := own_m4) rfl hown (mvT hZ (wd hw 22 rfl)) (mvT hZ (wd hw 23 rfl)) (mvT hZ (wd hw 25 rfl)) (by decide) (backOf (W := 1) (rm_inb1 l Z a0 hw [] b4 t6 T6.heap n0 f10 f7 f8 f9 fr4) hZ (wd hw 25 rfl) (wd hw 9 rfl) (by decide) (by decide)) (g := (mkF m 35 #[iv cc] [(.int (1 : Int32)), (.ref t6), (.ref b4), (.ref b4)])) rfl (by rw [hml]; rfl) (a := b4) (argsL := [(.ref t6), (.int (1 : Int32))]) (rest := [(.ref b4)]) (lenOf pd___BB_V rfl) rfl (by show 2 * 0 + _ ≤ _; exact Nat.le_of_eq rfl) (hb hby d2_35) rfl rfl (by decide) (by decide) (c' := 2) (s' := 6) rfl rfl
    obtain ⟨rfl, Nq11, K11, fq11_0⟩ := hQ11
    have N11 := Fr.app N6 Nq11
    refine own_st (T' := T11) (g' := (mkF m 38 #[iv cc] [(.ref b4)])) st11 ?_
    clear st11
    have f12 := (Keep.refl h0 []).ext E4
    have f13 := f12.trans K6 all0
    have f14 := f13.trans K11 (allS (Or.inr sz4) all0)
    exact own_retA X11 hx hret rfl rfl hlk (hb hby d2_38) (by decide) (by decide) ⟨b4, rfl, N11, f14, fq11_0, sz4⟩
  · refine own_st (T' := T2) (g' := (mkF m 13 #[iv cc] [])) (fun _ k_ => XS.ifNo X2.here hx rfl (hb hby d2_10) rfl ((if0 _ _).trans (feq hc3).1) k_) ?_
    obtain ⟨T15, h15, X15, e15, E15, A15, D15, -, st15⟩ := newO X2 hx hZ hown (wd hw 16 rfl) (wd hw 17 rfl) (wd hw 9 rfl) eq2 (g := (mkF m 13 #[iv cc] [])) rfl (hb hby d2_13) (by decide) (by decide)
    obtain ⟨b15, g15⟩ : ∃ z, z = h0.size := ⟨_, rfl⟩
    rw [← g15] at A15 D15 st15
    have fr15 : n0 ≤ b15 := Nat.le_trans (own_z O0) (Nat.le_of_eq g15.symm)
    have sz15 : h0.size ≤ b15 := Nat.le_trans (Keep.refl h0 []).1 (Nat.le_of_eq g15.symm)
    have F15_value : Fld Z h15 b15 "java/lang/String" "value" "[B" .null := D15 (Or.inr (wd hw 30 rfl)) (ty := (.array .byte)) (by decide)
    have F15_coder : Fld Z h15 b15 "java/lang/String" "coder" "B" (.int (0 : Int32)) := D15 (Or.inr (wd hw 32 rfl)) (ty := .byte) (by decide)
    refine own_st (T' := T15) (g' := (mkF m 16 #[iv cc] [(.ref b15)])) st15 ?_
    clear st15
    refine own_st (T' := T15) (g' := (mkF m 17 #[iv cc] [(.ref b15), (.ref b15)])) (fun _ k_ => XS.dup X15.here hx rfl (hb hby d2_16) rfl rfl k_) ?_
    refine own_st (T' := T15) (g' := (mkF m 18 #[iv cc] [(.int cc), (.ref b15), (.ref b15)])) (fun _ k_ => XS.iloadN X15.here hx rfl (hb hby d2_17) rfl  k_) ?_
    have f16 := O0.ext E15
    obtain ⟨_, T17, L17, X17, hQ17, st17⟩ := own_callS X15 hx (y := own_m1) hown (mvT hZ (wd hw 18 rfl)) (mvT hZ (wd hw 19 rfl)) (mvT hZ (wd hw 14 rfl)) (mvT hZ (wd hw 20 rfl)) (by decide) (backOf (W := 2) (rm_tb1 l Z a0 hw [] cc h15 n0 f16) hZ (wd hw 20 rfl) (wd hw 14 rfl) (by decide) (by decide)) (g := (mkF m 18 #[iv cc] [(.int cc), (.ref b15), (.ref b15)])) rfl (by rw [hml]; rfl) (argsL := [(.int cc)]) (rest := [(.ref b15), (.ref b15)]) (lenOf pd__C__B rfl) rfl (by show 2 * 0 + _ ≤ _; exact Nat.le_of_eq rfl) (hb hby d2_18) rfl e15 (by decide) (by decide) (c' := 2) (s' := 5) rfl rfl
    obtain ⟨t17, rfl, Nq17, K17⟩ := hQ17
    have N17 := Fr.app N2 Nq17
    refine own_st (T' := T17) (g' := (mkF m 21 #[iv cc] [(.ref t17), (.ref b15), (.ref b15)])) st17 ?_
    clear st17
    refine own_st (T' := T17) (g' := (mkF m 22 #[iv cc] [(.int (0 : Int32)), (.ref t17), (.ref b15), (.ref b15)])) (fun _ k_ => XS.iconst X17.here hx rfl (hb hby d2_21) k_) ?_
    have f18 := A15.keep K17
    have f19 := F15_value.keep K17 nin0
    have f20 := F15_coder.keep K17 nin0
    have f21 := f16.keep K17 all0
    obtain ⟨_, T22, L22, X22, hQ22, st22⟩ := own_callI X17 hx (y := own_m4) rfl hown (mvT hZ (wd hw 22 rfl)) (mvT hZ (wd hw 23 rfl)) (mvT hZ (wd hw 25 rfl)) (by decide) (backOf (W := 1) (rm_inb0 l Z a0 hw [] b15 t17 T17.heap n0 f21 f18 f19 f20 fr15) hZ (wd hw 25 rfl) (wd hw 9 rfl) (by decide) (by decide)) (g := (mkF m 22 #[iv cc] [(.int (0 : Int32)), (.ref t17), (.ref b15), (.ref b15)])) rfl (by rw [hml]; rfl) (a := b15) (argsL := [(.ref t17), (.int (0 : Int32))]) (rest := [(.ref b15)]) (lenOf pd___BB_V rfl) rfl (by show 2 * 0 + _ ≤ _; exact Nat.le_of_eq rfl) (hb hby d2_22) rfl rfl (by decide) (by decide) (c' := 2) (s' := 5) rfl rfl
    obtain ⟨rfl, Nq22, K22, fq22_0⟩ := hQ22
    have N22 := Fr.app N17 Nq22
    refine own_st (T' := T22) (g' := (mkF m 25 #[iv cc] [(.ref b15)])) st22 ?_
    clear st22
    have f23 := (Keep.refl h0 []).ext E15
    have f24 := f23.trans K17 all0
    have f25 := f24.trans K22 (allS (Or.inr sz15) all0)
    exact own_retA X22 hx hret rfl rfl hlk (hb hby d2_25) (by decide) (by decide) ⟨b15, rfl, N22, f25, fq22_0, sz15⟩
theorem d11_0 : decode jdk_22_method_1_code 0 = .ok (.aload_n 0, 1) := by decide +kernel
theorem d11_1 : decode jdk_22_method_1_code 1 = .ok (.invokespecial 1, 3) := by decide +kernel
theorem d11_4 : decode jdk_22_method_1_code 4 = .ok (.return_, 1) := by decide +kernel
theorem pn_3 : plainName "java/util/AbstractCollection" = true := by first | (simp [plainName, overriddenIn]; done) | decide +kernel
theorem ef_abci (m : MethodId) (x0 : Addr) : entryFrame m #[(.ref x0)] 1 = mkF m 0 #[rv x0] [] := by first | (simp [entryFrame, mkF, argsToLocals, Value.category]; done) | rfl
def Q_abci (Z : State) (x : Addr) (h0 : Heap) (n0 : Nat) (v : Option Value) (h : Heap) (L : List Loc) : Prop := (v = none) ∧ (Fr n0 L) ∧ (h = h0)
set_option maxRecDepth 65536 in
set_option maxHeartbeats 40000000 in
theorem rm_abci (l : Launch) (Z : State) (a0 : Array Value) (hw : ∀ d ∈ tables_1, d.before a0 Z = true) (ws : List Jvm.Cond) (x : Addr) (h0 : Heap) (n0 : Nat) (O0 : Old Z n0 h0) :
    own_MF l own_m6 (Jvm.Cond.code own_m6 jdk_22_method_1_code 1 none :: ws) ({ frames := 1, cells := 0, slots := 0, locals := 12 } : Room) #[(.ref x)] Z h0 (Q_abci Z x h0 n0) := by
  refine own_met (own := "java/util/AbstractCollection") (nme := "<init>") rfl rfl (plainFor_of_name pn_3) ?_
  intro p e s m below meth c s₁ hx hby hml hown hnm X0 e0 hret hlk hZ
  have N0 := Fr.nil n0
  rw [ef_abci m x]
  refine own_st (T' := s₁) (g' := (mkF m 1 #[rv x] [(.ref x)])) (fun _ k_ => XS.aloadN X0.here hx rfl (hb hby d11_0) rfl rfl  k_) ?_
  obtain ⟨T1, X1, e1, st1⟩ := initO X0 hx hZ hown (wd hw 61 rfl) (wd hw 27 rfl) (wd hw 28 rfl) e0 (g := (mkF m 1 #[rv x] [(.ref x)])) rfl (by rw [hml]; rfl) rfl (hb hby d11_1) (by decide) (W := 0) (by show 2 * 0 + _ ≤ _; exact Nat.le_of_eq rfl) (by decide)
  refine own_st (T' := T1) (g' := (mkF m 4 #[rv x] [])) st1 ?_
  clear st1
  exact own_retV X1 hx hret hlk (hb hby d11_4) (by decide) (by decide) ⟨rfl, N0, e1⟩
theorem d10_0 : decode jdk_39_method_1_code 0 = .ok (.aload_n 0, 1) := by decide +kernel
theorem d10_1 : decode jdk_39_method_1_code 1 = .ok (.invokespecial 1, 3) := by decide +kernel
theorem d10_4 : decode jdk_39_method_1_code 4 = .ok (.aload_n 0, 1) := by decide +kernel
theorem d10_5 : decode jdk_39_method_1_code 5 = .ok (.iconst 0, 1) := by decide +kernel
theorem d10_6 : decode jdk_39_method_1_code 6 = .ok (.putfield 7, 3) := by decide +kernel
theorem d10_9 : decode jdk_39_method_1_code 9 = .ok (.return_, 1) := by decide +kernel
theorem pd___V : parseMethodDescriptor "()V" = some ⟨[], none⟩ := by decide +kernel
theorem pn_4 : plainName "java/util/AbstractList" = true := by first | (simp [plainName, overriddenIn]; done) | decide +kernel
theorem ef_abli (m : MethodId) (x0 : Addr) : entryFrame m #[(.ref x0)] 1 = mkF m 0 #[rv x0] [] := by first | (simp [entryFrame, mkF, argsToLocals, Value.category]; done) | rfl
def Q_abli (Z : State) (a : Addr) (h0 : Heap) (n0 : Nat) (v : Option Value) (h : Heap) (L : List Loc) : Prop := (v = none) ∧ (Fr n0 L) ∧ (Keep h0 h [a]) ∧ (Exa Z h a "java/util/ArrayList") ∧ (Fld Z h a "java/util/ArrayList" "elementData" "[Ljava/lang/Object;" .null) ∧ (Fld Z h a "java/util/ArrayList" "size" "I" (.int (0 : Int32))) ∧ (Fld Z h a "java/util/AbstractList" "modCount" "I" (.int (0 : Int32)))
set_option maxRecDepth 65536 in
set_option maxHeartbeats 40000000 in
theorem rm_abli (l : Launch) (Z : State) (a0 : Array Value) (hw : ∀ d ∈ tables_1, d.before a0 Z = true) (ws : List Jvm.Cond) (a : Addr) (h0 : Heap) (n0 : Nat) (O0 : Old Z n0 h0) (P0 : Exa Z h0 a "java/util/ArrayList") (P1 : Fld Z h0 a "java/util/ArrayList" "elementData" "[Ljava/lang/Object;" .null) (P2 : Fld Z h0 a "java/util/ArrayList" "size" "I" (.int (0 : Int32))) (P3 : Fld Z h0 a "java/util/AbstractList" "modCount" "I" (.int (0 : Int32))) (fa : n0 ≤ a) :
    own_MF l own_m7 (Jvm.Cond.code own_m7 jdk_39_method_1_code 1 none :: ws) ({ frames := 2, cells := 0, slots := 0, locals := 24 } : Room) #[(.ref a)] Z h0 (Q_abli Z a h0 n0) := by
  refine own_met (own := "java/util/AbstractList") (nme := "<init>") rfl rfl (plainFor_of_name pn_4) ?_
  intro p e s m below meth c s₁ hx hby hml hown hnm X0 e0 hret hlk hZ
  have N0 := Fr.nil n0
  rw [ef_abli m a]
  refine own_st (T' := s₁) (g' := (mkF m 1 #[rv a] [(.ref a)])) (fun _ k_ => XS.aloadN X0.here hx rfl (hb hby d10_0) rfl rfl  k_) ?_
  obtain ⟨_, T1, L1, X1, hQ1, st1⟩ := own_callI X0 hx (y := own_m6) rfl hown (mvT hZ (wd hw 55 rfl)) (mvT hZ (wd hw 56 rfl)) (mvT hZ (wd hw 60 rfl)) (by decide) (backOf (W := 0) (rm_abci l Z a0 hw [] a h0 n0 O0) hZ (wd hw 60 rfl) (wd hw 59 rfl) (by decide) (by decide)) (g := (mkF m 1 #[rv a] [(.ref a)])) rfl (by rw [hml]; rfl) (a := a) (argsL := []) (rest := []) (lenOf pd___V rfl) rfl (by show 2 * 0 + _ ≤ _; exact Nat.le_of_eq rfl) (hb hby d10_1) rfl e0 (by decide) (by decide) (c' := 0) (s' := 0) rfl rfl
  obtain ⟨rfl, Nq1, eq1⟩ := hQ1
  have N1 := Fr.app N0 Nq1
  refine own_st (T' := T1) (g' := (mkF m 4 #[rv a] [])) st1 ?_
  clear st1
  refine own_st (T' := T1) (g' := (mkF m 5 #[rv a] [(.ref a)])) (fun _ k_ => XS.aloadN X1.here hx rfl (hb hby d10_4) rfl rfl  k_) ?_
  refine own_st (T' := T1) (g' := (mkF m 6 #[rv a] [(.int (0 : Int32)), (.ref a)])) (fun _ k_ => XS.iconst X1.here hx rfl (hb hby d10_5) k_) ?_
  obtain ⟨T2, h2, X2, e2, W2, st2⟩ := putF X1 hx hZ hown (host := "") (Or.inl (wd hw 62 rfl)) Via.refl eq1 P3 P0 (Or.inl (wd hw 63 rfl)) (wd hw 44 rfl) (ty := .int) (by decide) rfl rfl (g := (mkF m 6 #[rv a] [(.int (0 : Int32)), (.ref a)])) rfl rfl (hb hby d10_6)
  have Fw2 : Fld Z h2 a "java/util/AbstractList" "modCount" "I" (.int (0 : Int32)) := Fld.same W2 P3
  have N2 := Fr.snoc X2 N1 fa
  refine own_st (T' := T2) (g' := (mkF m 9 #[rv a] [])) st2 ?_
  clear st2
  have f3 := (Keep.refl h0 [a]).wr W2 (Or.inl (List.mem_of_getElem? (i := 0) rfl))
  have f4 := P0.wr W2
  have f5 := P1.other W2 (Or.inr (slot_ne (Or.inl (wd hw 66 rfl)) (Or.inl (wd hw 63 rfl)) (by decide) (t := (.array (.object "java/lang/Object"))) (t' := .int) (by decide) (by decide)))
  have f6 := P2.other W2 (Or.inr (slot_ne (Or.inl (wd hw 75 rfl)) (Or.inl (wd hw 63 rfl)) (by decide) (t := .int) (t' := .int) (by decide) (by decide)))
  exact own_retV X2 hx hret hlk (hb hby d10_9) (by decide) (by decide) (by rw [e2]; exact ⟨rfl, N2, f3, f4, f5, f6, Fw2⟩)
theorem d9_0 : decode jdk_38_method_2_code 0 = .ok (.aload_n 0, 1) := by decide +kernel
theorem d9_1 : decode jdk_38_method_2_code 1 = .ok (.invokespecial 1, 3) := by decide +kernel
theorem d9_4 : decode jdk_38_method_2_code 4 = .ok (.aload_n 0, 1) := by decide +kernel
theorem d9_5 : decode jdk_38_method_2_code 5 = .ok (.getstatic 39, 3) := by decide +kernel
theorem d9_8 : decode jdk_38_method_2_code 8 = .ok (.putfield 9, 3) := by decide +kernel
theorem d9_11 : decode jdk_38_method_2_code 11 = .ok (.return_, 1) := by decide +kernel
theorem pn_5 : plainName "java/util/ArrayList" = true := by first | (simp [plainName, overriddenIn]; done) | decide +kernel
theorem ef_ali (m : MethodId) (x0 : Addr) : entryFrame m #[(.ref x0)] 1 = mkF m 0 #[rv x0] [] := by first | (simp [entryFrame, mkF, argsToLocals, Value.category]; done) | rfl
def Q_ali (Z : State) (a : Addr) (dA : Addr) (h0 : Heap) (n0 : Nat) (v : Option Value) (h : Heap) (L : List Loc) : Prop := (v = none) ∧ (Fr n0 L) ∧ (Keep h0 h [a]) ∧ (Exa Z h a "java/util/ArrayList") ∧ (Fld Z h a "java/util/ArrayList" "elementData" "[Ljava/lang/Object;" (.ref dA)) ∧ (Fld Z h a "java/util/ArrayList" "size" "I" (.int (0 : Int32))) ∧ (Fld Z h a "java/util/AbstractList" "modCount" "I" (.int (0 : Int32)))
set_option maxRecDepth 65536 in
set_option maxHeartbeats 40000000 in
theorem rm_ali (l : Launch) (Z : State) (a0 : Array Value) (hw : ∀ d ∈ tables_1, d.before a0 Z = true) (ws : List Jvm.Cond) (a : Addr) (dA : Addr) (h0 : Heap) (n0 : Nat) (O0 : Old Z n0 h0) (P0 : Exa Z h0 a "java/util/ArrayList") (P1 : Fld Z h0 a "java/util/ArrayList" "elementData" "[Ljava/lang/Object;" .null) (P2 : Fld Z h0 a "java/util/ArrayList" "size" "I" (.int (0 : Int32))) (P3 : Fld Z h0 a "java/util/AbstractList" "modCount" "I" (.int (0 : Int32))) (fa : n0 ≤ a) (SDe : Sta Z Z.heap "java/util/ArrayList" "DEFAULTCAPACITY_EMPTY_ELEMENTDATA" "[Ljava/lang/Object;" (.ref dA)) :
    own_MF l own_m8 (Jvm.Cond.code own_m8 jdk_38_method_2_code 1 none :: ws) ({ frames := 3, cells := 0, slots := 0, locals := 36 } : Room) #[(.ref a)] Z h0 (Q_ali Z a dA h0 n0) := by
  refine own_met (own := "java/util/ArrayList") (nme := "<init>") rfl rfl (plainFor_of_name pn_5) ?_
  intro p e s m below meth c s₁ hx hby hml hown hnm X0 e0 hret hlk hZ
  have N0 := Fr.nil n0
  rw [ef_ali m a]
  refine own_st (T' := s₁) (g' := (mkF m 1 #[rv a] [(.ref a)])) (fun _ k_ => XS.aloadN X0.here hx rfl (hb hby d9_0) rfl rfl  k_) ?_
  obtain ⟨_, T1, L1, X1, hQ1, st1⟩ := own_callI X0 hx (y := own_m7) rfl hown (mvT hZ (wd hw 49 rfl)) (mvT hZ (wd hw 50 rfl)) (mvT hZ (wd hw 54 rfl)) (by decide) (backOf (W := 0) (rm_abli l Z a0 hw [] a h0 n0 O0 P0 P1 P2 P3 fa) hZ (wd hw 54 rfl) (wd hw 53 rfl) (by decide) (by decide)) (g := (mkF m 1 #[rv a] [(.ref a)])) rfl (by rw [hml]; rfl) (a := a) (argsL := []) (rest := []) (lenOf pd___V rfl) rfl (by show 2 * 0 + _ ≤ _; exact Nat.le_of_eq rfl) (hb hby d9_1) rfl e0 (by decide) (by decide) (c' := 0) (s' := 0) rfl rfl
  obtain ⟨rfl, Nq1, K1, fq1_0, fq1_1, fq1_2, fq1_3⟩ := hQ1
  have N1 := Fr.app N0 Nq1
  refine own_st (T' := T1) (g' := (mkF m 4 #[rv a] [])) st1 ?_
  clear st1
  refine own_st (T' := T1) (g' := (mkF m 5 #[rv a] [(.ref a)])) (fun _ k_ => XS.aloadN X1.here hx rfl (hb hby d9_4) rfl rfl  k_) ?_
  have f2 := O0.keep K1 (allS fa all0)
  obtain ⟨T3, X3, e3, st3⟩ := getS2 X1 hx hZ hown (host := "") (Or.inl (wd hw 64 rfl)) Via.refl rfl (SDe.ext f2.2) (g := (mkF m 5 #[rv a] [(.ref a)])) rfl (hb hby d9_5)
  refine own_st (T' := T3) (g' := (mkF m 8 #[rv a] [(.ref dA), (.ref a)])) st3 ?_
  clear st3
  obtain ⟨T4, h4, X4, e4, W4, st4⟩ := putF X3 hx hZ hown (host := "") (Or.inl (wd hw 65 rfl)) Via.refl e3 fq1_1 fq1_0 (Or.inl (wd hw 66 rfl)) (wd hw 44 rfl) (ty := (.array (.object "java/lang/Object"))) (by decide) rfl rfl (g := (mkF m 8 #[rv a] [(.ref dA), (.ref a)])) rfl rfl (hb hby d9_8)
  have Fw4 : Fld Z h4 a "java/util/ArrayList" "elementData" "[Ljava/lang/Object;" (.ref dA) := Fld.same W4 fq1_1
  have N4 := Fr.snoc X4 N1 fa
  refine own_st (T' := T4) (g' := (mkF m 11 #[rv a] [])) st4 ?_
  clear st4
  have f5 := (Keep.refl h0 [a]).trans K1 (allS (Or.inl (List.mem_of_getElem? (i := 0) rfl)) all0)
  have f6 := f5.wr W4 (Or.inl (List.mem_of_getElem? (i := 0) rfl))
  have f7 := fq1_0.wr W4
  have f8 := fq1_2.other W4 (Or.inr (slot_ne (Or.inl (wd hw 75 rfl)) (Or.inl (wd hw 66 rfl)) (by decide) (t := .int) (t' := (.array (.object "java/lang/Object"))) (by decide) (by decide)))
  have f9 := fq1_3.other W4 (Or.inr (slot_ne (Or.inl (wd hw 63 rfl)) (Or.inl (wd hw 66 rfl)) (by decide) (t := .int) (t' := (.array (.object "java/lang/Object"))) (by decide) (by decide)))
  exact own_retV X4 hx hret hlk (hb hby d9_11) (by decide) (by decide) (by rw [e4]; exact ⟨rfl, N4, f6, f7, Fw4, f8, f9⟩)
theorem d16_0 : decode jdk_29_method_65_code 0 = .ok (.iload_n 0, 1) := by decide +kernel
theorem d16_1 : decode jdk_29_method_65_code 1 = .ok (.iload_n 1, 1) := by decide +kernel
theorem d16_2 : decode jdk_29_method_65_code 2 = .ok (.if_icmp .lt 7, 3) := by decide +kernel
theorem d16_5 : decode jdk_29_method_65_code 5 = .ok (.iload_n 0, 1) := by decide +kernel
theorem d16_6 : decode jdk_29_method_65_code 6 = .ok (.goto 4, 3) := by decide +kernel
theorem d16_10 : decode jdk_29_method_65_code 10 = .ok (.ireturn, 1) := by decide +kernel
theorem ef_max (m : MethodId) (x0 : Int32) (x1 : Int32) : entryFrame m #[(.int x0), (.int x1)] 2 = mkF m 0 #[iv x0, iv x1] [] := by first | (simp [entryFrame, mkF, argsToLocals, Value.category]; done) | rfl
def Q_max (Z : State) (xx : Int32) (yy : Int32) (h0 : Heap) (n0 : Nat) (v : Option Value) (h : Heap) (L : List Loc) : Prop := (v = some (.int xx)) ∧ (Fr n0 L) ∧ (h = h0)
set_option maxRecDepth 65536 in
set_option maxHeartbeats 40000000 in
theorem rm_max (l : Launch) (Z : State) (a0 : Array Value) (hw : ∀ d ∈ tables_1, d.before a0 Z = true) (ws : List Jvm.Cond) (xx : Int32) (yy : Int32) (h0 : Heap) (n0 : Nat) (O0 : Old Z n0 h0) (hmax : ¬ xx < yy) :
    own_MF l own_m9 (Jvm.Cond.code own_m9 jdk_29_method_65_code 2 (some .int) :: ws) ({ frames := 0, cells := 0, slots := 0, locals := 0 } : Room) #[(.int xx), (.int yy)] Z h0 (Q_max Z xx yy h0 n0) := by
  refine own_met (own := "java/lang/Math") (nme := "max") rfl rfl (Jvm.Free.JP.mathPlain rfl (by decide +kernel)) ?_
  intro p e s m below meth c s₁ hx hby hml hown hnm X0 e0 hret hlk hZ
  have N0 := Fr.nil n0
  rw [ef_max m xx yy]
  refine own_st (T' := s₁) (g' := (mkF m 1 #[iv xx, iv yy] [(.int xx)])) (fun _ k_ => XS.iloadN X0.here hx rfl (hb hby d16_0) rfl  k_) ?_
  refine own_st (T' := s₁) (g' := (mkF m 2 #[iv xx, iv yy] [(.int yy), (.int xx)])) (fun _ k_ => XS.iloadN X0.here hx rfl (hb hby d16_1) rfl  k_) ?_
  refine own_st (T' := s₁) (g' := (mkF m 5 #[iv xx, iv yy] [])) (fun _ k_ => XS.icmpNo X0.here hx rfl (hb hby d16_2) rfl (flt (hmax : ¬ (xx < yy))).1 k_) ?_
  refine own_st (T' := s₁) (g' := (mkF m 6 #[iv xx, iv yy] [(.int xx)])) (fun _ k_ => XS.iloadN X0.here hx rfl (hb hby d16_5) rfl  k_) ?_
  refine own_st (T' := s₁) (g' := (mkF m 10 #[iv xx, iv yy] [(.int xx)])) (fun _ k_ => XS.goto X0.here hx rfl (pc0 := 6) (pc' := 10) rfl (hb hby d16_6) (by decide) (by decide) k_) ?_
  exact own_retI X0 hx hret hlk (hb hby d16_10) (by decide) (by decide) ⟨rfl, N0, e0⟩
theorem d15_0 : decode jdk_38_method_6_code 0 = .ok (.aload_n 0, 1) := by decide +kernel
theorem d15_1 : decode jdk_38_method_6_code 1 = .ok (.getfield 9, 3) := by decide +kernel
theorem d15_4 : decode jdk_38_method_6_code 4 = .ok (.arraylength, 1) := by decide +kernel
theorem d15_5 : decode jdk_38_method_6_code 5 = .ok (.istore_n 2, 1) := by decide +kernel
theorem d15_6 : decode jdk_38_method_6_code 6 = .ok (.iload_n 2, 1) := by decide +kernel
theorem d15_7 : decode jdk_38_method_6_code 7 = .ok (.ifCond .gt 13, 3) := by decide +kernel
theorem d15_10 : decode jdk_38_method_6_code 10 = .ok (.aload_n 0, 1) := by decide +kernel
theorem d15_11 : decode jdk_38_method_6_code 11 = .ok (.getfield 9, 3) := by decide +kernel
theorem d15_14 : decode jdk_38_method_6_code 14 = .ok (.getstatic 39, 3) := by decide +kernel
theorem d15_17 : decode jdk_38_method_6_code 17 = .ok (.if_acmp .eq 28, 3) := by decide +kernel
theorem d15_45 : decode jdk_38_method_6_code 45 = .ok (.aload_n 0, 1) := by decide +kernel
theorem d15_46 : decode jdk_38_method_6_code 46 = .ok (.bipush 10, 2) := by decide +kernel
theorem d15_48 : decode jdk_38_method_6_code 48 = .ok (.iload_n 1, 1) := by decide +kernel
theorem d15_49 : decode jdk_38_method_6_code 49 = .ok (.invokestatic 79, 3) := by decide +kernel
theorem d15_52 : decode jdk_38_method_6_code 52 = .ok (.anewarray 7, 3) := by decide +kernel
theorem d15_55 : decode jdk_38_method_6_code 55 = .ok (.dup_x1, 1) := by decide +kernel
theorem d15_56 : decode jdk_38_method_6_code 56 = .ok (.putfield 9, 3) := by decide +kernel
theorem d15_59 : decode jdk_38_method_6_code 59 = .ok (.areturn, 1) := by decide +kernel
theorem pd__II_I : parseMethodDescriptor "(II)I" = some ⟨[.int, .int], some .int⟩ := by decide +kernel
theorem ef_grw1 (m : MethodId) (x0 : Addr) (x1 : Int32) : entryFrame m #[(.ref x0), (.int x1)] 4 = mkF m 0 #[rv x0, iv x1, .unset, .unset] [] := by first | (simp [entryFrame, mkF, argsToLocals, Value.category]; done) | rfl
def Q_grw1 (Z : State) (a : Addr) (mc : Int32) (dA : Addr) (clD : Cell) (kO : ClassId) (h0 : Heap) (n0 : Nat) (v : Option Value) (h : Heap) (L : List Loc) : Prop := ∃ (t : Addr), (v = some (.ref t)) ∧ (Fr n0 L) ∧ (Keep h0 h [a]) ∧ (Exa Z h a "java/util/ArrayList") ∧ (Fld Z h a "java/util/ArrayList" "elementData" "[Ljava/lang/Object;" (.ref t)) ∧ (Fld Z h a "java/util/ArrayList" "size" "I" (.int (0 : Int32))) ∧ (Fld Z h a "java/util/AbstractList" "modCount" "I" (.int mc)) ∧ (Arv Z h t kO (.object "java/lang/Object") (10 : Int32) [.null, .null, .null, .null, .null, .null, .null, .null, .null, .null] .null) ∧ (h0.size ≤ t)
set_option maxRecDepth 65536 in
set_option maxHeartbeats 40000000 in
theorem rm_grw1 (l : Launch) (Z : State) (a0 : Array Value) (hw : ∀ d ∈ tables_1, d.before a0 Z = true) (ws : List Jvm.Cond) (a : Addr) (mc : Int32) (dA : Addr) (clD : Cell) (kO : ClassId) (h0 : Heap) (n0 : Nat) (O0 : Old Z n0 h0) (P0 : Exa Z h0 a "java/util/ArrayList") (P1 : Fld Z h0 a "java/util/ArrayList" "elementData" "[Ljava/lang/Object;" (.ref dA)) (P2 : Fld Z h0 a "java/util/ArrayList" "size" "I" (.int (0 : Int32))) (P3 : Fld Z h0 a "java/util/AbstractList" "modCount" "I" (.int mc)) (fa : n0 ≤ a) (SDe : Sta Z Z.heap "java/util/ArrayList" "DEFAULTCAPACITY_EMPTY_ELEMENTDATA" "[Ljava/lang/Object;" (.ref dA)) (AD : Arr Z Z.heap dA clD (.object "java/lang/Object")) (LD : clD.slots.size.toInt32 = (0 : Int32)) (OV : Ovr Z kO "java/lang/Object") (FC : Z.vm.findClass "[Ljava/lang/Object;" = some kO) :
    own_MF l own_m10 (Jvm.Cond.code own_m10 jdk_38_method_6_code 4 (some (.array (.object "java/lang/Object"))) :: ws) ({ frames := 1, cells := 1, slots := 10, locals := 14 } : Room) #[(.ref a), (.int (1 : Int32))] Z h0 (Q_grw1 Z a mc dA clD kO h0 n0) := by
  refine own_met (own := "java/util/ArrayList") (nme := "grow") rfl rfl (plainFor_of_name pn_5) ?_
  intro p e s m below meth c s₁ hx hby hml hown hnm X0 e0 hret hlk hZ
  have N0 := Fr.nil n0
  rw [ef_grw1 m a (1 : Int32)]
  refine own_st (T' := s₁) (g' := (mkF m 1 #[rv a, iv (1 : Int32), .unset, .unset] [(.ref a)])) (fun _ k_ => XS.aloadN X0.here hx rfl (hb hby d15_0) rfl rfl  k_) ?_
  obtain ⟨T1, X1, e1, st1⟩ := getF X0 hx hZ hown (host := "") (Or.inl (wd hw 65 rfl)) Via.refl e0 P1 (g := (mkF m 1 #[rv a, iv (1 : Int32), .unset, .unset] [(.ref a)])) rfl rfl (hb hby d15_1)
  refine own_st (T' := T1) (g' := (mkF m 4 #[rv a, iv (1 : Int32), .unset, .unset] [(.ref dA)])) st1 ?_
  clear st1
  have Ar2 := AD.ext O0.2
  refine own_st (T' := T1) (g' := (mkF m 5 #[rv a, iv (1 : Int32), .unset, .unset] [(.int (0 : Int32))])) (fun t_ k_ => X1.arraylength hx (by rw [e1]; exact Ar2.1) (State.isArrayOf_alike hZ.alike Ar2.2.1) (g := (mkF m 4 #[rv a, iv (1 : Int32), .unset, .unset] [(.ref dA)])) rfl rfl (hb hby d15_4) _ (by rw [LD]; exact k_)) ?_
  refine own_st (T' := T1) (g' := (mkF m 6 #[rv a, iv (1 : Int32), iv (0 : Int32), .unset] [])) (fun _ k_ => XS.istoreN X1.here hx rfl (hb hby d15_5) rfl (l' := #[rv a, iv (1 : Int32), iv (0 : Int32), .unset]) rfl k_) ?_
  refine own_st (T' := T1) (g' := (mkF m 7 #[rv a, iv (1 : Int32), iv (0 : Int32), .unset] [(.int (0 : Int32))])) (fun _ k_ => XS.iloadN X1.here hx rfl (hb hby d15_6) rfl  k_) ?_
  refine own_st (T' := T1) (g' := (mkF m 10 #[rv a, iv (1 : Int32), iv (0 : Int32), .unset] [])) (fun _ k_ => XS.ifNo X1.here hx rfl (hb hby d15_7) rfl ((if0 _ _).trans (flt (by decide : ¬ ((0 : Int32) < (0 : Int32)))).2.2.1) k_) ?_
  refine own_st (T' := T1) (g' := (mkF m 11 #[rv a, iv (1 : Int32), iv (0 : Int32), .unset] [(.ref a)])) (fun _ k_ => XS.aloadN X1.here hx rfl (hb hby d15_10) rfl rfl  k_) ?_
  obtain ⟨T3, X3, e3, st3⟩ := getF X1 hx hZ hown (host := "") (Or.inl (wd hw 65 rfl)) Via.refl e1 P1 (g := (mkF m 11 #[rv a, iv (1 : Int32), iv (0 : Int32), .unset] [(.ref a)])) rfl rfl (hb hby d15_11)
  refine own_st (T' := T3) (g' := (mkF m 14 #[rv a, iv (1 : Int32), iv (0 : Int32), .unset] [(.ref dA)])) st3 ?_
  clear st3
  obtain ⟨T4, X4, e4, st4⟩ := getS2 X3 hx hZ hown (host := "") (Or.inl (wd hw 64 rfl)) Via.refl e3 (SDe.ext O0.2) (g := (mkF m 14 #[rv a, iv (1 : Int32), iv (0 : Int32), .unset] [(.ref dA)])) rfl (hb hby d15_14)
  refine own_st (T' := T4) (g' := (mkF m 17 #[rv a, iv (1 : Int32), iv (0 : Int32), .unset] [(.ref dA), (.ref dA)])) st4 ?_
  clear st4
  refine own_st (T' := T4) (g' := (mkF m 45 #[rv a, iv (1 : Int32), iv (0 : Int32), .unset] [])) (fun _ k_ => Jvm.RoadKit.acmp (g := (mkF m 17 #[rv a, iv (1 : Int32), iv (0 : Int32), .unset] [(.ref dA), (.ref dA)])) X4 hx rfl rfl rfl (pc0 := 17) (pc' := 45) (same := true) rfl (hb hby d15_17) rfl (decide_eq_true rfl) (by decide) (by decide) k_) ?_
  refine own_st (T' := T4) (g' := (mkF m 46 #[rv a, iv (1 : Int32), iv (0 : Int32), .unset] [(.ref a)])) (fun _ k_ => XS.aloadN X4.here hx rfl (hb hby d15_45) rfl rfl  k_) ?_
  refine own_st (T' := T4) (g' := (mkF m 48 #[rv a, iv (1 : Int32), iv (0 : Int32), .unset] [(.int (10 : Int32)), (.ref a)])) (fun _ k_ => XS.bipush X4.here hx rfl (hb hby d15_46) k_) ?_
  refine own_st (T' := T4) (g' := (mkF m 49 #[rv a, iv (1 : Int32), iv (0 : Int32), .unset] [(.int (1 : Int32)), (.int (10 : Int32)), (.ref a)])) (fun _ k_ => XS.iloadN X4.here hx rfl (hb hby d15_48) rfl  k_) ?_
  obtain ⟨_, T5, L5, X5, hQ5, st5⟩ := own_callS X4 hx (y := own_m9) hown (mvT hZ (wd hw 91 rfl)) (mvT hZ (wd hw 92 rfl)) (mvT hZ (wd hw 93 rfl)) (mvT hZ (wd hw 94 rfl)) (by decide) (backOf (W := 1) (rm_max l Z a0 hw [] (10 : Int32) (1 : Int32) h0 n0 O0 (by decide)) hZ (wd hw 94 rfl) (wd hw 93 rfl) (by decide) (by decide)) (g := (mkF m 49 #[rv a, iv (1 : Int32), iv (0 : Int32), .unset] [(.int (1 : Int32)), (.int (10 : Int32)), (.ref a)])) rfl (by rw [hml]; rfl) (argsL := [(.int (10 : Int32)), (.int (1 : Int32))]) (rest := [(.ref a)]) (lenOf pd__II_I rfl) rfl (by show 2 * 0 + _ ≤ _; exact Nat.le_of_eq rfl) (hb hby d15_49) rfl e4 (by decide) (by decide) (c' := 0) (s' := 0) rfl rfl
  obtain ⟨rfl, Nq5, eq5⟩ := hQ5
  have N5 := Fr.app N0 Nq5
  refine own_st (T' := T5) (g' := (mkF m 52 #[rv a, iv (1 : Int32), iv (0 : Int32), .unset] [(.int (10 : Int32)), (.ref a)])) st5 ?_
  clear st5
  obtain ⟨T6, h6, k6, X6, e6, E6, A6, EX6, O6, st6⟩ := newRE X5 hx hZ hown (wd hw 95 rfl) (wd hw 96 rfl) eq5 (g := (mkF m 52 #[rv a, iv (1 : Int32), iv (0 : Int32), .unset] [(.int (10 : Int32)), (.ref a)])) rfl (hb hby d15_52) rfl (by decide) (cap := 10) (by decide) (by decide) (by decide) (by decide) (ad := "[Ljava/lang/Object;") (by decide)
  obtain rfl : kO = k6 := own_kk EX6 A6 FC
  clear EX6 O6
  obtain ⟨b6, g6⟩ : ∃ z, z = h0.size := ⟨_, rfl⟩
  rw [← g6] at A6 st6
  have fr6 : n0 ≤ b6 := Nat.le_trans (own_z O0) (Nat.le_of_eq g6.symm)
  have sz6 : h0.size ≤ b6 := Nat.le_trans (Keep.refl h0 [a]).1 (Nat.le_of_eq g6.symm)
  have V6 : Arv Z h6 b6 kO (.object "java/lang/Object") (10 : Int32) [.null, .null, .null, .null, .null, .null, .null, .null, .null, .null] .null := (Arv.new A6 (by decide)).pad (pad_rep [] .null 10)
  refine own_st (T' := T6) (g' := (mkF m 55 #[rv a, iv (1 : Int32), iv (0 : Int32), .unset] [(.ref b6), (.ref a)])) st6 ?_
  clear st6
  refine own_st (T' := T6) (g' := (mkF m 56 #[rv a, iv (1 : Int32), iv (0 : Int32), .unset] [(.ref b6), (.ref a), (.ref b6)])) (fun _ k_ => XS.dupX1 X6.here hx rfl (hb hby d15_55) rfl rfl rfl k_) ?_
  have f7 := P0.ext E6
  have f8 := P1.ext E6
  obtain ⟨T9, h9, X9, e9, W9, st9⟩ := putF X6 hx hZ hown (host := "") (Or.inl (wd hw 65 rfl)) Via.refl e6 f8 f7 (Or.inl (wd hw 66 rfl)) (wd hw 44 rfl) (ty := (.array (.object "java/lang/Object"))) (by decide) rfl rfl (g := (mkF m 56 #[rv a, iv (1 : Int32), iv (0 : Int32), .unset] [(.ref b6), (.ref a), (.ref b6)])) rfl rfl (hb hby d15_56)
  have Fw9 : Fld Z h9 a "java/util/ArrayList" "elementData" "[Ljava/lang/Object;" (.ref b6) := Fld.same W9 f8
  have N9 := Fr.snoc X9 N5 fa
  refine own_st (T' := T9) (g' := (mkF m 59 #[rv a, iv (1 : Int32), iv (0 : Int32), .unset] [(.ref b6)])) st9 ?_
  clear st9
  have f10 := (Keep.refl h0 [a]).ext E6
  have f11 := f10.wr W9 (Or.inl (List.mem_of_getElem? (i := 0) rfl))
  have f12 := f7.wr W9
  have f13 := P2.ext E6
  have f14 := f13.other W9 (Or.inr (slot_ne (Or.inl (wd hw 75 rfl)) (Or.inl (wd hw 66 rfl)) (by decide) (t := .int) (t' := (.array (.object "java/lang/Object"))) (by decide) (by decide)))
  have f15 := P3.ext E6
  have f16 := f15.other W9 (Or.inr (slot_ne (Or.inl (wd hw 63 rfl)) (Or.inl (wd hw 66 rfl)) (by decide) (t := .int) (t' := (.array (.object "java/lang/Object"))) (by decide) (by decide)))
  have ne17 : a ≠ b6 := Nat.ne_of_lt (Nat.lt_of_lt_of_le P0.lt (Nat.le_of_eq g6.symm))
  have f18 := V6.other W9 (Ne.symm ne17)
  exact own_retA X9 hx hret rfl rfl hlk (hb hby d15_59) (by decide) (by decide) (by rw [e9]; exact ⟨b6, rfl, N9, f11, f12, Fw9, f14, f16, f18, sz6⟩)
theorem d14_0 : decode jdk_38_method_7_code 0 = .ok (.aload_n 0, 1) := by decide +kernel
theorem d14_1 : decode jdk_38_method_7_code 1 = .ok (.aload_n 0, 1) := by decide +kernel
theorem d14_2 : decode jdk_38_method_7_code 2 = .ok (.getfield 48, 3) := by decide +kernel
theorem d14_5 : decode jdk_38_method_7_code 5 = .ok (.iconst 1, 1) := by decide +kernel
theorem d14_6 : decode jdk_38_method_7_code 6 = .ok (.iadd, 1) := by decide +kernel
theorem d14_7 : decode jdk_38_method_7_code 7 = .ok (.invokevirtual 69, 3) := by decide +kernel
theorem d14_10 : decode jdk_38_method_7_code 10 = .ok (.areturn, 1) := by decide +kernel
theorem pd__I__Ljava_lang_Object_ : parseMethodDescriptor "(I)[Ljava/lang/Object;" = some ⟨[.int], some (.array (.object "java/lang/Object"))⟩ := by decide +kernel
theorem ef_grw0 (m : MethodId) (x0 : Addr) : entryFrame m #[(.ref x0)] 1 = mkF m 0 #[rv x0] [] := by first | (simp [entryFrame, mkF, argsToLocals, Value.category]; done) | rfl
def Q_grw0 (Z : State) (a : Addr) (mc : Int32) (dA : Addr) (clD : Cell) (kO : ClassId) (h0 : Heap) (n0 : Nat) (v : Option Value) (h : Heap) (L : List Loc) : Prop := ∃ (t : Addr), (v = some (.ref t)) ∧ (Fr n0 L) ∧ (Keep h0 h [a]) ∧ (Exa Z h a "java/util/ArrayList") ∧ (Fld Z h a "java/util/ArrayList" "elementData" "[Ljava/lang/Object;" (.ref t)) ∧ (Fld Z h a "java/util/ArrayList" "size" "I" (.int (0 : Int32))) ∧ (Fld Z h a "java/util/AbstractList" "modCount" "I" (.int mc)) ∧ (Arv Z h t kO (.object "java/lang/Object") (10 : Int32) [.null, .null, .null, .null, .null, .null, .null, .null, .null, .null] .null) ∧ (h0.size ≤ t)
set_option maxRecDepth 65536 in
set_option maxHeartbeats 40000000 in
theorem rm_grw0 (l : Launch) (Z : State) (a0 : Array Value) (hw : ∀ d ∈ tables_1, d.before a0 Z = true) (ws : List Jvm.Cond) (a : Addr) (mc : Int32) (dA : Addr) (clD : Cell) (kO : ClassId) (h0 : Heap) (n0 : Nat) (O0 : Old Z n0 h0) (P0 : Exa Z h0 a "java/util/ArrayList") (P1 : Fld Z h0 a "java/util/ArrayList" "elementData" "[Ljava/lang/Object;" (.ref dA)) (P2 : Fld Z h0 a "java/util/ArrayList" "size" "I" (.int (0 : Int32))) (P3 : Fld Z h0 a "java/util/AbstractList" "modCount" "I" (.int mc)) (fa : n0 ≤ a) (SDe : Sta Z Z.heap "java/util/ArrayList" "DEFAULTCAPACITY_EMPTY_ELEMENTDATA" "[Ljava/lang/Object;" (.ref dA)) (AD : Arr Z Z.heap dA clD (.object "java/lang/Object")) (LD : clD.slots.size.toInt32 = (0 : Int32)) (OV : Ovr Z kO "java/lang/Object") (FC : Z.vm.findClass "[Ljava/lang/Object;" = some kO) :
    own_MF l own_m11 (Jvm.Cond.code own_m11 jdk_38_method_7_code 1 (some (.array (.object "java/lang/Object"))) :: ws) ({ frames := 2, cells := 1, slots := 10, locals := 29 } : Room) #[(.ref a)] Z h0 (Q_grw0 Z a mc dA clD kO h0 n0) := by
  refine own_met (own := "java/util/ArrayList") (nme := "grow") rfl rfl (plainFor_of_name pn_5) ?_
  intro p e s m below meth c s₁ hx hby hml hown hnm X0 e0 hret hlk hZ
  have N0 := Fr.nil n0
  rw [ef_grw0 m a]
  refine own_st (T' := s₁) (g' := (mkF m 1 #[rv a] [(.ref a)])) (fun _ k_ => XS.aloadN X0.here hx rfl (hb hby d14_0) rfl rfl  k_) ?_
  refine own_st (T' := s₁) (g' := (mkF m 2 #[rv a] [(.ref a), (.ref a)])) (fun _ k_ => XS.aloadN X0.here hx rfl (hb hby d14_1) rfl rfl  k_) ?_
  obtain ⟨T1, X1, e1, st1⟩ := getF X0 hx hZ hown (host := "") (Or.inl (wd hw 74 rfl)) Via.refl e0 P2 (g := (mkF m 2 #[rv a] [(.ref a), (.ref a)])) rfl rfl (hb hby d14_2)
  refine own_st (T' := T1) (g' := (mkF m 5 #[rv a] [(.int (0 : Int32)), (.ref a)])) st1 ?_
  clear st1
  refine own_st (T' := T1) (g' := (mkF m 6 #[rv a] [(.int (1 : Int32)), (.int (0 : Int32)), (.ref a)])) (fun _ k_ => XS.iconst X1.here hx rfl (hb hby d14_5) k_) ?_
  refine own_st (T' := T1) (g' := (mkF m 7 #[rv a] [(.int (1 : Int32)), (.ref a)])) (fun _ k_ => XS.iadd X1.here hx rfl (hb hby d14_6) rfl k_) ?_
  obtain ⟨cq2, q2, q2'⟩ := P0.cell
  obtain ⟨_, T2, L2, X2, hQ2, st2⟩ := own_callP X1 hx (y := own_m10) hown (mvT hZ (wd hw 86 rfl)) (mvT hZ (wd hw 87 rfl)) (mvT hZ (wd hw 89 rfl)) (Cond.privateMethod_at (mvP hZ (wd hw 88 rfl) (args := #[]))) (mvT hZ (wd hw 90 rfl)) (by decide) (backOf (W := 0) (rm_grw1 l Z a0 hw [] a mc dA clD kO h0 n0 O0 P0 P1 P2 P3 fa SDe AD LD OV FC) hZ (wd hw 90 rfl) (wd hw 45 rfl) (by decide) (by decide)) (g := (mkF m 7 #[rv a] [(.int (1 : Int32)), (.ref a)])) rfl (by rw [hml]; rfl) (a := a) (by rw [e1]; exact q2) q2' (argsL := [(.int (1 : Int32))]) (rest := []) (lenOf pd__I__Ljava_lang_Object_ rfl) rfl (by show 2 * 0 + _ ≤ _; exact Nat.le_of_eq rfl) (hb hby d14_7) rfl e1 (by decide) (by decide) (c' := 1) (s' := 10) rfl rfl
  obtain ⟨t2, rfl, Nq2, K2, fq2_0, fq2_1, fq2_2, fq2_3, fq2_4, xq2_fresh_t⟩ := hQ2
  have N2 := Fr.app N0 Nq2
  refine own_st (T' := T2) (g' := (mkF m 10 #[rv a] [(.ref t2)])) st2 ?_
  clear st2
  have f3 := (Keep.refl h0 [a]).trans K2 (allS (Or.inl (List.mem_of_getElem? (i := 0) rfl)) all0)
  exact own_retA X2 hx hret rfl rfl hlk (hb hby d14_10) (by decide) (by decide) ⟨t2, rfl, N2, f3, fq2_0, fq2_1, fq2_2, fq2_3, fq2_4, (Nat.le_trans (Keep.refl h0 [a]).1 xq2_fresh_t)⟩
theorem d13_0 : decode jdk_38_method_24_code 0 = .ok (.iload_n 3, 1) := by decide +kernel
theorem d13_1 : decode jdk_38_method_24_code 1 = .ok (.aload_n 2, 1) := by decide +kernel
theorem d13_2 : decode jdk_38_method_24_code 2 = .ok (.arraylength, 1) := by decide +kernel
theorem d13_3 : decode jdk_38_method_24_code 3 = .ok (.if_icmp .ne 8, 3) := by decide +kernel
theorem d13_6 : decode jdk_38_method_24_code 6 = .ok (.aload_n 0, 1) := by decide +kernel
theorem d13_7 : decode jdk_38_method_24_code 7 = .ok (.invokevirtual 129, 3) := by decide +kernel
theorem d13_10 : decode jdk_38_method_24_code 10 = .ok (.astore_n 2, 1) := by decide +kernel
theorem d13_11 : decode jdk_38_method_24_code 11 = .ok (.aload_n 2, 1) := by decide +kernel
theorem d13_12 : decode jdk_38_method_24_code 12 = .ok (.iload_n 3, 1) := by decide +kernel
theorem d13_13 : decode jdk_38_method_24_code 13 = .ok (.aload_n 1, 1) := by decide +kernel
theorem d13_14 : decode jdk_38_method_24_code 14 = .ok (.aastore, 1) := by decide +kernel
theorem d13_15 : decode jdk_38_method_24_code 15 = .ok (.aload_n 0, 1) := by decide +kernel
theorem d13_16 : decode jdk_38_method_24_code 16 = .ok (.iload_n 3, 1) := by decide +kernel
theorem d13_17 : decode jdk_38_method_24_code 17 = .ok (.iconst 1, 1) := by decide +kernel
theorem d13_18 : decode jdk_38_method_24_code 18 = .ok (.iadd, 1) := by decide +kernel
theorem d13_19 : decode jdk_38_method_24_code 19 = .ok (.putfield 48, 3) := by decide +kernel
theorem d13_22 : decode jdk_38_method_24_code 22 = .ok (.return_, 1) := by decide +kernel
theorem pd____Ljava_lang_Object_ : parseMethodDescriptor "()[Ljava/lang/Object;" = some ⟨[], some (.array (.object "java/lang/Object"))⟩ := by decide +kernel
theorem ef_ad3_0 (m : MethodId) (x0 : Addr) (x1 : Addr) (x2 : Addr) (x3 : Int32) : entryFrame m #[(.ref x0), (.ref x1), (.ref x2), (.int x3)] 4 = mkF m 0 #[rv x0, rv x1, rv x2, iv x3] [] := by first | (simp [entryFrame, mkF, argsToLocals, Value.category]; done) | rfl
def Q_ad3_0 (Z : State) (a : Addr) (el : Addr) (mc : Int32) (dA : Addr) (clD : Cell) (kO : ClassId) (h0 : Heap) (n0 : Nat) (v : Option Value) (h : Heap) (L : List Loc) : Prop := ∃ (t : Addr), (v = none) ∧ (Fr n0 L) ∧ (Keep h0 h [a]) ∧ (Exa Z h a "java/util/ArrayList") ∧ (Fld Z h a "java/util/ArrayList" "elementData" "[Ljava/lang/Object;" (.ref t)) ∧ (Fld Z h a "java/util/ArrayList" "size" "I" (.int (1 : Int32))) ∧ (Fld Z h a "java/util/AbstractList" "modCount" "I" (.int mc)) ∧ (Arv Z h t kO (.object "java/lang/Object") (10 : Int32) [(.ref el), .null, .null, .null, .null, .null, .null, .null, .null, .null] .null) ∧ (h0.size ≤ t)
set_option maxRecDepth 65536 in
set_option maxHeartbeats 40000000 in
theorem rm_ad3_0 (l : Launch) (Z : State) (a0 : Array Value) (hw : ∀ d ∈ tables_1, d.before a0 Z = true) (ws : List Jvm.Cond) (a : Addr) (el : Addr) (mc : Int32) (dA : Addr) (clD : Cell) (kO : ClassId) (h0 : Heap) (n0 : Nat) (O0 : Old Z n0 h0) (P0 : Exa Z h0 a "java/util/ArrayList") (P1 : Fld Z h0 a "java/util/ArrayList" "elementData" "[Ljava/lang/Object;" (.ref dA)) (P2 : Fld Z h0 a "java/util/ArrayList" "size" "I" (.int (0 : Int32))) (P3 : Fld Z h0 a "java/util/AbstractList" "modCount" "I" (.int mc)) (fa : n0 ≤ a) (SDe : Sta Z Z.heap "java/util/ArrayList" "DEFAULTCAPACITY_EMPTY_ELEMENTDATA" "[Ljava/lang/Object;" (.ref dA)) (AD : Arr Z Z.heap dA clD (.object "java/lang/Object")) (LD : clD.slots.size.toInt32 = (0 : Int32)) (OV : Ovr Z kO "java/lang/Object") (FC : Z.vm.findClass "[Ljava/lang/Object;" = some kO) (I_el : Ins Z h0 el "java/lang/Object" true) :
    own_MF l own_m12 (Jvm.Cond.code own_m12 jdk_38_method_24_code 4 none :: ws) ({ frames := 3, cells := 1, slots := 10, locals := 41 } : Room) #[(.ref a), (.ref el), (.ref dA), (.int (0 : Int32))] Z h0 (Q_ad3_0 Z a el mc dA clD kO h0 n0) := by
  refine own_met (own := "java/util/ArrayList") (nme := "add") rfl rfl (plainFor_of_name pn_5) ?_
  intro p e s m below meth c s₁ hx hby hml hown hnm X0 e0 hret hlk hZ
  have N0 := Fr.nil n0
  rw [ef_ad3_0 m a el dA (0 : Int32)]
  refine own_st (T' := s₁) (g' := (mkF m 1 #[rv a, rv el, rv dA, iv (0 : Int32)] [(.int (0 : Int32))])) (fun _ k_ => XS.iloadN X0.here hx rfl (hb hby d13_0) rfl  k_) ?_
  refine own_st (T' := s₁) (g' := (mkF m 2 #[rv a, rv el, rv dA, iv (0 : Int32)] [(.ref dA), (.int (0 : Int32))])) (fun _ k_ => XS.aloadN X0.here hx rfl (hb hby d13_1) rfl rfl  k_) ?_
  have Ar1 := AD.ext O0.2
  refine own_st (T' := s₁) (g' := (mkF m 3 #[rv a, rv el, rv dA, iv (0 : Int32)] [(.int (0 : Int32)), (.int (0 : Int32))])) (fun t_ k_ => X0.arraylength hx (by rw [e0]; exact Ar1.1) (State.isArrayOf_alike hZ.alike Ar1.2.1) (g := (mkF m 2 #[rv a, rv el, rv dA, iv (0 : Int32)] [(.ref dA), (.int (0 : Int32))])) rfl rfl (hb hby d13_2) _ (by rw [LD]; exact k_)) ?_
  refine own_st (T' := s₁) (g' := (mkF m 6 #[rv a, rv el, rv dA, iv (0 : Int32)] [])) (fun _ k_ => XS.icmpNo X0.here hx rfl (hb hby d13_3) rfl (teq (rfl : (0 : Int32) = (0 : Int32))).2 k_) ?_
  refine own_st (T' := s₁) (g' := (mkF m 7 #[rv a, rv el, rv dA, iv (0 : Int32)] [(.ref a)])) (fun _ k_ => XS.aloadN X0.here hx rfl (hb hby d13_6) rfl rfl  k_) ?_
  obtain ⟨cq2, q2, q2'⟩ := P0.cell
  obtain ⟨_, T2, L2, X2, hQ2, st2⟩ := own_callP X0 hx (y := own_m11) hown (mvT hZ (wd hw 81 rfl)) (mvT hZ (wd hw 82 rfl)) (mvT hZ (wd hw 84 rfl)) (Cond.privateMethod_at (mvP hZ (wd hw 83 rfl) (args := #[]))) (mvT hZ (wd hw 85 rfl)) (by decide) (backOf (W := 0) (rm_grw0 l Z a0 hw [] a mc dA clD kO h0 n0 O0 P0 P1 P2 P3 fa SDe AD LD OV FC) hZ (wd hw 85 rfl) (wd hw 45 rfl) (by decide) (by decide)) (g := (mkF m 7 #[rv a, rv el, rv dA, iv (0 : Int32)] [(.ref a)])) rfl (by rw [hml]; rfl) (a := a) (by rw [e0]; exact q2) q2' (argsL := []) (rest := []) (lenOf pd____Ljava_lang_Object_ rfl) rfl (by show 2 * 0 + _ ≤ _; exact Nat.le_of_eq rfl) (hb hby d13_7) rfl e0 (by decide) (by decide) (c' := 1) (s' := 10) rfl rfl
  obtain ⟨t2, rfl, Nq2, K2, fq2_0, fq2_1, fq2_2, fq2_3, fq2_4, xq2_fresh_t⟩ := hQ2
  have N2 := Fr.app N0 Nq2
  refine own_st (T' := T2) (g' := (mkF m 10 #[rv a, rv el, rv dA, iv (0 : Int32)] [(.ref t2)])) st2 ?_
  clear st2
  refine own_st (T' := T2) (g' := (mkF m 11 #[rv a, rv el, rv t2, iv (0 : Int32)] [])) (fun _ k_ => XS.astoreN X2.here hx rfl (hb hby d13_10) rfl rfl (l' := #[rv a, rv el, rv t2, iv (0 : Int32)]) rfl k_) ?_
  refine own_st (T' := T2) (g' := (mkF m 12 #[rv a, rv el, rv t2, iv (0 : Int32)] [(.ref t2)])) (fun _ k_ => XS.aloadN X2.here hx rfl (hb hby d13_11) rfl rfl  k_) ?_
  refine own_st (T' := T2) (g' := (mkF m 13 #[rv a, rv el, rv t2, iv (0 : Int32)] [(.int (0 : Int32)), (.ref t2)])) (fun _ k_ => XS.iloadN X2.here hx rfl (hb hby d13_12) rfl  k_) ?_
  refine own_st (T' := T2) (g' := (mkF m 14 #[rv a, rv el, rv t2, iv (0 : Int32)] [(.ref el), (.int (0 : Int32)), (.ref t2)])) (fun _ k_ => XS.aloadN X2.here hx rfl (hb hby d13_13) rfl rfl  k_) ?_
  obtain ⟨cl3, Ar3, q3, S3, N3, H3, G3⟩ := id fq2_4
  have hin3 : ¬ ((0 : Int32) < 0 ∨ cl3.slots.size ≤ ((0 : Int32)).toNatClampNeg) := inb_of S3 ⟨by decide, by decide⟩
  have f4 := own_insK I_el K2
  obtain ⟨T5, h5, X5, e5, W5, st5⟩ := stR X2 hx hZ rfl Ar3 (j := (0 : Int32)) hin3 rfl (Sto.of Ar3 (q3 ▸ OV) f4) (g := (mkF m 14 #[rv a, rv el, rv t2, iv (0 : Int32)] [(.ref el), (.int (0 : Int32)), (.ref t2)])) rfl rfl (hb hby d13_14)
  have V5 : Arv Z h5 t2 kO (.object "java/lang/Object") (10 : Int32) [(.ref el), .null, .null, .null, .null, .null, .null, .null, .null, .null] .null := Arv.set Ar3 q3 S3 N3 H3 G3 rfl W5 0 rfl (Nat.le_of_ble_eq_true rfl)
  have Nx5 := Fr.snoc X5 N2 (Nat.le_trans (own_z O0) xq2_fresh_t)
  refine own_st (T' := T5) (g' := (mkF m 15 #[rv a, rv el, rv t2, iv (0 : Int32)] [])) st5 ?_
  clear hin3 G3 H3 N3 S3 q3 Ar3 cl3 st5
  refine own_st (T' := T5) (g' := (mkF m 16 #[rv a, rv el, rv t2, iv (0 : Int32)] [(.ref a)])) (fun _ k_ => XS.aloadN X5.here hx rfl (hb hby d13_15) rfl rfl  k_) ?_
  refine own_st (T' := T5) (g' := (mkF m 17 #[rv a, rv el, rv t2, iv (0 : Int32)] [(.int (0 : Int32)), (.ref a)])) (fun _ k_ => XS.iloadN X5.here hx rfl (hb hby d13_16) rfl  k_) ?_
  refine own_st (T' := T5) (g' := (mkF m 18 #[rv a, rv el, rv t2, iv (0 : Int32)] [(.int (1 : Int32)), (.int (0 : Int32)), (.ref a)])) (fun _ k_ => XS.iconst X5.here hx rfl (hb hby d13_17) k_) ?_
  refine own_st (T' := T5) (g' := (mkF m 19 #[rv a, rv el, rv t2, iv (0 : Int32)] [(.int (1 : Int32)), (.ref a)])) (fun _ k_ => XS.iadd X5.here hx rfl (hb hby d13_18) rfl k_) ?_
  have f6 := fq2_0.wr W5
  have ne7 : a ≠ t2 := Nat.ne_of_lt (Nat.lt_of_lt_of_le P0.lt xq2_fresh_t)
  have f8 := fq2_2.other W5 (Or.inl ne7)
  obtain ⟨T9, h9, X9, e9, W9, st9⟩ := putF X5 hx hZ hown (host := "") (Or.inl (wd hw 74 rfl)) Via.refl e5 f8 f6 (Or.inl (wd hw 75 rfl)) (wd hw 44 rfl) (ty := .int) (by decide) rfl rfl (g := (mkF m 19 #[rv a, rv el, rv t2, iv (0 : Int32)] [(.int (1 : Int32)), (.ref a)])) rfl rfl (hb hby d13_19)
  have Fw9 : Fld Z h9 a "java/util/ArrayList" "size" "I" (.int (1 : Int32)) := Fld.same W9 f8
  have N9 := Fr.snoc X9 Nx5 fa
  refine own_st (T' := T9) (g' := (mkF m 22 #[rv a, rv el, rv t2, iv (0 : Int32)] [])) st9 ?_
  clear st9
  have f10 := (Keep.refl h0 [a]).trans K2 (allS (Or.inl (List.mem_of_getElem? (i := 0) rfl)) all0)
  have f11 := f10.wr W5 (Or.inr (Nat.le_trans (Keep.refl h0 [a]).1 xq2_fresh_t))
  have f12 := f11.wr W9 (Or.inl (List.mem_of_getElem? (i := 0) rfl))
  have f13 := f6.wr W9
  have f14 := fq2_1.other W5 (Or.inl ne7)
  have f15 := f14.other W9 (Or.inr (slot_ne (Or.inl (wd hw 66 rfl)) (Or.inl (wd hw 75 rfl)) (by decide) (t := (.array (.object "java/lang/Object"))) (t' := .int) (by decide) (by decide)))
  have f16 := fq2_3.other W5 (Or.inl ne7)
  have f17 := f16.other W9 (Or.inr (slot_ne (Or.inl (wd hw 63 rfl)) (Or.inl (wd hw 75 rfl)) (by decide) (t := .int) (t' := .int) (by decide) (by decide)))
  have f18 := V5.other W9 (Ne.symm ne7)
  exact own_retV X9 hx hret hlk (hb hby d13_22) (by decide) (by decide) (by rw [e9]; exact ⟨t2, rfl, N9, f12, f13, f15, Fw9, f17, f18, (Nat.le_trans (Keep.refl h0 [a]).1 xq2_fresh_t)⟩)
theorem d12_0 : decode jdk_38_method_25_code 0 = .ok (.aload_n 0, 1) := by decide +kernel
theorem d12_1 : decode jdk_38_method_25_code 1 = .ok (.dup, 1) := by decide +kernel
theorem d12_2 : decode jdk_38_method_25_code 2 = .ok (.getfield 63, 3) := by decide +kernel
theorem d12_5 : decode jdk_38_method_25_code 5 = .ok (.iconst 1, 1) := by decide +kernel
theorem d12_6 : decode jdk_38_method_25_code 6 = .ok (.iadd, 1) := by decide +kernel
theorem d12_7 : decode jdk_38_method_25_code 7 = .ok (.putfield 63, 3) := by decide +kernel
theorem d12_10 : decode jdk_38_method_25_code 10 = .ok (.aload_n 0, 1) := by decide +kernel
theorem d12_11 : decode jdk_38_method_25_code 11 = .ok (.aload_n 1, 1) := by decide +kernel
theorem d12_12 : decode jdk_38_method_25_code 12 = .ok (.aload_n 0, 1) := by decide +kernel
theorem d12_13 : decode jdk_38_method_25_code 13 = .ok (.getfield 9, 3) := by decide +kernel
theorem d12_16 : decode jdk_38_method_25_code 16 = .ok (.aload_n 0, 1) := by decide +kernel
theorem d12_17 : decode jdk_38_method_25_code 17 = .ok (.getfield 48, 3) := by decide +kernel
theorem d12_20 : decode jdk_38_method_25_code 20 = .ok (.invokevirtual 131, 3) := by decide +kernel
theorem d12_23 : decode jdk_38_method_25_code 23 = .ok (.iconst 1, 1) := by decide +kernel
theorem d12_24 : decode jdk_38_method_25_code 24 = .ok (.ireturn, 1) := by decide +kernel
theorem pd__Ljava_lang_Object__Ljava_lang_Object_I_V : parseMethodDescriptor "(Ljava/lang/Object;[Ljava/lang/Object;I)V" = some ⟨[(.object "java/lang/Object"), (.array (.object "java/lang/Object")), .int], none⟩ := by decide +kernel
theorem ef_add_0 (m : MethodId) (x0 : Addr) (x1 : Addr) : entryFrame m #[(.ref x0), (.ref x1)] 2 = mkF m 0 #[rv x0, rv x1] [] := by first | (simp [entryFrame, mkF, argsToLocals, Value.category]; done) | rfl
def Q_add_0 (Z : State) (a : Addr) (el : Addr) (mc : Int32) (dA : Addr) (clD : Cell) (kO : ClassId) (h0 : Heap) (n0 : Nat) (v : Option Value) (h : Heap) (L : List Loc) : Prop := ∃ (t : Addr), (v = some (.int (1 : Int32))) ∧ (Fr n0 L) ∧ (Keep h0 h [a]) ∧ (Exa Z h a "java/util/ArrayList") ∧ (Fld Z h a "java/util/ArrayList" "elementData" "[Ljava/lang/Object;" (.ref t)) ∧ (Fld Z h a "java/util/ArrayList" "size" "I" (.int (1 : Int32))) ∧ (Fld Z h a "java/util/AbstractList" "modCount" "I" (.int (mc + (1 : Int32)))) ∧ (Arv Z h t kO (.object "java/lang/Object") (10 : Int32) [(.ref el), .null, .null, .null, .null, .null, .null, .null, .null, .null] .null) ∧ (h0.size ≤ t)
set_option maxRecDepth 65536 in
set_option maxHeartbeats 40000000 in
theorem rm_add_0 (l : Launch) (Z : State) (a0 : Array Value) (hw : ∀ d ∈ tables_1, d.before a0 Z = true) (ws : List Jvm.Cond) (a : Addr) (el : Addr) (mc : Int32) (dA : Addr) (clD : Cell) (kO : ClassId) (h0 : Heap) (n0 : Nat) (O0 : Old Z n0 h0) (P0 : Exa Z h0 a "java/util/ArrayList") (P1 : Fld Z h0 a "java/util/ArrayList" "elementData" "[Ljava/lang/Object;" (.ref dA)) (P2 : Fld Z h0 a "java/util/ArrayList" "size" "I" (.int (0 : Int32))) (P3 : Fld Z h0 a "java/util/AbstractList" "modCount" "I" (.int mc)) (fa : n0 ≤ a) (SDe : Sta Z Z.heap "java/util/ArrayList" "DEFAULTCAPACITY_EMPTY_ELEMENTDATA" "[Ljava/lang/Object;" (.ref dA)) (AD : Arr Z Z.heap dA clD (.object "java/lang/Object")) (LD : clD.slots.size.toInt32 = (0 : Int32)) (OV : Ovr Z kO "java/lang/Object") (FC : Z.vm.findClass "[Ljava/lang/Object;" = some kO) (I_el : Ins Z h0 el "java/lang/Object" true) :
    own_MF l own_m13 (Jvm.Cond.code own_m13 jdk_38_method_25_code 2 (some .boolean) :: ws) ({ frames := 4, cells := 1, slots := 10, locals := 56 } : Room) #[(.ref a), (.ref el)] Z h0 (Q_add_0 Z a el mc dA clD kO h0 n0) := by
  refine own_met (own := "java/util/ArrayList") (nme := "add") rfl rfl (plainFor_of_name pn_5) ?_
  intro p e s m below meth c s₁ hx hby hml hown hnm X0 e0 hret hlk hZ
  have N0 := Fr.nil n0
  rw [ef_add_0 m a el]
  refine own_st (T' := s₁) (g' := (mkF m 1 #[rv a, rv el] [(.ref a)])) (fun _ k_ => XS.aloadN X0.here hx rfl (hb hby d12_0) rfl rfl  k_) ?_
  refine own_st (T' := s₁) (g' := (mkF m 2 #[rv a, rv el] [(.ref a), (.ref a)])) (fun _ k_ => XS.dup X0.here hx rfl (hb hby d12_1) rfl rfl k_) ?_
  obtain ⟨T1, X1, e1, st1⟩ := getF X0 hx hZ hown (host := "") (Or.inl (wd hw 72 rfl)) (Via.of (wd hw 73 rfl)) e0 P3 (g := (mkF m 2 #[rv a, rv el] [(.ref a), (.ref a)])) rfl rfl (hb hby d12_2)
  refine own_st (T' := T1) (g' := (mkF m 5 #[rv a, rv el] [(.int mc), (.ref a)])) st1 ?_
  clear st1
  refine own_st (T' := T1) (g' := (mkF m 6 #[rv a, rv el] [(.int (1 : Int32)), (.int mc), (.ref a)])) (fun _ k_ => XS.iconst X1.here hx rfl (hb hby d12_5) k_) ?_
  refine own_st (T' := T1) (g' := (mkF m 7 #[rv a, rv el] [(.int (mc + (1 : Int32))), (.ref a)])) (fun _ k_ => XS.iadd X1.here hx rfl (hb hby d12_6) rfl k_) ?_
  obtain ⟨T2, h2, X2, e2, W2, st2⟩ := putF X1 hx hZ hown (host := "") (Or.inl (wd hw 72 rfl)) (Via.of (wd hw 73 rfl)) e1 P3 P0 (Or.inl (wd hw 63 rfl)) (wd hw 44 rfl) (ty := .int) (by decide) rfl rfl (g := (mkF m 7 #[rv a, rv el] [(.int (mc + (1 : Int32))), (.ref a)])) rfl rfl (hb hby d12_7)
  have Fw2 : Fld Z h2 a "java/util/AbstractList" "modCount" "I" (.int (mc + (1 : Int32))) := Fld.same W2 P3
  have N2 := Fr.snoc X2 N0 fa
  refine own_st (T' := T2) (g' := (mkF m 10 #[rv a, rv el] [])) st2 ?_
  clear st2
  refine own_st (T' := T2) (g' := (mkF m 11 #[rv a, rv el] [(.ref a)])) (fun _ k_ => XS.aloadN X2.here hx rfl (hb hby d12_10) rfl rfl  k_) ?_
  refine own_st (T' := T2) (g' := (mkF m 12 #[rv a, rv el] [(.ref el), (.ref a)])) (fun _ k_ => XS.aloadN X2.here hx rfl (hb hby d12_11) rfl rfl  k_) ?_
  refine own_st (T' := T2) (g' := (mkF m 13 #[rv a, rv el] [(.ref a), (.ref el), (.ref a)])) (fun _ k_ => XS.aloadN X2.here hx rfl (hb hby d12_12) rfl rfl  k_) ?_
  have f3 := P1.other W2 (Or.inr (slot_ne (Or.inl (wd hw 66 rfl)) (Or.inl (wd hw 63 rfl)) (by decide) (t := (.array (.object "java/lang/Object"))) (t' := .int) (by decide) (by decide)))
  obtain ⟨T4, X4, e4, st4⟩ := getF X2 hx hZ hown (host := "") (Or.inl (wd hw 65 rfl)) Via.refl e2 f3 (g := (mkF m 13 #[rv a, rv el] [(.ref a), (.ref el), (.ref a)])) rfl rfl (hb hby d12_13)
  refine own_st (T' := T4) (g' := (mkF m 16 #[rv a, rv el] [(.ref dA), (.ref el), (.ref a)])) st4 ?_
  clear st4
  refine own_st (T' := T4) (g' := (mkF m 17 #[rv a, rv el] [(.ref a), (.ref dA), (.ref el), (.ref a)])) (fun _ k_ => XS.aloadN X4.here hx rfl (hb hby d12_16) rfl rfl  k_) ?_
  have f5 := P2.other W2 (Or.inr (slot_ne (Or.inl (wd hw 75 rfl)) (Or.inl (wd hw 63 rfl)) (by decide) (t := .int) (t' := .int) (by decide) (by decide)))
  obtain ⟨T6, X6, e6, st6⟩ := getF X4 hx hZ hown (host := "") (Or.inl (wd hw 74 rfl)) Via.refl e4 f5 (g := (mkF m 17 #[rv a, rv el] [(.ref a), (.ref dA), (.ref el), (.ref a)])) rfl rfl (hb hby d12_17)
  refine own_st (T' := T6) (g' := (mkF m 20 #[rv a, rv el] [(.int (0 : Int32)), (.ref dA), (.ref el), (.ref a)])) st6 ?_
  clear st6
  have f7 := P0.wr W2
  have f8 := Ins.wr W2 I_el
  have f9 := O0.wr W2 fa
  have f10 := (Keep.refl h0 [a]).wr W2 (Or.inl (List.mem_of_getElem? (i := 0) rfl))
  obtain ⟨cq11, q11, q11'⟩ := f7.cell
  obtain ⟨_, T11, L11, X11, hQ11, st11⟩ := own_callP X6 hx (y := own_m12) hown (mvT hZ (wd hw 76 rfl)) (mvT hZ (wd hw 77 rfl)) (mvT hZ (wd hw 79 rfl)) (Cond.privateMethod_at (mvP hZ (wd hw 78 rfl) (args := #[]))) (mvT hZ (wd hw 80 rfl)) (by decide) (backOf (W := 0) (rm_ad3_0 l Z a0 hw [] a el (mc + (1 : Int32)) dA clD kO h2 n0 f9 f7 f3 f5 Fw2 fa SDe AD LD OV FC f8) hZ (wd hw 80 rfl) (wd hw 45 rfl) (by decide) (by decide)) (g := (mkF m 20 #[rv a, rv el] [(.int (0 : Int32)), (.ref dA), (.ref el), (.ref a)])) rfl (by rw [hml]; rfl) (a := a) (by rw [e6]; exact q11) q11' (argsL := [(.ref el), (.ref dA), (.int (0 : Int32))]) (rest := []) (lenOf pd__Ljava_lang_Object__Ljava_lang_Object_I_V rfl) rfl (by show 2 * 0 + _ ≤ _; exact Nat.le_of_eq rfl) (hb hby d12_20) rfl e6 (by decide) (by decide) (c' := 1) (s' := 10) rfl rfl
  obtain ⟨t11, rfl, Nq11, K11, fq11_0, fq11_1, fq11_2, fq11_3, fq11_4, xq11_fresh_t⟩ := hQ11
  have N11 := Fr.app N2 Nq11
  refine own_st (T' := T11) (g' := (mkF m 23 #[rv a, rv el] [])) st11 ?_
  clear st11
  refine own_st (T' := T11) (g' := (mkF m 24 #[rv a, rv el] [(.int (1 : Int32))])) (fun _ k_ => XS.iconst X11.here hx rfl (hb hby d12_23) k_) ?_
  have f12 := f10.trans K11 (allS (Or.inl (List.mem_of_getElem? (i := 0) rfl)) all0)
  exact own_retN X11 hx (t := .boolean) hret (by simp) hlk (hb hby d12_24) (by decide) (by decide) ⟨t11, rfl, N11, f12, fq11_0, fq11_1, fq11_2, fq11_3, fq11_4, (Nat.le_trans f10.1 xq11_fresh_t)⟩
theorem ef_ad3_1 (m : MethodId) (x0 : Addr) (x1 : Addr) (x2 : Addr) (x3 : Int32) : entryFrame m #[(.ref x0), (.ref x1), (.ref x2), (.int x3)] 4 = mkF m 0 #[rv x0, rv x1, rv x2, iv x3] [] := by first | (simp [entryFrame, mkF, argsToLocals, Value.category]; done) | rfl
def Q_ad3_1 (Z : State) (a : Addr) (el : Addr) (t : Addr) (mc : Int32) (kO : ClassId) (v0 : Value) (h0 : Heap) (n0 : Nat) (v : Option Value) (h : Heap) (L : List Loc) : Prop := (v = none) ∧ (Fr n0 L) ∧ (Keep h0 h [a, t]) ∧ (Exa Z h a "java/util/ArrayList") ∧ (Fld Z h a "java/util/ArrayList" "elementData" "[Ljava/lang/Object;" (.ref t)) ∧ (Fld Z h a "java/util/ArrayList" "size" "I" (.int (2 : Int32))) ∧ (Fld Z h a "java/util/AbstractList" "modCount" "I" (.int mc)) ∧ (Arv Z h t kO (.object "java/lang/Object") (10 : Int32) [v0, (.ref el), .null, .null, .null, .null, .null, .null, .null, .null] .null)
set_option maxRecDepth 65536 in
set_option maxHeartbeats 40000000 in
theorem rm_ad3_1 (l : Launch) (Z : State) (a0 : Array Value) (hw : ∀ d ∈ tables_1, d.before a0 Z = true) (ws : List Jvm.Cond) (a : Addr) (el : Addr) (t : Addr) (mc : Int32) (kO : ClassId) (v0 : Value) (h0 : Heap) (n0 : Nat) (O0 : Old Z n0 h0) (P0 : Exa Z h0 a "java/util/ArrayList") (P1 : Fld Z h0 a "java/util/ArrayList" "elementData" "[Ljava/lang/Object;" (.ref t)) (P2 : Fld Z h0 a "java/util/ArrayList" "size" "I" (.int (1 : Int32))) (P3 : Fld Z h0 a "java/util/AbstractList" "modCount" "I" (.int mc)) (P4 : Arv Z h0 t kO (.object "java/lang/Object") (10 : Int32) [v0, .null, .null, .null, .null, .null, .null, .null, .null, .null] .null) (fa : n0 ≤ a) (ft : n0 ≤ t) (OV : Ovr Z kO "java/lang/Object") (FC : Z.vm.findClass "[Ljava/lang/Object;" = some kO) (I_el : Ins Z h0 el "java/lang/Object" true) :
    own_MF l own_m12 (Jvm.Cond.code own_m12 jdk_38_method_24_code 4 none :: ws) ({ frames := 0, cells := 0, slots := 0, locals := 0 } : Room) #[(.ref a), (.ref el), (.ref t), (.int (1 : Int32))] Z h0 (Q_ad3_1 Z a el t mc kO v0 h0 n0) := by
  refine own_met (own := "java/util/ArrayList") (nme := "add") rfl rfl (plainFor_of_name pn_5) ?_
  intro p e s m below meth c s₁ hx hby hml hown hnm X0 e0 hret hlk hZ
  have N0 := Fr.nil n0
  rw [ef_ad3_1 m a el t (1 : Int32)]
  refine own_st (T' := s₁) (g' := (mkF m 1 #[rv a, rv el, rv t, iv (1 : Int32)] [(.int (1 : Int32))])) (fun _ k_ => XS.iloadN X0.here hx rfl (hb hby d13_0) rfl  k_) ?_
  refine own_st (T' := s₁) (g' := (mkF m 2 #[rv a, rv el, rv t, iv (1 : Int32)] [(.ref t), (.int (1 : Int32))])) (fun _ k_ => XS.aloadN X0.here hx rfl (hb hby d13_1) rfl rfl  k_) ?_
  obtain ⟨cl1, Ar1, -, S1, N1, -, -⟩ := id P4
  refine own_st (T' := s₁) (g' := (mkF m 3 #[rv a, rv el, rv t, iv (1 : Int32)] [(.int (10 : Int32)), (.int (1 : Int32))])) (fun t_ k_ => X0.arraylength hx (by rw [e0]; exact Ar1.1) (State.isArrayOf_alike hZ.alike Ar1.2.1) (g := (mkF m 2 #[rv a, rv el, rv t, iv (1 : Int32)] [(.ref t), (.int (1 : Int32))])) rfl rfl (hb hby d13_2) _ (by rw [len_of S1 N1]; exact k_)) ?_
  refine own_st (T' := s₁) (g' := (mkF m 11 #[rv a, rv el, rv t, iv (1 : Int32)] [])) (fun _ k_ => XS.icmpYes X0.here hx rfl (pc0 := 3) (pc' := 11) rfl (hb hby d13_3) rfl (feq (by decide : ¬ ((1 : Int32) = (10 : Int32)))).2 (by decide) (by decide) k_) ?_
  refine own_st (T' := s₁) (g' := (mkF m 12 #[rv a, rv el, rv t, iv (1 : Int32)] [(.ref t)])) (fun _ k_ => XS.aloadN X0.here hx rfl (hb hby d13_11) rfl rfl  k_) ?_
  refine own_st (T' := s₁) (g' := (mkF m 13 #[rv a, rv el, rv t, iv (1 : Int32)] [(.int (1 : Int32)), (.ref t)])) (fun _ k_ => XS.iloadN X0.here hx rfl (hb hby d13_12) rfl  k_) ?_
  refine own_st (T' := s₁) (g' := (mkF m 14 #[rv a, rv el, rv t, iv (1 : Int32)] [(.ref el), (.int (1 : Int32)), (.ref t)])) (fun _ k_ => XS.aloadN X0.here hx rfl (hb hby d13_13) rfl rfl  k_) ?_
  obtain ⟨cl2, Ar2, q2, S2, N2, H2, G2⟩ := id P4
  have hin2 : ¬ ((1 : Int32) < 0 ∨ cl2.slots.size ≤ ((1 : Int32)).toNatClampNeg) := inb_of S2 ⟨by decide, by decide⟩
  obtain ⟨T3, h3, X3, e3, W3, st3⟩ := stR X0 hx hZ e0 Ar2 (j := (1 : Int32)) hin2 rfl (Sto.of Ar2 (q2 ▸ OV) I_el) (g := (mkF m 14 #[rv a, rv el, rv t, iv (1 : Int32)] [(.ref el), (.int (1 : Int32)), (.ref t)])) rfl rfl (hb hby d13_14)
  have V3 : Arv Z h3 t kO (.object "java/lang/Object") (10 : Int32) [v0, (.ref el), .null, .null, .null, .null, .null, .null, .null, .null] .null := Arv.set Ar2 q2 S2 N2 H2 G2 rfl W3 1 rfl (Nat.le_of_ble_eq_true rfl)
  have Nx3 := Fr.snoc X3 N0 ft
  refine own_st (T' := T3) (g' := (mkF m 15 #[rv a, rv el, rv t, iv (1 : Int32)] [])) st3 ?_
  clear hin2 G2 H2 N2 S2 q2 Ar2 cl2 st3
  refine own_st (T' := T3) (g' := (mkF m 16 #[rv a, rv el, rv t, iv (1 : Int32)] [(.ref a)])) (fun _ k_ => XS.aloadN X3.here hx rfl (hb hby d13_15) rfl rfl  k_) ?_
  refine own_st (T' := T3) (g' := (mkF m 17 #[rv a, rv el, rv t, iv (1 : Int32)] [(.int (1 : Int32)), (.ref a)])) (fun _ k_ => XS.iloadN X3.here hx rfl (hb hby d13_16) rfl  k_) ?_
  refine own_st (T' := T3) (g' := (mkF m 18 #[rv a, rv el, rv t, iv (1 : Int32)] [(.int (1 : Int32)), (.int (1 : Int32)), (.ref a)])) (fun _ k_ => XS.iconst X3.here hx rfl (hb hby d13_17) k_) ?_
  refine own_st (T' := T3) (g' := (mkF m 19 #[rv a, rv el, rv t, iv (1 : Int32)] [(.int (2 : Int32)), (.ref a)])) (fun _ k_ => XS.iadd X3.here hx rfl (hb hby d13_18) rfl k_) ?_
  have f4 := P0.wr W3
  have xe5 : Exa Z h3 a "java/util/ArrayList" := P0.wr W3
  have ne6 : a ≠ t := own_neA xe5 (wd hw 44 rfl) V3
  have f7 := P2.other W3 (Or.inl ne6)
  obtain ⟨T8, h8, X8, e8, W8, st8⟩ := putF X3 hx hZ hown (host := "") (Or.inl (wd hw 74 rfl)) Via.refl e3 f7 f4 (Or.inl (wd hw 75 rfl)) (wd hw 44 rfl) (ty := .int) (by decide) rfl rfl (g := (mkF m 19 #[rv a, rv el, rv t, iv (1 : Int32)] [(.int (2 : Int32)), (.ref a)])) rfl rfl (hb hby d13_19)
  have Fw8 : Fld Z h8 a "java/util/ArrayList" "size" "I" (.int (2 : Int32)) := Fld.same W8 f7
  have N8 := Fr.snoc X8 Nx3 fa
  refine own_st (T' := T8) (g' := (mkF m 22 #[rv a, rv el, rv t, iv (1 : Int32)] [])) st8 ?_
  clear st8
  have f9 := (Keep.refl h0 [a, t]).wr W3 (Or.inl (List.mem_of_getElem? (i := 1) rfl))
  have f10 := f9.wr W8 (Or.inl (List.mem_of_getElem? (i := 0) rfl))
  have f11 := f4.wr W8
  have f12 := P1.other W3 (Or.inl ne6)
  have f13 := f12.other W8 (Or.inr (slot_ne (Or.inl (wd hw 66 rfl)) (Or.inl (wd hw 75 rfl)) (by decide) (t := (.array (.object "java/lang/Object"))) (t' := .int) (by decide) (by decide)))
  have f14 := P3.other W3 (Or.inl ne6)
  have f15 := f14.other W8 (Or.inr (slot_ne (Or.inl (wd hw 63 rfl)) (Or.inl (wd hw 75 rfl)) (by decide) (t := .int) (t' := .int) (by decide) (by decide)))
  have f16 := V3.other W8 (Ne.symm ne6)
  exact own_retV X8 hx hret hlk (hb hby d13_22) (by decide) (by decide) (by rw [e8]; exact ⟨rfl, N8, f10, f11, f13, Fw8, f15, f16⟩)
theorem ef_add_1 (m : MethodId) (x0 : Addr) (x1 : Addr) : entryFrame m #[(.ref x0), (.ref x1)] 2 = mkF m 0 #[rv x0, rv x1] [] := by first | (simp [entryFrame, mkF, argsToLocals, Value.category]; done) | rfl
def Q_add_1 (Z : State) (a : Addr) (el : Addr) (t : Addr) (mc : Int32) (kO : ClassId) (v0 : Value) (h0 : Heap) (n0 : Nat) (v : Option Value) (h : Heap) (L : List Loc) : Prop := (v = some (.int (1 : Int32))) ∧ (Fr n0 L) ∧ (Keep h0 h [a, t]) ∧ (Exa Z h a "java/util/ArrayList") ∧ (Fld Z h a "java/util/ArrayList" "elementData" "[Ljava/lang/Object;" (.ref t)) ∧ (Fld Z h a "java/util/ArrayList" "size" "I" (.int (2 : Int32))) ∧ (Fld Z h a "java/util/AbstractList" "modCount" "I" (.int (mc + (1 : Int32)))) ∧ (Arv Z h t kO (.object "java/lang/Object") (10 : Int32) [v0, (.ref el), .null, .null, .null, .null, .null, .null, .null, .null] .null)
set_option maxRecDepth 65536 in
set_option maxHeartbeats 40000000 in
theorem rm_add_1 (l : Launch) (Z : State) (a0 : Array Value) (hw : ∀ d ∈ tables_1, d.before a0 Z = true) (ws : List Jvm.Cond) (a : Addr) (el : Addr) (t : Addr) (mc : Int32) (kO : ClassId) (v0 : Value) (h0 : Heap) (n0 : Nat) (O0 : Old Z n0 h0) (P0 : Exa Z h0 a "java/util/ArrayList") (P1 : Fld Z h0 a "java/util/ArrayList" "elementData" "[Ljava/lang/Object;" (.ref t)) (P2 : Fld Z h0 a "java/util/ArrayList" "size" "I" (.int (1 : Int32))) (P3 : Fld Z h0 a "java/util/AbstractList" "modCount" "I" (.int mc)) (P4 : Arv Z h0 t kO (.object "java/lang/Object") (10 : Int32) [v0, .null, .null, .null, .null, .null, .null, .null, .null, .null] .null) (fa : n0 ≤ a) (ft : n0 ≤ t) (OV : Ovr Z kO "java/lang/Object") (FC : Z.vm.findClass "[Ljava/lang/Object;" = some kO) (I_el : Ins Z h0 el "java/lang/Object" true) :
    own_MF l own_m13 (Jvm.Cond.code own_m13 jdk_38_method_25_code 2 (some .boolean) :: ws) ({ frames := 1, cells := 0, slots := 0, locals := 15 } : Room) #[(.ref a), (.ref el)] Z h0 (Q_add_1 Z a el t mc kO v0 h0 n0) := by
  refine own_met (own := "java/util/ArrayList") (nme := "add") rfl rfl (plainFor_of_name pn_5) ?_
  intro p e s m below meth c s₁ hx hby hml hown hnm X0 e0 hret hlk hZ
  have N0 := Fr.nil n0
  rw [ef_add_1 m a el]
  refine own_st (T' := s₁) (g' := (mkF m 1 #[rv a, rv el] [(.ref a)])) (fun _ k_ => XS.aloadN X0.here hx rfl (hb hby d12_0) rfl rfl  k_) ?_
  refine own_st (T' := s₁) (g' := (mkF m 2 #[rv a, rv el] [(.ref a), (.ref a)])) (fun _ k_ => XS.dup X0.here hx rfl (hb hby d12_1) rfl rfl k_) ?_
  obtain ⟨T1, X1, e1, st1⟩ := getF X0 hx hZ hown (host := "") (Or.inl (wd hw 72 rfl)) (Via.of (wd hw 73 rfl)) e0 P3 (g := (mkF m 2 #[rv a, rv el] [(.ref a), (.ref a)])) rfl rfl (hb hby d12_2)
  refine own_st (T' := T1) (g' := (mkF m 5 #[rv a, rv el] [(.int mc), (.ref a)])) st1 ?_
  clear st1
  refine own_st (T' := T1) (g' := (mkF m 6 #[rv a, rv el] [(.int (1 : Int32)), (.int mc), (.ref a)])) (fun _ k_ => XS.iconst X1.here hx rfl (hb hby d12_5) k_) ?_
  refine own_st (T' := T1) (g' := (mkF m 7 #[rv a, rv el] [(.int (mc + (1 : Int32))), (.ref a)])) (fun _ k_ => XS.iadd X1.here hx rfl (hb hby d12_6) rfl k_) ?_
  obtain ⟨T2, h2, X2, e2, W2, st2⟩ := putF X1 hx hZ hown (host := "") (Or.inl (wd hw 72 rfl)) (Via.of (wd hw 73 rfl)) e1 P3 P0 (Or.inl (wd hw 63 rfl)) (wd hw 44 rfl) (ty := .int) (by decide) rfl rfl (g := (mkF m 7 #[rv a, rv el] [(.int (mc + (1 : Int32))), (.ref a)])) rfl rfl (hb hby d12_7)
  have Fw2 : Fld Z h2 a "java/util/AbstractList" "modCount" "I" (.int (mc + (1 : Int32))) := Fld.same W2 P3
  have N2 := Fr.snoc X2 N0 fa
  refine own_st (T' := T2) (g' := (mkF m 10 #[rv a, rv el] [])) st2 ?_
  clear st2
  refine own_st (T' := T2) (g' := (mkF m 11 #[rv a, rv el] [(.ref a)])) (fun _ k_ => XS.aloadN X2.here hx rfl (hb hby d12_10) rfl rfl  k_) ?_
  refine own_st (T' := T2) (g' := (mkF m 12 #[rv a, rv el] [(.ref el), (.ref a)])) (fun _ k_ => XS.aloadN X2.here hx rfl (hb hby d12_11) rfl rfl  k_) ?_
  refine own_st (T' := T2) (g' := (mkF m 13 #[rv a, rv el] [(.ref a), (.ref el), (.ref a)])) (fun _ k_ => XS.aloadN X2.here hx rfl (hb hby d12_12) rfl rfl  k_) ?_
  have f3 := P1.other W2 (Or.inr (slot_ne (Or.inl (wd hw 66 rfl)) (Or.inl (wd hw 63 rfl)) (by decide) (t := (.array (.object "java/lang/Object"))) (t' := .int) (by decide) (by decide)))
  obtain ⟨T4, X4, e4, st4⟩ := getF X2 hx hZ hown (host := "") (Or.inl (wd hw 65 rfl)) Via.refl e2 f3 (g := (mkF m 13 #[rv a, rv el] [(.ref a), (.ref el), (.ref a)])) rfl rfl (hb hby d12_13)
  refine own_st (T' := T4) (g' := (mkF m 16 #[rv a, rv el] [(.ref t), (.ref el), (.ref a)])) st4 ?_
  clear st4
  refine own_st (T' := T4) (g' := (mkF m 17 #[rv a, rv el] [(.ref a), (.ref t), (.ref el), (.ref a)])) (fun _ k_ => XS.aloadN X4.here hx rfl (hb hby d12_16) rfl rfl  k_) ?_
  have f5 := P2.other W2 (Or.inr (slot_ne (Or.inl (wd hw 75 rfl)) (Or.inl (wd hw 63 rfl)) (by decide) (t := .int) (t' := .int) (by decide) (by decide)))
  obtain ⟨T6, X6, e6, st6⟩ := getF X4 hx hZ hown (host := "") (Or.inl (wd hw 74 rfl)) Via.refl e4 f5 (g := (mkF m 17 #[rv a, rv el] [(.ref a), (.ref t), (.ref el), (.ref a)])) rfl rfl (hb hby d12_17)
  refine own_st (T' := T6) (g' := (mkF m 20 #[rv a, rv el] [(.int (1 : Int32)), (.ref t), (.ref el), (.ref a)])) st6 ?_
  clear st6
  have f7 := P0.wr W2
  have ne8 : a ≠ t := own_neA P0 (wd hw 44 rfl) P4
  have f9 := P4.other W2 (Ne.symm ne8)
  have f10 := Ins.wr W2 I_el
  have f11 := O0.wr W2 fa
  obtain ⟨cq12, q12, q12'⟩ := f7.cell
  obtain ⟨_, T12, L12, X12, hQ12, st12⟩ := own_callP X6 hx (y := own_m12) hown (mvT hZ (wd hw 76 rfl)) (mvT hZ (wd hw 77 rfl)) (mvT hZ (wd hw 79 rfl)) (Cond.privateMethod_at (mvP hZ (wd hw 78 rfl) (args := #[]))) (mvT hZ (wd hw 80 rfl)) (by decide) (backOf (W := 0) (rm_ad3_1 l Z a0 hw [] a el t (mc + (1 : Int32)) kO v0 h2 n0 f11 f7 f3 f5 Fw2 f9 fa ft OV FC f10) hZ (wd hw 80 rfl) (wd hw 45 rfl) (by decide) (by decide)) (g := (mkF m 20 #[rv a, rv el] [(.int (1 : Int32)), (.ref t), (.ref el), (.ref a)])) rfl (by rw [hml]; rfl) (a := a) (by rw [e6]; exact q12) q12' (argsL := [(.ref el), (.ref t), (.int (1 : Int32))]) (rest := []) (lenOf pd__Ljava_lang_Object__Ljava_lang_Object_I_V rfl) rfl (by show 2 * 0 + _ ≤ _; exact Nat.le_of_eq rfl) (hb hby d12_20) rfl e6 (by decide) (by decide) (c' := 0) (s' := 0) rfl rfl
  obtain ⟨rfl, Nq12, K12, fq12_0, fq12_1, fq12_2, fq12_3, fq12_4⟩ := hQ12
  have N12 := Fr.app N2 Nq12
  refine own_st (T' := T12) (g' := (mkF m 23 #[rv a, rv el] [])) st12 ?_
  clear st12
  refine own_st (T' := T12) (g' := (mkF m 24 #[rv a, rv el] [(.int (1 : Int32))])) (fun _ k_ => XS.iconst X12.here hx rfl (hb hby d12_23) k_) ?_
  have f13 := (Keep.refl h0 [a, t]).wr W2 (Or.inl (List.mem_of_getElem? (i := 0) rfl))
  have f14 := f13.trans K12 (allS (Or.inl (List.mem_of_getElem? (i := 0) rfl)) (allS (Or.inl (List.mem_of_getElem? (i := 1) rfl)) all0))
  exact own_retN X12 hx (t := .boolean) hret (by simp) hlk (hb hby d12_24) (by decide) (by decide) ⟨rfl, N12, f14, fq12_0, fq12_1, fq12_2, fq12_3, fq12_4⟩
theorem ef_ad3_2 (m : MethodId) (x0 : Addr) (x1 : Addr) (x2 : Addr) (x3 : Int32) : entryFrame m #[(.ref x0), (.ref x1), (.ref x2), (.int x3)] 4 = mkF m 0 #[rv x0, rv x1, rv x2, iv x3] [] := by first | (simp [entryFrame, mkF, argsToLocals, Value.category]; done) | rfl
def Q_ad3_2 (Z : State) (a : Addr) (el : Addr) (t : Addr) (mc : Int32) (kO : ClassId) (v0 : Value) (v1 : Value) (h0 : Heap) (n0 : Nat) (v : Option Value) (h : Heap) (L : List Loc) : Prop := (v = none) ∧ (Fr n0 L) ∧ (Keep h0 h [a, t]) ∧ (Exa Z h a "java/util/ArrayList") ∧ (Fld Z h a "java/util/ArrayList" "elementData" "[Ljava/lang/Object;" (.ref t)) ∧ (Fld Z h a "java/util/ArrayList" "size" "I" (.int (3 : Int32))) ∧ (Fld Z h a "java/util/AbstractList" "modCount" "I" (.int mc)) ∧ (Arv Z h t kO (.object "java/lang/Object") (10 : Int32) [v0, v1, (.ref el), .null, .null, .null, .null, .null, .null, .null] .null)
set_option maxRecDepth 65536 in
set_option maxHeartbeats 40000000 in
theorem rm_ad3_2 (l : Launch) (Z : State) (a0 : Array Value) (hw : ∀ d ∈ tables_1, d.before a0 Z = true) (ws : List Jvm.Cond) (a : Addr) (el : Addr) (t : Addr) (mc : Int32) (kO : ClassId) (v0 : Value) (v1 : Value) (h0 : Heap) (n0 : Nat) (O0 : Old Z n0 h0) (P0 : Exa Z h0 a "java/util/ArrayList") (P1 : Fld Z h0 a "java/util/ArrayList" "elementData" "[Ljava/lang/Object;" (.ref t)) (P2 : Fld Z h0 a "java/util/ArrayList" "size" "I" (.int (2 : Int32))) (P3 : Fld Z h0 a "java/util/AbstractList" "modCount" "I" (.int mc)) (P4 : Arv Z h0 t kO (.object "java/lang/Object") (10 : Int32) [v0, v1, .null, .null, .null, .null, .null, .null, .null, .null] .null) (fa : n0 ≤ a) (ft : n0 ≤ t) (OV : Ovr Z kO "java/lang/Object") (FC : Z.vm.findClass "[Ljava/lang/Object;" = some kO) (I_el : Ins Z h0 el "java/lang/Object" true) :
    own_MF l own_m12 (Jvm.Cond.code own_m12 jdk_38_method_24_code 4 none :: ws) ({ frames := 0, cells := 0, slots := 0, locals := 0 } : Room) #[(.ref a), (.ref el), (.ref t), (.int (2 : Int32))] Z h0 (Q_ad3_2 Z a el t mc kO v0 v1 h0 n0) := by
  refine own_met (own := "java/util/ArrayList") (nme := "add") rfl rfl (plainFor_of_name pn_5) ?_
  intro p e s m below meth c s₁ hx hby hml hown hnm X0 e0 hret hlk hZ
  have N0 := Fr.nil n0
  rw [ef_ad3_2 m a el t (2 : Int32)]
  refine own_st (T' := s₁) (g' := (mkF m 1 #[rv a, rv el, rv t, iv (2 : Int32)] [(.int (2 : Int32))])) (fun _ k_ => XS.iloadN X0.here hx rfl (hb hby d13_0) rfl  k_) ?_
  refine own_st (T' := s₁) (g' := (mkF m 2 #[rv a, rv el, rv t, iv (2 : Int32)] [(.ref t), (.int (2 : Int32))])) (fun _ k_ => XS.aloadN X0.here hx rfl (hb hby d13_1) rfl rfl  k_) ?_
  obtain ⟨cl1, Ar1, -, S1, N1, -, -⟩ := id P4
  refine own_st (T' := s₁) (g' := (mkF m 3 #[rv a, rv el, rv t, iv (2 : Int32)] [(.int (10 : Int32)), (.int (2 : Int32))])) (fun t_ k_ => X0.arraylength hx (by rw [e0]; exact Ar1.1) (State.isArrayOf_alike hZ.alike Ar1.2.1) (g := (mkF m 2 #[rv a, rv el, rv t, iv (2 : Int32)] [(.ref t), (.int (2 : Int32))])) rfl rfl (hb hby d13_2) _ (by rw [len_of S1 N1]; exact k_)) ?_
  refine own_st (T' := s₁) (g' := (mkF m 11 #[rv a, rv el, rv t, iv (2 : Int32)] [])) (fun _ k_ => XS.icmpYes X0.here hx rfl (pc0 := 3) (pc' := 11) rfl (hb hby d13_3) rfl (feq (by decide : ¬ ((2 : Int32) = (10 : Int32)))).2 (by decide) (by decide) k_) ?_
  refine own_st (T' := s₁) (g' := (mkF m 12 #[rv a, rv el, rv t, iv (2 : Int32)] [(.ref t)])) (fun _ k_ => XS.aloadN X0.here hx rfl (hb hby d13_11) rfl rfl  k_) ?_
  refine own_st (T' := s₁) (g' := (mkF m 13 #[rv a, rv el, rv t, iv (2 : Int32)] [(.int (2 : Int32)), (.ref t)])) (fun _ k_ => XS.iloadN X0.here hx rfl (hb hby d13_12) rfl  k_) ?_
  refine own_st (T' := s₁) (g' := (mkF m 14 #[rv a, rv el, rv t, iv (2 : Int32)] [(.ref el), (.int (2 : Int32)), (.ref t)])) (fun _ k_ => XS.aloadN X0.here hx rfl (hb hby d13_13) rfl rfl  k_) ?_
  obtain ⟨cl2, Ar2, q2, S2, N2, H2, G2⟩ := id P4
  have hin2 : ¬ ((2 : Int32) < 0 ∨ cl2.slots.size ≤ ((2 : Int32)).toNatClampNeg) := inb_of S2 ⟨by decide, by decide⟩
  obtain ⟨T3, h3, X3, e3, W3, st3⟩ := stR X0 hx hZ e0 Ar2 (j := (2 : Int32)) hin2 rfl (Sto.of Ar2 (q2 ▸ OV) I_el) (g := (mkF m 14 #[rv a, rv el, rv t, iv (2 : Int32)] [(.ref el), (.int (2 : Int32)), (.ref t)])) rfl rfl (hb hby d13_14)
  have V3 : Arv Z h3 t kO (.object "java/lang/Object") (10 : Int32) [v0, v1, (.ref el), .null, .null, .null, .null, .null, .null, .null] .null := Arv.set Ar2 q2 S2 N2 H2 G2 rfl W3 2 rfl (Nat.le_of_ble_eq_true rfl)
  have Nx3 := Fr.snoc X3 N0 ft
  refine own_st (T' := T3) (g' := (mkF m 15 #[rv a, rv el, rv t, iv (2 : Int32)] [])) st3 ?_
  clear hin2 G2 H2 N2 S2 q2 Ar2 cl2 st3
  refine own_st (T' := T3) (g' := (mkF m 16 #[rv a, rv el, rv t, iv (2 : Int32)] [(.ref a)])) (fun _ k_ => XS.aloadN X3.here hx rfl (hb hby d13_15) rfl rfl  k_) ?_
  refine own_st (T' := T3) (g' := (mkF m 17 #[rv a, rv el, rv t, iv (2 : Int32)] [(.int (2 : Int32)), (.ref a)])) (fun _ k_ => XS.iloadN X3.here hx rfl (hb hby d13_16) rfl  k_) ?_
  refine own_st (T' := T3) (g' := (mkF m 18 #[rv a, rv el, rv t, iv (2 : Int32)] [(.int (1 : Int32)), (.int (2 : Int32)), (.ref a)])) (fun _ k_ => XS.iconst X3.here hx rfl (hb hby d13_17) k_) ?_
  refine own_st (T' := T3) (g' := (mkF m 19 #[rv a, rv el, rv t, iv (2 : Int32)] [(.int (3 : Int32)), (.ref a)])) (fun _ k_ => XS.iadd X3.here hx rfl (hb hby d13_18) rfl k_) ?_
  have f4 := P0.wr W3
  have xe5 : Exa Z h3 a "java/util/ArrayList" := P0.wr W3
  have ne6 : a ≠ t := own_neA xe5 (wd hw 44 rfl) V3
  have f7 := P2.other W3 (Or.inl ne6)
  obtain ⟨T8, h8, X8, e8, W8, st8⟩ := putF X3 hx hZ hown (host := "") (Or.inl (wd hw 74 rfl)) Via.refl e3 f7 f4 (Or.inl (wd hw 75 rfl)) (wd hw 44 rfl) (ty := .int) (by decide) rfl rfl (g := (mkF m 19 #[rv a, rv el, rv t, iv (2 : Int32)] [(.int (3 : Int32)), (.ref a)])) rfl rfl (hb hby d13_19)
  have Fw8 : Fld Z h8 a "java/util/ArrayList" "size" "I" (.int (3 : Int32)) := Fld.same W8 f7
  have N8 := Fr.snoc X8 Nx3 fa
  refine own_st (T' := T8) (g' := (mkF m 22 #[rv a, rv el, rv t, iv (2 : Int32)] [])) st8 ?_
  clear st8
  have f9 := (Keep.refl h0 [a, t]).wr W3 (Or.inl (List.mem_of_getElem? (i := 1) rfl))
  have f10 := f9.wr W8 (Or.inl (List.mem_of_getElem? (i := 0) rfl))
  have f11 := f4.wr W8
  have f12 := P1.other W3 (Or.inl ne6)
  have f13 := f12.other W8 (Or.inr (slot_ne (Or.inl (wd hw 66 rfl)) (Or.inl (wd hw 75 rfl)) (by decide) (t := (.array (.object "java/lang/Object"))) (t' := .int) (by decide) (by decide)))
  have f14 := P3.other W3 (Or.inl ne6)
  have f15 := f14.other W8 (Or.inr (slot_ne (Or.inl (wd hw 63 rfl)) (Or.inl (wd hw 75 rfl)) (by decide) (t := .int) (t' := .int) (by decide) (by decide)))
  have f16 := V3.other W8 (Ne.symm ne6)
  exact own_retV X8 hx hret hlk (hb hby d13_22) (by decide) (by decide) (by rw [e8]; exact ⟨rfl, N8, f10, f11, f13, Fw8, f15, f16⟩)
theorem ef_add_2 (m : MethodId) (x0 : Addr) (x1 : Addr) : entryFrame m #[(.ref x0), (.ref x1)] 2 = mkF m 0 #[rv x0, rv x1] [] := by first | (simp [entryFrame, mkF, argsToLocals, Value.category]; done) | rfl
def Q_add_2 (Z : State) (a : Addr) (el : Addr) (t : Addr) (mc : Int32) (kO : ClassId) (v0 : Value) (v1 : Value) (h0 : Heap) (n0 : Nat) (v : Option Value) (h : Heap) (L : List Loc) : Prop := (v = some (.int (1 : Int32))) ∧ (Fr n0 L) ∧ (Keep h0 h [a, t]) ∧ (Exa Z h a "java/util/ArrayList") ∧ (Fld Z h a "java/util/ArrayList" "elementData" "[Ljava/lang/Object;" (.ref t)) ∧ (Fld Z h a "java/util/ArrayList" "size" "I" (.int (3 : Int32))) ∧ (Fld Z h a "java/util/AbstractList" "modCount" "I" (.int (mc + (1 : Int32)))) ∧ (Arv Z h t kO (.object "java/lang/Object") (10 : Int32) [v0, v1, (.ref el), .null, .null, .null, .null, .null, .null, .null] .null)
set_option maxRecDepth 65536 in
set_option maxHeartbeats 40000000 in
theorem rm_add_2 (l : Launch) (Z : State) (a0 : Array Value) (hw : ∀ d ∈ tables_1, d.before a0 Z = true) (ws : List Jvm.Cond) (a : Addr) (el : Addr) (t : Addr) (mc : Int32) (kO : ClassId) (v0 : Value) (v1 : Value) (h0 : Heap) (n0 : Nat) (O0 : Old Z n0 h0) (P0 : Exa Z h0 a "java/util/ArrayList") (P1 : Fld Z h0 a "java/util/ArrayList" "elementData" "[Ljava/lang/Object;" (.ref t)) (P2 : Fld Z h0 a "java/util/ArrayList" "size" "I" (.int (2 : Int32))) (P3 : Fld Z h0 a "java/util/AbstractList" "modCount" "I" (.int mc)) (P4 : Arv Z h0 t kO (.object "java/lang/Object") (10 : Int32) [v0, v1, .null, .null, .null, .null, .null, .null, .null, .null] .null) (fa : n0 ≤ a) (ft : n0 ≤ t) (OV : Ovr Z kO "java/lang/Object") (FC : Z.vm.findClass "[Ljava/lang/Object;" = some kO) (I_el : Ins Z h0 el "java/lang/Object" true) :
    own_MF l own_m13 (Jvm.Cond.code own_m13 jdk_38_method_25_code 2 (some .boolean) :: ws) ({ frames := 1, cells := 0, slots := 0, locals := 15 } : Room) #[(.ref a), (.ref el)] Z h0 (Q_add_2 Z a el t mc kO v0 v1 h0 n0) := by
  refine own_met (own := "java/util/ArrayList") (nme := "add") rfl rfl (plainFor_of_name pn_5) ?_
  intro p e s m below meth c s₁ hx hby hml hown hnm X0 e0 hret hlk hZ
  have N0 := Fr.nil n0
  rw [ef_add_2 m a el]
  refine own_st (T' := s₁) (g' := (mkF m 1 #[rv a, rv el] [(.ref a)])) (fun _ k_ => XS.aloadN X0.here hx rfl (hb hby d12_0) rfl rfl  k_) ?_
  refine own_st (T' := s₁) (g' := (mkF m 2 #[rv a, rv el] [(.ref a), (.ref a)])) (fun _ k_ => XS.dup X0.here hx rfl (hb hby d12_1) rfl rfl k_) ?_
  obtain ⟨T1, X1, e1, st1⟩ := getF X0 hx hZ hown (host := "") (Or.inl (wd hw 72 rfl)) (Via.of (wd hw 73 rfl)) e0 P3 (g := (mkF m 2 #[rv a, rv el] [(.ref a), (.ref a)])) rfl rfl (hb hby d12_2)
  refine own_st (T' := T1) (g' := (mkF m 5 #[rv a, rv el] [(.int mc), (.ref a)])) st1 ?_
  clear st1
  refine own_st (T' := T1) (g' := (mkF m 6 #[rv a, rv el] [(.int (1 : Int32)), (.int mc), (.ref a)])) (fun _ k_ => XS.iconst X1.here hx rfl (hb hby d12_5) k_) ?_
  refine own_st (T' := T1) (g' := (mkF m 7 #[rv a, rv el] [(.int (mc + (1 : Int32))), (.ref a)])) (fun _ k_ => XS.iadd X1.here hx rfl (hb hby d12_6) rfl k_) ?_
  obtain ⟨T2, h2, X2, e2, W2, st2⟩ := putF X1 hx hZ hown (host := "") (Or.inl (wd hw 72 rfl)) (Via.of (wd hw 73 rfl)) e1 P3 P0 (Or.inl (wd hw 63 rfl)) (wd hw 44 rfl) (ty := .int) (by decide) rfl rfl (g := (mkF m 7 #[rv a, rv el] [(.int (mc + (1 : Int32))), (.ref a)])) rfl rfl (hb hby d12_7)
  have Fw2 : Fld Z h2 a "java/util/AbstractList" "modCount" "I" (.int (mc + (1 : Int32))) := Fld.same W2 P3
  have N2 := Fr.snoc X2 N0 fa
  refine own_st (T' := T2) (g' := (mkF m 10 #[rv a, rv el] [])) st2 ?_
  clear st2
  refine own_st (T' := T2) (g' := (mkF m 11 #[rv a, rv el] [(.ref a)])) (fun _ k_ => XS.aloadN X2.here hx rfl (hb hby d12_10) rfl rfl  k_) ?_
  refine own_st (T' := T2) (g' := (mkF m 12 #[rv a, rv el] [(.ref el), (.ref a)])) (fun _ k_ => XS.aloadN X2.here hx rfl (hb hby d12_11) rfl rfl  k_) ?_
  refine own_st (T' := T2) (g' := (mkF m 13 #[rv a, rv el] [(.ref a), (.ref el), (.ref a)])) (fun _ k_ => XS.aloadN X2.here hx rfl (hb hby d12_12) rfl rfl  k_) ?_
  have f3 := P1.other W2 (Or.inr (slot_ne (Or.inl (wd hw 66 rfl)) (Or.inl (wd hw 63 rfl)) (by decide) (t := (.array (.object "java/lang/Object"))) (t' := .int) (by decide) (by decide)))
  obtain ⟨T4, X4, e4, st4⟩ := getF X2 hx hZ hown (host := "") (Or.inl (wd hw 65 rfl)) Via.refl e2 f3 (g := (mkF m 13 #[rv a, rv el] [(.ref a), (.ref el), (.ref a)])) rfl rfl (hb hby d12_13)
  refine own_st (T' := T4) (g' := (mkF m 16 #[rv a, rv el] [(.ref t), (.ref el), (.ref a)])) st4 ?_
  clear st4
  refine own_st (T' := T4) (g' := (mkF m 17 #[rv a, rv el] [(.ref a), (.ref t), (.ref el), (.ref a)])) (fun _ k_ => XS.aloadN X4.here hx rfl (hb hby d12_16) rfl rfl  k_) ?_
  have f5 := P2.other W2 (Or.inr (slot_ne (Or.inl (wd hw 75 rfl)) (Or.inl (wd hw 63 rfl)) (by decide) (t := .int) (t' := .int) (by decide) (by decide)))
  obtain ⟨T6, X6, e6, st6⟩ := getF X4 hx hZ hown (host := "") (Or.inl (wd hw 74 rfl)) Via.refl e4 f5 (g := (mkF m 17 #[rv a, rv el] [(.ref a), (.ref t), (.ref el), (.ref a)])) rfl rfl (hb hby d12_17)
  refine own_st (T' := T6) (g' := (mkF m 20 #[rv a, rv el] [(.int (2 : Int32)), (.ref t), (.ref el), (.ref a)])) st6 ?_
  clear st6
  have f7 := P0.wr W2
  have ne8 : a ≠ t := own_neA P0 (wd hw 44 rfl) P4
  have f9 := P4.other W2 (Ne.symm ne8)
  have f10 := Ins.wr W2 I_el
  have f11 := O0.wr W2 fa
  obtain ⟨cq12, q12, q12'⟩ := f7.cell
  obtain ⟨_, T12, L12, X12, hQ12, st12⟩ := own_callP X6 hx (y := own_m12) hown (mvT hZ (wd hw 76 rfl)) (mvT hZ (wd hw 77 rfl)) (mvT hZ (wd hw 79 rfl)) (Cond.privateMethod_at (mvP hZ (wd hw 78 rfl) (args := #[]))) (mvT hZ (wd hw 80 rfl)) (by decide) (backOf (W := 0) (rm_ad3_2 l Z a0 hw [] a el t (mc + (1 : Int32)) kO v0 v1 h2 n0 f11 f7 f3 f5 Fw2 f9 fa ft OV FC f10) hZ (wd hw 80 rfl) (wd hw 45 rfl) (by decide) (by decide)) (g := (mkF m 20 #[rv a, rv el] [(.int (2 : Int32)), (.ref t), (.ref el), (.ref a)])) rfl (by rw [hml]; rfl) (a := a) (by rw [e6]; exact q12) q12' (argsL := [(.ref el), (.ref t), (.int (2 : Int32))]) (rest := []) (lenOf pd__Ljava_lang_Object__Ljava_lang_Object_I_V rfl) rfl (by show 2 * 0 + _ ≤ _; exact Nat.le_of_eq rfl) (hb hby d12_20) rfl e6 (by decide) (by decide) (c' := 0) (s' := 0) rfl rfl
  obtain ⟨rfl, Nq12, K12, fq12_0, fq12_1, fq12_2, fq12_3, fq12_4⟩ := hQ12
  have N12 := Fr.app N2 Nq12
  refine own_st (T' := T12) (g' := (mkF m 23 #[rv a, rv el] [])) st12 ?_
  clear st12
  refine own_st (T' := T12) (g' := (mkF m 24 #[rv a, rv el] [(.int (1 : Int32))])) (fun _ k_ => XS.iconst X12.here hx rfl (hb hby d12_23) k_) ?_
  have f13 := (Keep.refl h0 [a, t]).wr W2 (Or.inl (List.mem_of_getElem? (i := 0) rfl))
  have f14 := f13.trans K12 (allS (Or.inl (List.mem_of_getElem? (i := 0) rfl)) (allS (Or.inl (List.mem_of_getElem? (i := 1) rfl)) all0))
  exact own_retN X12 hx (t := .boolean) hret (by simp) hlk (hb hby d12_24) (by decide) (by decide) ⟨rfl, N12, f14, fq12_0, fq12_1, fq12_2, fq12_3, fq12_4⟩
theorem ef_ad3_3 (m : MethodId) (x0 : Addr) (x1 : Addr) (x2 : Addr) (x3 : Int32) : entryFrame m #[(.ref x0), (.ref x1), (.ref x2), (.int x3)] 4 = mkF m 0 #[rv x0, rv x1, rv x2, iv x3] [] := by first | (simp [entryFrame, mkF, argsToLocals, Value.category]; done) | rfl
def Q_ad3_3 (Z : State) (a : Addr) (el : Addr) (t : Addr) (mc : Int32) (kO : ClassId) (v0 : Value) (v1 : Value) (v2 : Value) (h0 : Heap) (n0 : Nat) (v : Option Value) (h : Heap) (L : List Loc) : Prop := (v = none) ∧ (Fr n0 L) ∧ (Keep h0 h [a, t]) ∧ (Exa Z h a "java/util/ArrayList") ∧ (Fld Z h a "java/util/ArrayList" "elementData" "[Ljava/lang/Object;" (.ref t)) ∧ (Fld Z h a "java/util/ArrayList" "size" "I" (.int (4 : Int32))) ∧ (Fld Z h a "java/util/AbstractList" "modCount" "I" (.int mc)) ∧ (Arv Z h t kO (.object "java/lang/Object") (10 : Int32) [v0, v1, v2, (.ref el), .null, .null, .null, .null, .null, .null] .null)
set_option maxRecDepth 65536 in
set_option maxHeartbeats 40000000 in
theorem rm_ad3_3 (l : Launch) (Z : State) (a0 : Array Value) (hw : ∀ d ∈ tables_1, d.before a0 Z = true) (ws : List Jvm.Cond) (a : Addr) (el : Addr) (t : Addr) (mc : Int32) (kO : ClassId) (v0 : Value) (v1 : Value) (v2 : Value) (h0 : Heap) (n0 : Nat) (O0 : Old Z n0 h0) (P0 : Exa Z h0 a "java/util/ArrayList") (P1 : Fld Z h0 a "java/util/ArrayList" "elementData" "[Ljava/lang/Object;" (.ref t)) (P2 : Fld Z h0 a "java/util/ArrayList" "size" "I" (.int (3 : Int32))) (P3 : Fld Z h0 a "java/util/AbstractList" "modCount" "I" (.int mc)) (P4 : Arv Z h0 t kO (.object "java/lang/Object") (10 : Int32) [v0, v1, v2, .null, .null, .null, .null, .null, .null, .null] .null) (fa : n0 ≤ a) (ft : n0 ≤ t) (OV : Ovr Z kO "java/lang/Object") (FC : Z.vm.findClass "[Ljava/lang/Object;" = some kO) (I_el : Ins Z h0 el "java/lang/Object" true) :
    own_MF l own_m12 (Jvm.Cond.code own_m12 jdk_38_method_24_code 4 none :: ws) ({ frames := 0, cells := 0, slots := 0, locals := 0 } : Room) #[(.ref a), (.ref el), (.ref t), (.int (3 : Int32))] Z h0 (Q_ad3_3 Z a el t mc kO v0 v1 v2 h0 n0) := by
  refine own_met (own := "java/util/ArrayList") (nme := "add") rfl rfl (plainFor_of_name pn_5) ?_
  intro p e s m below meth c s₁ hx hby hml hown hnm X0 e0 hret hlk hZ
  have N0 := Fr.nil n0
  rw [ef_ad3_3 m a el t (3 : Int32)]
  refine own_st (T' := s₁) (g' := (mkF m 1 #[rv a, rv el, rv t, iv (3 : Int32)] [(.int (3 : Int32))])) (fun _ k_ => XS.iloadN X0.here hx rfl (hb hby d13_0) rfl  k_) ?_
  refine own_st (T' := s₁) (g' := (mkF m 2 #[rv a, rv el, rv t, iv (3 : Int32)] [(.ref t), (.int (3 : Int32))])) (fun _ k_ => XS.aloadN X0.here hx rfl (hb hby d13_1) rfl rfl  k_) ?_
  obtain ⟨cl1, Ar1, -, S1, N1, -, -⟩ := id P4
  refine own_st (T' := s₁) (g' := (mkF m 3 #[rv a, rv el, rv t, iv (3 : Int32)] [(.int (10 : Int32)), (.int (3 : Int32))])) (fun t_ k_ => X0.arraylength hx (by rw [e0]; exact Ar1.1) (State.isArrayOf_alike hZ.alike Ar1.2.1) (g := (mkF m 2 #[rv a, rv el, rv t, iv (3 : Int32)] [(.ref t), (.int (3 : Int32))])) rfl rfl (hb hby d13_2) _ (by rw [len_of S1 N1]; exact k_)) ?_
  refine own_st (T' := s₁) (g' := (mkF m 11 #[rv a, rv el, rv t, iv (3 : Int32)] [])) (fun _ k_ => XS.icmpYes X0.here hx rfl (pc0 := 3) (pc' := 11) rfl (hb hby d13_3) rfl (feq (by decide : ¬ ((3 : Int32) = (10 : Int32)))).2 (by decide) (by decide) k_) ?_
  refine own_st (T' := s₁) (g' := (mkF m 12 #[rv a, rv el, rv t, iv (3 : Int32)] [(.ref t)])) (fun _ k_ => XS.aloadN X0.here hx rfl (hb hby d13_11) rfl rfl  k_) ?_
  refine own_st (T' := s₁) (g' := (mkF m 13 #[rv a, rv el, rv t, iv (3 : Int32)] [(.int (3 : Int32)), (.ref t)])) (fun _ k_ => XS.iloadN X0.here hx rfl (hb hby d13_12) rfl  k_) ?_
  refine own_st (T' := s₁) (g' := (mkF m 14 #[rv a, rv el, rv t, iv (3 : Int32)] [(.ref el), (.int (3 : Int32)), (.ref t)])) (fun _ k_ => XS.aloadN X0.here hx rfl (hb hby d13_13) rfl rfl  k_) ?_
  obtain ⟨cl2, Ar2, q2, S2, N2, H2, G2⟩ := id P4
  have hin2 : ¬ ((3 : Int32) < 0 ∨ cl2.slots.size ≤ ((3 : Int32)).toNatClampNeg) := inb_of S2 ⟨by decide, by decide⟩
  obtain ⟨T3, h3, X3, e3, W3, st3⟩ := stR X0 hx hZ e0 Ar2 (j := (3 : Int32)) hin2 rfl (Sto.of Ar2 (q2 ▸ OV) I_el) (g := (mkF m 14 #[rv a, rv el, rv t, iv (3 : Int32)] [(.ref el), (.int (3 : Int32)), (.ref t)])) rfl rfl (hb hby d13_14)
  have V3 : Arv Z h3 t kO (.object "java/lang/Object") (10 : Int32) [v0, v1, v2, (.ref el), .null, .null, .null, .null, .null, .null] .null := Arv.set Ar2 q2 S2 N2 H2 G2 rfl W3 3 rfl (Nat.le_of_ble_eq_true rfl)
  have Nx3 := Fr.snoc X3 N0 ft
  refine own_st (T' := T3) (g' := (mkF m 15 #[rv a, rv el, rv t, iv (3 : Int32)] [])) st3 ?_
  clear hin2 G2 H2 N2 S2 q2 Ar2 cl2 st3
  refine own_st (T' := T3) (g' := (mkF m 16 #[rv a, rv el, rv t, iv (3 : Int32)] [(.ref a)])) (fun _ k_ => XS.aloadN X3.here hx rfl (hb hby d13_15) rfl rfl  k_) ?_
  refine own_st (T' := T3) (g' := (mkF m 17 #[rv a, rv el, rv t, iv (3 : Int32)] [(.int (3 : Int32)), (.ref a)])) (fun _ k_ => XS.iloadN X3.here hx rfl (hb hby d13_16) rfl  k_) ?_
  refine own_st (T' := T3) (g' := (mkF m 18 #[rv a, rv el, rv t, iv (3 : Int32)] [(.int (1 : Int32)), (.int (3 : Int32)), (.ref a)])) (fun _ k_ => XS.iconst X3.here hx rfl (hb hby d13_17) k_) ?_
  refine own_st (T' := T3) (g' := (mkF m 19 #[rv a, rv el, rv t, iv (3 : Int32)] [(.int (4 : Int32)), (.ref a)])) (fun _ k_ => XS.iadd X3.here hx rfl (hb hby d13_18) rfl k_) ?_
  have f4 := P0.wr W3
  have xe5 : Exa Z h3 a "java/util/ArrayList" := P0.wr W3
  have ne6 : a ≠ t := own_neA xe5 (wd hw 44 rfl) V3
  have f7 := P2.other W3 (Or.inl ne6)
  obtain ⟨T8, h8, X8, e8, W8, st8⟩ := putF X3 hx hZ hown (host := "") (Or.inl (wd hw 74 rfl)) Via.refl e3 f7 f4 (Or.inl (wd hw 75 rfl)) (wd hw 44 rfl) (ty := .int) (by decide) rfl rfl (g := (mkF m 19 #[rv a, rv el, rv t, iv (3 : Int32)] [(.int (4 : Int32)), (.ref a)])) rfl rfl (hb hby d13_19)
  have Fw8 : Fld Z h8 a "java/util/ArrayList" "size" "I" (.int (4 : Int32)) := Fld.same W8 f7
  have N8 := Fr.snoc X8 Nx3 fa
  refine own_st (T' := T8) (g' := (mkF m 22 #[rv a, rv el, rv t, iv (3 : Int32)] [])) st8 ?_
  clear st8
  have f9 := (Keep.refl h0 [a, t]).wr W3 (Or.inl (List.mem_of_getElem? (i := 1) rfl))
  have f10 := f9.wr W8 (Or.inl (List.mem_of_getElem? (i := 0) rfl))
  have f11 := f4.wr W8
  have f12 := P1.other W3 (Or.inl ne6)
  have f13 := f12.other W8 (Or.inr (slot_ne (Or.inl (wd hw 66 rfl)) (Or.inl (wd hw 75 rfl)) (by decide) (t := (.array (.object "java/lang/Object"))) (t' := .int) (by decide) (by decide)))
  have f14 := P3.other W3 (Or.inl ne6)
  have f15 := f14.other W8 (Or.inr (slot_ne (Or.inl (wd hw 63 rfl)) (Or.inl (wd hw 75 rfl)) (by decide) (t := .int) (t' := .int) (by decide) (by decide)))
  have f16 := V3.other W8 (Ne.symm ne6)
  exact own_retV X8 hx hret hlk (hb hby d13_22) (by decide) (by decide) (by rw [e8]; exact ⟨rfl, N8, f10, f11, f13, Fw8, f15, f16⟩)
theorem ef_add_3 (m : MethodId) (x0 : Addr) (x1 : Addr) : entryFrame m #[(.ref x0), (.ref x1)] 2 = mkF m 0 #[rv x0, rv x1] [] := by first | (simp [entryFrame, mkF, argsToLocals, Value.category]; done) | rfl
def Q_add_3 (Z : State) (a : Addr) (el : Addr) (t : Addr) (mc : Int32) (kO : ClassId) (v0 : Value) (v1 : Value) (v2 : Value) (h0 : Heap) (n0 : Nat) (v : Option Value) (h : Heap) (L : List Loc) : Prop := (v = some (.int (1 : Int32))) ∧ (Fr n0 L) ∧ (Keep h0 h [a, t]) ∧ (Exa Z h a "java/util/ArrayList") ∧ (Fld Z h a "java/util/ArrayList" "elementData" "[Ljava/lang/Object;" (.ref t)) ∧ (Fld Z h a "java/util/ArrayList" "size" "I" (.int (4 : Int32))) ∧ (Fld Z h a "java/util/AbstractList" "modCount" "I" (.int (mc + (1 : Int32)))) ∧ (Arv Z h t kO (.object "java/lang/Object") (10 : Int32) [v0, v1, v2, (.ref el), .null, .null, .null, .null, .null, .null] .null)
set_option maxRecDepth 65536 in
set_option maxHeartbeats 40000000 in
theorem rm_add_3 (l : Launch) (Z : State) (a0 : Array Value) (hw : ∀ d ∈ tables_1, d.before a0 Z = true) (ws : List Jvm.Cond) (a : Addr) (el : Addr) (t : Addr) (mc : Int32) (kO : ClassId) (v0 : Value) (v1 : Value) (v2 : Value) (h0 : Heap) (n0 : Nat) (O0 : Old Z n0 h0) (P0 : Exa Z h0 a "java/util/ArrayList") (P1 : Fld Z h0 a "java/util/ArrayList" "elementData" "[Ljava/lang/Object;" (.ref t)) (P2 : Fld Z h0 a "java/util/ArrayList" "size" "I" (.int (3 : Int32))) (P3 : Fld Z h0 a "java/util/AbstractList" "modCount" "I" (.int mc)) (P4 : Arv Z h0 t kO (.object "java/lang/Object") (10 : Int32) [v0, v1, v2, .null, .null, .null, .null, .null, .null, .null] .null) (fa : n0 ≤ a) (ft : n0 ≤ t) (OV : Ovr Z kO "java/lang/Object") (FC : Z.vm.findClass "[Ljava/lang/Object;" = some kO) (I_el : Ins Z h0 el "java/lang/Object" true) :
    own_MF l own_m13 (Jvm.Cond.code own_m13 jdk_38_method_25_code 2 (some .boolean) :: ws) ({ frames := 1, cells := 0, slots := 0, locals := 15 } : Room) #[(.ref a), (.ref el)] Z h0 (Q_add_3 Z a el t mc kO v0 v1 v2 h0 n0) := by
  refine own_met (own := "java/util/ArrayList") (nme := "add") rfl rfl (plainFor_of_name pn_5) ?_
  intro p e s m below meth c s₁ hx hby hml hown hnm X0 e0 hret hlk hZ
  have N0 := Fr.nil n0
  rw [ef_add_3 m a el]
  refine own_st (T' := s₁) (g' := (mkF m 1 #[rv a, rv el] [(.ref a)])) (fun _ k_ => XS.aloadN X0.here hx rfl (hb hby d12_0) rfl rfl  k_) ?_
  refine own_st (T' := s₁) (g' := (mkF m 2 #[rv a, rv el] [(.ref a), (.ref a)])) (fun _ k_ => XS.dup X0.here hx rfl (hb hby d12_1) rfl rfl k_) ?_
  obtain ⟨T1, X1, e1, st1⟩ := getF X0 hx hZ hown (host := "") (Or.inl (wd hw 72 rfl)) (Via.of (wd hw 73 rfl)) e0 P3 (g := (mkF m 2 #[rv a, rv el] [(.ref a), (.ref a)])) rfl rfl (hb hby d12_2)
  refine own_st (T' := T1) (g' := (mkF m 5 #[rv a, rv el] [(.int mc), (.ref a)])) st1 ?_
  clear st1
  refine own_st (T' := T1) (g' := (mkF m 6 #[rv a, rv el] [(.int (1 : Int32)), (.int mc), (.ref a)])) (fun _ k_ => XS.iconst X1.here hx rfl (hb hby d12_5) k_) ?_
  refine own_st (T' := T1) (g' := (mkF m 7 #[rv a, rv el] [(.int (mc + (1 : Int32))), (.ref a)])) (fun _ k_ => XS.iadd X1.here hx rfl (hb hby d12_6) rfl k_) ?_
  obtain ⟨T2, h2, X2, e2, W2, st2⟩ := putF X1 hx hZ hown (host := "") (Or.inl (wd hw 72 rfl)) (Via.of (wd hw 73 rfl)) e1 P3 P0 (Or.inl (wd hw 63 rfl)) (wd hw 44 rfl) (ty := .int) (by decide) rfl rfl (g := (mkF m 7 #[rv a, rv el] [(.int (mc + (1 : Int32))), (.ref a)])) rfl rfl (hb hby d12_7)
  have Fw2 : Fld Z h2 a "java/util/AbstractList" "modCount" "I" (.int (mc + (1 : Int32))) := Fld.same W2 P3
  have N2 := Fr.snoc X2 N0 fa
  refine own_st (T' := T2) (g' := (mkF m 10 #[rv a, rv el] [])) st2 ?_
  clear st2
  refine own_st (T' := T2) (g' := (mkF m 11 #[rv a, rv el] [(.ref a)])) (fun _ k_ => XS.aloadN X2.here hx rfl (hb hby d12_10) rfl rfl  k_) ?_
  refine own_st (T' := T2) (g' := (mkF m 12 #[rv a, rv el] [(.ref el), (.ref a)])) (fun _ k_ => XS.aloadN X2.here hx rfl (hb hby d12_11) rfl rfl  k_) ?_
  refine own_st (T' := T2) (g' := (mkF m 13 #[rv a, rv el] [(.ref a), (.ref el), (.ref a)])) (fun _ k_ => XS.aloadN X2.here hx rfl (hb hby d12_12) rfl rfl  k_) ?_
  have f3 := P1.other W2 (Or.inr (slot_ne (Or.inl (wd hw 66 rfl)) (Or.inl (wd hw 63 rfl)) (by decide) (t := (.array (.object "java/lang/Object"))) (t' := .int) (by decide) (by decide)))
  obtain ⟨T4, X4, e4, st4⟩ := getF X2 hx hZ hown (host := "") (Or.inl (wd hw 65 rfl)) Via.refl e2 f3 (g := (mkF m 13 #[rv a, rv el] [(.ref a), (.ref el), (.ref a)])) rfl rfl (hb hby d12_13)
  refine own_st (T' := T4) (g' := (mkF m 16 #[rv a, rv el] [(.ref t), (.ref el), (.ref a)])) st4 ?_
  clear st4
  refine own_st (T' := T4) (g' := (mkF m 17 #[rv a, rv el] [(.ref a), (.ref t), (.ref el), (.ref a)])) (fun _ k_ => XS.aloadN X4.here hx rfl (hb hby d12_16) rfl rfl  k_) ?_
  have f5 := P2.other W2 (Or.inr (slot_ne (Or.inl (wd hw 75 rfl)) (Or.inl (wd hw 63 rfl)) (by decide) (t := .int) (t' := .int) (by decide) (by decide)))
  obtain ⟨T6, X6, e6, st6⟩ := getF X4 hx hZ hown (host := "") (Or.inl (wd hw 74 rfl)) Via.refl e4 f5 (g := (mkF m 17 #[rv a, rv el] [(.ref a), (.ref t), (.ref el), (.ref a)])) rfl rfl (hb hby d12_17)
  refine own_st (T' := T6) (g' := (mkF m 20 #[rv a, rv el] [(.int (3 : Int32)), (.ref t), (.ref el), (.ref a)])) st6 ?_
  clear st6
  have f7 := P0.wr W2
  have ne8 : a ≠ t := own_neA P0 (wd hw 44 rfl) P4
  have f9 := P4.other W2 (Ne.symm ne8)
  have f10 := Ins.wr W2 I_el
  have f11 := O0.wr W2 fa
  obtain ⟨cq12, q12, q12'⟩ := f7.cell
  obtain ⟨_, T12, L12, X12, hQ12, st12⟩ := own_callP X6 hx (y := own_m12) hown (mvT hZ (wd hw 76 rfl)) (mvT hZ (wd hw 77 rfl)) (mvT hZ (wd hw 79 rfl)) (Cond.privateMethod_at (mvP hZ (wd hw 78 rfl) (args := #[]))) (mvT hZ (wd hw 80 rfl)) (by decide) (backOf (W := 0) (rm_ad3_3 l Z a0 hw [] a el t (mc + (1 : Int32)) kO v0 v1 v2 h2 n0 f11 f7 f3 f5 Fw2 f9 fa ft OV FC f10) hZ (wd hw 80 rfl) (wd hw 45 rfl) (by decide) (by decide)) (g := (mkF m 20 #[rv a, rv el] [(.int (3 : Int32)), (.ref t), (.ref el), (.ref a)])) rfl (by rw [hml]; rfl) (a := a) (by rw [e6]; exact q12) q12' (argsL := [(.ref el), (.ref t), (.int (3 : Int32))]) (rest := []) (lenOf pd__Ljava_lang_Object__Ljava_lang_Object_I_V rfl) rfl (by show 2 * 0 + _ ≤ _; exact Nat.le_of_eq rfl) (hb hby d12_20) rfl e6 (by decide) (by decide) (c' := 0) (s' := 0) rfl rfl
  obtain ⟨rfl, Nq12, K12, fq12_0, fq12_1, fq12_2, fq12_3, fq12_4⟩ := hQ12
  have N12 := Fr.app N2 Nq12
  refine own_st (T' := T12) (g' := (mkF m 23 #[rv a, rv el] [])) st12 ?_
  clear st12
  refine own_st (T' := T12) (g' := (mkF m 24 #[rv a, rv el] [(.int (1 : Int32))])) (fun _ k_ => XS.iconst X12.here hx rfl (hb hby d12_23) k_) ?_
  have f13 := (Keep.refl h0 [a, t]).wr W2 (Or.inl (List.mem_of_getElem? (i := 0) rfl))
  have f14 := f13.trans K12 (allS (Or.inl (List.mem_of_getElem? (i := 0) rfl)) (allS (Or.inl (List.mem_of_getElem? (i := 1) rfl)) all0))
  exact own_retN X12 hx (t := .boolean) hret (by simp) hlk (hb hby d12_24) (by decide) (by decide) ⟨rfl, N12, f14, fq12_0, fq12_1, fq12_2, fq12_3, fq12_4⟩
theorem ef_ad3_4 (m : MethodId) (x0 : Addr) (x1 : Addr) (x2 : Addr) (x3 : Int32) : entryFrame m #[(.ref x0), (.ref x1), (.ref x2), (.int x3)] 4 = mkF m 0 #[rv x0, rv x1, rv x2, iv x3] [] := by first | (simp [entryFrame, mkF, argsToLocals, Value.category]; done) | rfl
def Q_ad3_4 (Z : State) (a : Addr) (el : Addr) (t : Addr) (mc : Int32) (kO : ClassId) (v0 : Value) (v1 : Value) (v2 : Value) (v3 : Value) (h0 : Heap) (n0 : Nat) (v : Option Value) (h : Heap) (L : List Loc) : Prop := (v = none) ∧ (Fr n0 L) ∧ (Keep h0 h [a, t]) ∧ (Exa Z h a "java/util/ArrayList") ∧ (Fld Z h a "java/util/ArrayList" "elementData" "[Ljava/lang/Object;" (.ref t)) ∧ (Fld Z h a "java/util/ArrayList" "size" "I" (.int (5 : Int32))) ∧ (Fld Z h a "java/util/AbstractList" "modCount" "I" (.int mc)) ∧ (Arv Z h t kO (.object "java/lang/Object") (10 : Int32) [v0, v1, v2, v3, (.ref el), .null, .null, .null, .null, .null] .null)
set_option maxRecDepth 65536 in
set_option maxHeartbeats 40000000 in
theorem rm_ad3_4 (l : Launch) (Z : State) (a0 : Array Value) (hw : ∀ d ∈ tables_1, d.before a0 Z = true) (ws : List Jvm.Cond) (a : Addr) (el : Addr) (t : Addr) (mc : Int32) (kO : ClassId) (v0 : Value) (v1 : Value) (v2 : Value) (v3 : Value) (h0 : Heap) (n0 : Nat) (O0 : Old Z n0 h0) (P0 : Exa Z h0 a "java/util/ArrayList") (P1 : Fld Z h0 a "java/util/ArrayList" "elementData" "[Ljava/lang/Object;" (.ref t)) (P2 : Fld Z h0 a "java/util/ArrayList" "size" "I" (.int (4 : Int32))) (P3 : Fld Z h0 a "java/util/AbstractList" "modCount" "I" (.int mc)) (P4 : Arv Z h0 t kO (.object "java/lang/Object") (10 : Int32) [v0, v1, v2, v3, .null, .null, .null, .null, .null, .null] .null) (fa : n0 ≤ a) (ft : n0 ≤ t) (OV : Ovr Z kO "java/lang/Object") (FC : Z.vm.findClass "[Ljava/lang/Object;" = some kO) (I_el : Ins Z h0 el "java/lang/Object" true) :
    own_MF l own_m12 (Jvm.Cond.code own_m12 jdk_38_method_24_code 4 none :: ws) ({ frames := 0, cells := 0, slots := 0, locals := 0 } : Room) #[(.ref a), (.ref el), (.ref t), (.int (4 : Int32))] Z h0 (Q_ad3_4 Z a el t mc kO v0 v1 v2 v3 h0 n0) := by
  refine own_met (own := "java/util/ArrayList") (nme := "add") rfl rfl (plainFor_of_name pn_5) ?_
  intro p e s m below meth c s₁ hx hby hml hown hnm X0 e0 hret hlk hZ
  have N0 := Fr.nil n0
  rw [ef_ad3_4 m a el t (4 : Int32)]
  refine own_st (T' := s₁) (g' := (mkF m 1 #[rv a, rv el, rv t, iv (4 : Int32)] [(.int (4 : Int32))])) (fun _ k_ => XS.iloadN X0.here hx rfl (hb hby d13_0) rfl  k_) ?_
  refine own_st (T' := s₁) (g' := (mkF m 2 #[rv a, rv el, rv t, iv (4 : Int32)] [(.ref t), (.int (4 : Int32))])) (fun _ k_ => XS.aloadN X0.here hx rfl (hb hby d13_1) rfl rfl  k_) ?_
  obtain ⟨cl1, Ar1, -, S1, N1, -, -⟩ := id P4
  refine own_st (T' := s₁) (g' := (mkF m 3 #[rv a, rv el, rv t, iv (4 : Int32)] [(.int (10 : Int32)), (.int (4 : Int32))])) (fun t_ k_ => X0.arraylength hx (by rw [e0]; exact Ar1.1) (State.isArrayOf_alike hZ.alike Ar1.2.1) (g := (mkF m 2 #[rv a, rv el, rv t, iv (4 : Int32)] [(.ref t), (.int (4 : Int32))])) rfl rfl (hb hby d13_2) _ (by rw [len_of S1 N1]; exact k_)) ?_
  refine own_st (T' := s₁) (g' := (mkF m 11 #[rv a, rv el, rv t, iv (4 : Int32)] [])) (fun _ k_ => XS.icmpYes X0.here hx rfl (pc0 := 3) (pc' := 11) rfl (hb hby d13_3) rfl (feq (by decide : ¬ ((4 : Int32) = (10 : Int32)))).2 (by decide) (by decide) k_) ?_
  refine own_st (T' := s₁) (g' := (mkF m 12 #[rv a, rv el, rv t, iv (4 : Int32)] [(.ref t)])) (fun _ k_ => XS.aloadN X0.here hx rfl (hb hby d13_11) rfl rfl  k_) ?_
  refine own_st (T' := s₁) (g' := (mkF m 13 #[rv a, rv el, rv t, iv (4 : Int32)] [(.int (4 : Int32)), (.ref t)])) (fun _ k_ => XS.iloadN X0.here hx rfl (hb hby d13_12) rfl  k_) ?_
  refine own_st (T' := s₁) (g' := (mkF m 14 #[rv a, rv el, rv t, iv (4 : Int32)] [(.ref el), (.int (4 : Int32)), (.ref t)])) (fun _ k_ => XS.aloadN X0.here hx rfl (hb hby d13_13) rfl rfl  k_) ?_
  obtain ⟨cl2, Ar2, q2, S2, N2, H2, G2⟩ := id P4
  have hin2 : ¬ ((4 : Int32) < 0 ∨ cl2.slots.size ≤ ((4 : Int32)).toNatClampNeg) := inb_of S2 ⟨by decide, by decide⟩
  obtain ⟨T3, h3, X3, e3, W3, st3⟩ := stR X0 hx hZ e0 Ar2 (j := (4 : Int32)) hin2 rfl (Sto.of Ar2 (q2 ▸ OV) I_el) (g := (mkF m 14 #[rv a, rv el, rv t, iv (4 : Int32)] [(.ref el), (.int (4 : Int32)), (.ref t)])) rfl rfl (hb hby d13_14)
  have V3 : Arv Z h3 t kO (.object "java/lang/Object") (10 : Int32) [v0, v1, v2, v3, (.ref el), .null, .null, .null, .null, .null] .null := Arv.set Ar2 q2 S2 N2 H2 G2 rfl W3 4 rfl (Nat.le_of_ble_eq_true rfl)
  have Nx3 := Fr.snoc X3 N0 ft
  refine own_st (T' := T3) (g' := (mkF m 15 #[rv a, rv el, rv t, iv (4 : Int32)] [])) st3 ?_
  clear hin2 G2 H2 N2 S2 q2 Ar2 cl2 st3
  refine own_st (T' := T3) (g' := (mkF m 16 #[rv a, rv el, rv t, iv (4 : Int32)] [(.ref a)])) (fun _ k_ => XS.aloadN X3.here hx rfl (hb hby d13_15) rfl rfl  k_) ?_
  refine own_st (T' := T3) (g' := (mkF m 17 #[rv a, rv el, rv t, iv (4 : Int32)] [(.int (4 : Int32)), (.ref a)])) (fun _ k_ => XS.iloadN X3.here hx rfl (hb hby d13_16) rfl  k_) ?_
  refine own_st (T' := T3) (g' := (mkF m 18 #[rv a, rv el, rv t, iv (4 : Int32)] [(.int (1 : Int32)), (.int (4 : Int32)), (.ref a)])) (fun _ k_ => XS.iconst X3.here hx rfl (hb hby d13_17) k_) ?_
  refine own_st (T' := T3) (g' := (mkF m 19 #[rv a, rv el, rv t, iv (4 : Int32)] [(.int (5 : Int32)), (.ref a)])) (fun _ k_ => XS.iadd X3.here hx rfl (hb hby d13_18) rfl k_) ?_
  have f4 := P0.wr W3
  have xe5 : Exa Z h3 a "java/util/ArrayList" := P0.wr W3
  have ne6 : a ≠ t := own_neA xe5 (wd hw 44 rfl) V3
  have f7 := P2.other W3 (Or.inl ne6)
  obtain ⟨T8, h8, X8, e8, W8, st8⟩ := putF X3 hx hZ hown (host := "") (Or.inl (wd hw 74 rfl)) Via.refl e3 f7 f4 (Or.inl (wd hw 75 rfl)) (wd hw 44 rfl) (ty := .int) (by decide) rfl rfl (g := (mkF m 19 #[rv a, rv el, rv t, iv (4 : Int32)] [(.int (5 : Int32)), (.ref a)])) rfl rfl (hb hby d13_19)
  have Fw8 : Fld Z h8 a "java/util/ArrayList" "size" "I" (.int (5 : Int32)) := Fld.same W8 f7
  have N8 := Fr.snoc X8 Nx3 fa
  refine own_st (T' := T8) (g' := (mkF m 22 #[rv a, rv el, rv t, iv (4 : Int32)] [])) st8 ?_
  clear st8
  have f9 := (Keep.refl h0 [a, t]).wr W3 (Or.inl (List.mem_of_getElem? (i := 1) rfl))
  have f10 := f9.wr W8 (Or.inl (List.mem_of_getElem? (i := 0) rfl))
  have f11 := f4.wr W8
  have f12 := P1.other W3 (Or.inl ne6)
  have f13 := f12.other W8 (Or.inr (slot_ne (Or.inl (wd hw 66 rfl)) (Or.inl (wd hw 75 rfl)) (by decide) (t := (.array (.object "java/lang/Object"))) (t' := .int) (by decide) (by decide)))
  have f14 := P3.other W3 (Or.inl ne6)
  have f15 := f14.other W8 (Or.inr (slot_ne (Or.inl (wd hw 63 rfl)) (Or.inl (wd hw 75 rfl)) (by decide) (t := .int) (t' := .int) (by decide) (by decide)))
  have f16 := V3.other W8 (Ne.symm ne6)
  exact own_retV X8 hx hret hlk (hb hby d13_22) (by decide) (by decide) (by rw [e8]; exact ⟨rfl, N8, f10, f11, f13, Fw8, f15, f16⟩)
theorem ef_add_4 (m : MethodId) (x0 : Addr) (x1 : Addr) : entryFrame m #[(.ref x0), (.ref x1)] 2 = mkF m 0 #[rv x0, rv x1] [] := by first | (simp [entryFrame, mkF, argsToLocals, Value.category]; done) | rfl
def Q_add_4 (Z : State) (a : Addr) (el : Addr) (t : Addr) (mc : Int32) (kO : ClassId) (v0 : Value) (v1 : Value) (v2 : Value) (v3 : Value) (h0 : Heap) (n0 : Nat) (v : Option Value) (h : Heap) (L : List Loc) : Prop := (v = some (.int (1 : Int32))) ∧ (Fr n0 L) ∧ (Keep h0 h [a, t]) ∧ (Exa Z h a "java/util/ArrayList") ∧ (Fld Z h a "java/util/ArrayList" "elementData" "[Ljava/lang/Object;" (.ref t)) ∧ (Fld Z h a "java/util/ArrayList" "size" "I" (.int (5 : Int32))) ∧ (Fld Z h a "java/util/AbstractList" "modCount" "I" (.int (mc + (1 : Int32)))) ∧ (Arv Z h t kO (.object "java/lang/Object") (10 : Int32) [v0, v1, v2, v3, (.ref el), .null, .null, .null, .null, .null] .null)
set_option maxRecDepth 65536 in
set_option maxHeartbeats 40000000 in
theorem rm_add_4 (l : Launch) (Z : State) (a0 : Array Value) (hw : ∀ d ∈ tables_1, d.before a0 Z = true) (ws : List Jvm.Cond) (a : Addr) (el : Addr) (t : Addr) (mc : Int32) (kO : ClassId) (v0 : Value) (v1 : Value) (v2 : Value) (v3 : Value) (h0 : Heap) (n0 : Nat) (O0 : Old Z n0 h0) (P0 : Exa Z h0 a "java/util/ArrayList") (P1 : Fld Z h0 a "java/util/ArrayList" "elementData" "[Ljava/lang/Object;" (.ref t)) (P2 : Fld Z h0 a "java/util/ArrayList" "size" "I" (.int (4 : Int32))) (P3 : Fld Z h0 a "java/util/AbstractList" "modCount" "I" (.int mc)) (P4 : Arv Z h0 t kO (.object "java/lang/Object") (10 : Int32) [v0, v1, v2, v3, .null, .null, .null, .null, .null, .null] .null) (fa : n0 ≤ a) (ft : n0 ≤ t) (OV : Ovr Z kO "java/lang/Object") (FC : Z.vm.findClass "[Ljava/lang/Object;" = some kO) (I_el : Ins Z h0 el "java/lang/Object" true) :
    own_MF l own_m13 (Jvm.Cond.code own_m13 jdk_38_method_25_code 2 (some .boolean) :: ws) ({ frames := 1, cells := 0, slots := 0, locals := 15 } : Room) #[(.ref a), (.ref el)] Z h0 (Q_add_4 Z a el t mc kO v0 v1 v2 v3 h0 n0) := by
  refine own_met (own := "java/util/ArrayList") (nme := "add") rfl rfl (plainFor_of_name pn_5) ?_
  intro p e s m below meth c s₁ hx hby hml hown hnm X0 e0 hret hlk hZ
  have N0 := Fr.nil n0
  rw [ef_add_4 m a el]
  refine own_st (T' := s₁) (g' := (mkF m 1 #[rv a, rv el] [(.ref a)])) (fun _ k_ => XS.aloadN X0.here hx rfl (hb hby d12_0) rfl rfl  k_) ?_
  refine own_st (T' := s₁) (g' := (mkF m 2 #[rv a, rv el] [(.ref a), (.ref a)])) (fun _ k_ => XS.dup X0.here hx rfl (hb hby d12_1) rfl rfl k_) ?_
  obtain ⟨T1, X1, e1, st1⟩ := getF X0 hx hZ hown (host := "") (Or.inl (wd hw 72 rfl)) (Via.of (wd hw 73 rfl)) e0 P3 (g := (mkF m 2 #[rv a, rv el] [(.ref a), (.ref a)])) rfl rfl (hb hby d12_2)
  refine own_st (T' := T1) (g' := (mkF m 5 #[rv a, rv el] [(.int mc), (.ref a)])) st1 ?_
  clear st1
  refine own_st (T' := T1) (g' := (mkF m 6 #[rv a, rv el] [(.int (1 : Int32)), (.int mc), (.ref a)])) (fun _ k_ => XS.iconst X1.here hx rfl (hb hby d12_5) k_) ?_
  refine own_st (T' := T1) (g' := (mkF m 7 #[rv a, rv el] [(.int (mc + (1 : Int32))), (.ref a)])) (fun _ k_ => XS.iadd X1.here hx rfl (hb hby d12_6) rfl k_) ?_
  obtain ⟨T2, h2, X2, e2, W2, st2⟩ := putF X1 hx hZ hown (host := "") (Or.inl (wd hw 72 rfl)) (Via.of (wd hw 73 rfl)) e1 P3 P0 (Or.inl (wd hw 63 rfl)) (wd hw 44 rfl) (ty := .int) (by decide) rfl rfl (g := (mkF m 7 #[rv a, rv el] [(.int (mc + (1 : Int32))), (.ref a)])) rfl rfl (hb hby d12_7)
  have Fw2 : Fld Z h2 a "java/util/AbstractList" "modCount" "I" (.int (mc + (1 : Int32))) := Fld.same W2 P3
  have N2 := Fr.snoc X2 N0 fa
  refine own_st (T' := T2) (g' := (mkF m 10 #[rv a, rv el] [])) st2 ?_
  clear st2
  refine own_st (T' := T2) (g' := (mkF m 11 #[rv a, rv el] [(.ref a)])) (fun _ k_ => XS.aloadN X2.here hx rfl (hb hby d12_10) rfl rfl  k_) ?_
  refine own_st (T' := T2) (g' := (mkF m 12 #[rv a, rv el] [(.ref el), (.ref a)])) (fun _ k_ => XS.aloadN X2.here hx rfl (hb hby d12_11) rfl rfl  k_) ?_
  refine own_st (T' := T2) (g' := (mkF m 13 #[rv a, rv el] [(.ref a), (.ref el), (.ref a)])) (fun _ k_ => XS.aloadN X2.here hx rfl (hb hby d12_12) rfl rfl  k_) ?_
  have f3 := P1.other W2 (Or.inr (slot_ne (Or.inl (wd hw 66 rfl)) (Or.inl (wd hw 63 rfl)) (by decide) (t := (.array (.object "java/lang/Object"))) (t' := .int) (by decide) (by decide)))
  obtain ⟨T4, X4, e4, st4⟩ := getF X2 hx hZ hown (host := "") (Or.inl (wd hw 65 rfl)) Via.refl e2 f3 (g := (mkF m 13 #[rv a, rv el] [(.ref a), (.ref el), (.ref a)])) rfl rfl (hb hby d12_13)
  refine own_st (T' := T4) (g' := (mkF m 16 #[rv a, rv el] [(.ref t), (.ref el), (.ref a)])) st4 ?_
  clear st4
  refine own_st (T' := T4) (g' := (mkF m 17 #[rv a, rv el] [(.ref a), (.ref t), (.ref el), (.ref a)])) (fun _ k_ => XS.aloadN X4.here hx rfl (hb hby d12_16) rfl rfl  k_) ?_
  have f5 := P2.other W2 (Or.inr (slot_ne (Or.inl (wd hw 75 rfl)) (Or.inl (wd hw 63 rfl)) (by decide) (t := .int) (t' := .int) (by decide) (by decide)))
  obtain ⟨T6, X6, e6, st6⟩ := getF X4 hx hZ hown (host := "") (Or.inl (wd hw 74 rfl)) Via.refl e4 f5 (g := (mkF m 17 #[rv a, rv el] [(.ref a), (.ref t), (.ref el), (.ref a)])) rfl rfl (hb hby d12_17)
  refine own_st (T' := T6) (g' := (mkF m 20 #[rv a, rv el] [(.int (4 : Int32)), (.ref t), (.ref el), (.ref a)])) st6 ?_
  clear st6
  have f7 := P0.wr W2
  have ne8 : a ≠ t := own_neA P0 (wd hw 44 rfl) P4
  have f9 := P4.other W2 (Ne.symm ne8)
  have f10 := Ins.wr W2 I_el
  have f11 := O0.wr W2 fa
  obtain ⟨cq12, q12, q12'⟩ := f7.cell
  obtain ⟨_, T12, L12, X12, hQ12, st12⟩ := own_callP X6 hx (y := own_m12) hown (mvT hZ (wd hw 76 rfl)) (mvT hZ (wd hw 77 rfl)) (mvT hZ (wd hw 79 rfl)) (Cond.privateMethod_at (mvP hZ (wd hw 78 rfl) (args := #[]))) (mvT hZ (wd hw 80 rfl)) (by decide) (backOf (W := 0) (rm_ad3_4 l Z a0 hw [] a el t (mc + (1 : Int32)) kO v0 v1 v2 v3 h2 n0 f11 f7 f3 f5 Fw2 f9 fa ft OV FC f10) hZ (wd hw 80 rfl) (wd hw 45 rfl) (by decide) (by decide)) (g := (mkF m 20 #[rv a, rv el] [(.int (4 : Int32)), (.ref t), (.ref el), (.ref a)])) rfl (by rw [hml]; rfl) (a := a) (by rw [e6]; exact q12) q12' (argsL := [(.ref el), (.ref t), (.int (4 : Int32))]) (rest := []) (lenOf pd__Ljava_lang_Object__Ljava_lang_Object_I_V rfl) rfl (by show 2 * 0 + _ ≤ _; exact Nat.le_of_eq rfl) (hb hby d12_20) rfl e6 (by decide) (by decide) (c' := 0) (s' := 0) rfl rfl
  obtain ⟨rfl, Nq12, K12, fq12_0, fq12_1, fq12_2, fq12_3, fq12_4⟩ := hQ12
  have N12 := Fr.app N2 Nq12
  refine own_st (T' := T12) (g' := (mkF m 23 #[rv a, rv el] [])) st12 ?_
  clear st12
  refine own_st (T' := T12) (g' := (mkF m 24 #[rv a, rv el] [(.int (1 : Int32))])) (fun _ k_ => XS.iconst X12.here hx rfl (hb hby d12_23) k_) ?_
  have f13 := (Keep.refl h0 [a, t]).wr W2 (Or.inl (List.mem_of_getElem? (i := 0) rfl))
  have f14 := f13.trans K12 (allS (Or.inl (List.mem_of_getElem? (i := 0) rfl)) (allS (Or.inl (List.mem_of_getElem? (i := 1) rfl)) all0))
  exact own_retN X12 hx (t := .boolean) hret (by simp) hlk (hb hby d12_24) (by decide) (by decide) ⟨rfl, N12, f14, fq12_0, fq12_1, fq12_2, fq12_3, fq12_4⟩
theorem ef_ad3_5 (m : MethodId) (x0 : Addr) (x1 : Addr) (x2 : Addr) (x3 : Int32) : entryFrame m #[(.ref x0), (.ref x1), (.ref x2), (.int x3)] 4 = mkF m 0 #[rv x0, rv x1, rv x2, iv x3] [] := by first | (simp [entryFrame, mkF, argsToLocals, Value.category]; done) | rfl
def Q_ad3_5 (Z : State) (a : Addr) (el : Addr) (t : Addr) (mc : Int32) (kO : ClassId) (v0 : Value) (v1 : Value) (v2 : Value) (v3 : Value) (v4 : Value) (h0 : Heap) (n0 : Nat) (v : Option Value) (h : Heap) (L : List Loc) : Prop := (v = none) ∧ (Fr n0 L) ∧ (Keep h0 h [a, t]) ∧ (Exa Z h a "java/util/ArrayList") ∧ (Fld Z h a "java/util/ArrayList" "elementData" "[Ljava/lang/Object;" (.ref t)) ∧ (Fld Z h a "java/util/ArrayList" "size" "I" (.int (6 : Int32))) ∧ (Fld Z h a "java/util/AbstractList" "modCount" "I" (.int mc)) ∧ (Arv Z h t kO (.object "java/lang/Object") (10 : Int32) [v0, v1, v2, v3, v4, (.ref el), .null, .null, .null, .null] .null)
set_option maxRecDepth 65536 in
set_option maxHeartbeats 40000000 in
theorem rm_ad3_5 (l : Launch) (Z : State) (a0 : Array Value) (hw : ∀ d ∈ tables_1, d.before a0 Z = true) (ws : List Jvm.Cond) (a : Addr) (el : Addr) (t : Addr) (mc : Int32) (kO : ClassId) (v0 : Value) (v1 : Value) (v2 : Value) (v3 : Value) (v4 : Value) (h0 : Heap) (n0 : Nat) (O0 : Old Z n0 h0) (P0 : Exa Z h0 a "java/util/ArrayList") (P1 : Fld Z h0 a "java/util/ArrayList" "elementData" "[Ljava/lang/Object;" (.ref t)) (P2 : Fld Z h0 a "java/util/ArrayList" "size" "I" (.int (5 : Int32))) (P3 : Fld Z h0 a "java/util/AbstractList" "modCount" "I" (.int mc)) (P4 : Arv Z h0 t kO (.object "java/lang/Object") (10 : Int32) [v0, v1, v2, v3, v4, .null, .null, .null, .null, .null] .null) (fa : n0 ≤ a) (ft : n0 ≤ t) (OV : Ovr Z kO "java/lang/Object") (FC : Z.vm.findClass "[Ljava/lang/Object;" = some kO) (I_el : Ins Z h0 el "java/lang/Object" true) :
    own_MF l own_m12 (Jvm.Cond.code own_m12 jdk_38_method_24_code 4 none :: ws) ({ frames := 0, cells := 0, slots := 0, locals := 0 } : Room) #[(.ref a), (.ref el), (.ref t), (.int (5 : Int32))] Z h0 (Q_ad3_5 Z a el t mc kO v0 v1 v2 v3 v4 h0 n0) := by
  refine own_met (own := "java/util/ArrayList") (nme := "add") rfl rfl (plainFor_of_name pn_5) ?_
  intro p e s m below meth c s₁ hx hby hml hown hnm X0 e0 hret hlk hZ
  have N0 := Fr.nil n0
  rw [ef_ad3_5 m a el t (5 : Int32)]
  refine own_st (T' := s₁) (g' := (mkF m 1 #[rv a, rv el, rv t, iv (5 : Int32)] [(.int (5 : Int32))])) (fun _ k_ => XS.iloadN X0.here hx rfl (hb hby d13_0) rfl  k_) ?_
  refine own_st (T' := s₁) (g' := (mkF m 2 #[rv a, rv el, rv t, iv (5 : Int32)] [(.ref t), (.int (5 : Int32))])) (fun _ k_ => XS.aloadN X0.here hx rfl (hb hby d13_1) rfl rfl  k_) ?_
  obtain ⟨cl1, Ar1, -, S1, N1, -, -⟩ := id P4
  refine own_st (T' := s₁) (g' := (mkF m 3 #[rv a, rv el, rv t, iv (5 : Int32)] [(.int (10 : Int32)), (.int (5 : Int32))])) (fun t_ k_ => X0.arraylength hx (by rw [e0]; exact Ar1.1) (State.isArrayOf_alike hZ.alike Ar1.2.1) (g := (mkF m 2 #[rv a, rv el, rv t, iv (5 : Int32)] [(.ref t), (.int (5 : Int32))])) rfl rfl (hb hby d13_2) _ (by rw [len_of S1 N1]; exact k_)) ?_
  refine own_st (T' := s₁) (g' := (mkF m 11 #[rv a, rv el, rv t, iv (5 : Int32)] [])) (fun _ k_ => XS.icmpYes X0.here hx rfl (pc0 := 3) (pc' := 11) rfl (hb hby d13_3) rfl (feq (by decide : ¬ ((5 : Int32) = (10 : Int32)))).2 (by decide) (by decide) k_) ?_
  refine own_st (T' := s₁) (g' := (mkF m 12 #[rv a, rv el, rv t, iv (5 : Int32)] [(.ref t)])) (fun _ k_ => XS.aloadN X0.here hx rfl (hb hby d13_11) rfl rfl  k_) ?_
  refine own_st (T' := s₁) (g' := (mkF m 13 #[rv a, rv el, rv t, iv (5 : Int32)] [(.int (5 : Int32)), (.ref t)])) (fun _ k_ => XS.iloadN X0.here hx rfl (hb hby d13_12) rfl  k_) ?_
  refine own_st (T' := s₁) (g' := (mkF m 14 #[rv a, rv el, rv t, iv (5 : Int32)] [(.ref el), (.int (5 : Int32)), (.ref t)])) (fun _ k_ => XS.aloadN X0.here hx rfl (hb hby d13_13) rfl rfl  k_) ?_
  obtain ⟨cl2, Ar2, q2, S2, N2, H2, G2⟩ := id P4
  have hin2 : ¬ ((5 : Int32) < 0 ∨ cl2.slots.size ≤ ((5 : Int32)).toNatClampNeg) := inb_of S2 ⟨by decide, by decide⟩
  obtain ⟨T3, h3, X3, e3, W3, st3⟩ := stR X0 hx hZ e0 Ar2 (j := (5 : Int32)) hin2 rfl (Sto.of Ar2 (q2 ▸ OV) I_el) (g := (mkF m 14 #[rv a, rv el, rv t, iv (5 : Int32)] [(.ref el), (.int (5 : Int32)), (.ref t)])) rfl rfl (hb hby d13_14)
  have V3 : Arv Z h3 t kO (.object "java/lang/Object") (10 : Int32) [v0, v1, v2, v3, v4, (.ref el), .null, .null, .null, .null] .null := Arv.set Ar2 q2 S2 N2 H2 G2 rfl W3 5 rfl (Nat.le_of_ble_eq_true rfl)
  have Nx3 := Fr.snoc X3 N0 ft
  refine own_st (T' := T3) (g' := (mkF m 15 #[rv a, rv el, rv t, iv (5 : Int32)] [])) st3 ?_
  clear hin2 G2 H2 N2 S2 q2 Ar2 cl2 st3
  refine own_st (T' := T3) (g' := (mkF m 16 #[rv a, rv el, rv t, iv (5 : Int32)] [(.ref a)])) (fun _ k_ => XS.aloadN X3.here hx rfl (hb hby d13_15) rfl rfl  k_) ?_
  refine own_st (T' := T3) (g' := (mkF m 17 #[rv a, rv el, rv t, iv (5 : Int32)] [(.int (5 : Int32)), (.ref a)])) (fun _ k_ => XS.iloadN X3.here hx rfl (hb hby d13_16) rfl  k_) ?_
  refine own_st (T' := T3) (g' := (mkF m 18 #[rv a, rv el, rv t, iv (5 : Int32)] [(.int (1 : Int32)), (.int (5 : Int32)), (.ref a)])) (fun _ k_ => XS.iconst X3.here hx rfl (hb hby d13_17) k_) ?_
  refine own_st (T' := T3) (g' := (mkF m 19 #[rv a, rv el, rv t, iv (5 : Int32)] [(.int (6 : Int32)), (.ref a)])) (fun _ k_ => XS.iadd X3.here hx rfl (hb hby d13_18) rfl k_) ?_
  have f4 := P0.wr W3
  have xe5 : Exa Z h3 a "java/util/ArrayList" := P0.wr W3
  have ne6 : a ≠ t := own_neA xe5 (wd hw 44 rfl) V3
  have f7 := P2.other W3 (Or.inl ne6)
  obtain ⟨T8, h8, X8, e8, W8, st8⟩ := putF X3 hx hZ hown (host := "") (Or.inl (wd hw 74 rfl)) Via.refl e3 f7 f4 (Or.inl (wd hw 75 rfl)) (wd hw 44 rfl) (ty := .int) (by decide) rfl rfl (g := (mkF m 19 #[rv a, rv el, rv t, iv (5 : Int32)] [(.int (6 : Int32)), (.ref a)])) rfl rfl (hb hby d13_19)
  have Fw8 : Fld Z h8 a "java/util/ArrayList" "size" "I" (.int (6 : Int32)) := Fld.same W8 f7
  have N8 := Fr.snoc X8 Nx3 fa
  refine own_st (T' := T8) (g' := (mkF m 22 #[rv a, rv el, rv t, iv (5 : Int32)] [])) st8 ?_
  clear st8
  have f9 := (Keep.refl h0 [a, t]).wr W3 (Or.inl (List.mem_of_getElem? (i := 1) rfl))
  have f10 := f9.wr W8 (Or.inl (List.mem_of_getElem? (i := 0) rfl))
  have f11 := f4.wr W8
  have f12 := P1.other W3 (Or.inl ne6)
  have f13 := f12.other W8 (Or.inr (slot_ne (Or.inl (wd hw 66 rfl)) (Or.inl (wd hw 75 rfl)) (by decide) (t := (.array (.object "java/lang/Object"))) (t' := .int) (by decide) (by decide)))
  have f14 := P3.other W3 (Or.inl ne6)
  have f15 := f14.other W8 (Or.inr (slot_ne (Or.inl (wd hw 63 rfl)) (Or.inl (wd hw 75 rfl)) (by decide) (t := .int) (t' := .int) (by decide) (by decide)))
  have f16 := V3.other W8 (Ne.symm ne6)
  exact own_retV X8 hx hret hlk (hb hby d13_22) (by decide) (by decide) (by rw [e8]; exact ⟨rfl, N8, f10, f11, f13, Fw8, f15, f16⟩)
theorem ef_add_5 (m : MethodId) (x0 : Addr) (x1 : Addr) : entryFrame m #[(.ref x0), (.ref x1)] 2 = mkF m 0 #[rv x0, rv x1] [] := by first | (simp [entryFrame, mkF, argsToLocals, Value.category]; done) | rfl
def Q_add_5 (Z : State) (a : Addr) (el : Addr) (t : Addr) (mc : Int32) (kO : ClassId) (v0 : Value) (v1 : Value) (v2 : Value) (v3 : Value) (v4 : Value) (h0 : Heap) (n0 : Nat) (v : Option Value) (h : Heap) (L : List Loc) : Prop := (v = some (.int (1 : Int32))) ∧ (Fr n0 L) ∧ (Keep h0 h [a, t]) ∧ (Exa Z h a "java/util/ArrayList") ∧ (Fld Z h a "java/util/ArrayList" "elementData" "[Ljava/lang/Object;" (.ref t)) ∧ (Fld Z h a "java/util/ArrayList" "size" "I" (.int (6 : Int32))) ∧ (Fld Z h a "java/util/AbstractList" "modCount" "I" (.int (mc + (1 : Int32)))) ∧ (Arv Z h t kO (.object "java/lang/Object") (10 : Int32) [v0, v1, v2, v3, v4, (.ref el), .null, .null, .null, .null] .null)
set_option maxRecDepth 65536 in
set_option maxHeartbeats 40000000 in
theorem rm_add_5 (l : Launch) (Z : State) (a0 : Array Value) (hw : ∀ d ∈ tables_1, d.before a0 Z = true) (ws : List Jvm.Cond) (a : Addr) (el : Addr) (t : Addr) (mc : Int32) (kO : ClassId) (v0 : Value) (v1 : Value) (v2 : Value) (v3 : Value) (v4 : Value) (h0 : Heap) (n0 : Nat) (O0 : Old Z n0 h0) (P0 : Exa Z h0 a "java/util/ArrayList") (P1 : Fld Z h0 a "java/util/ArrayList" "elementData" "[Ljava/lang/Object;" (.ref t)) (P2 : Fld Z h0 a "java/util/ArrayList" "size" "I" (.int (5 : Int32))) (P3 : Fld Z h0 a "java/util/AbstractList" "modCount" "I" (.int mc)) (P4 : Arv Z h0 t kO (.object "java/lang/Object") (10 : Int32) [v0, v1, v2, v3, v4, .null, .null, .null, .null, .null] .null) (fa : n0 ≤ a) (ft : n0 ≤ t) (OV : Ovr Z kO "java/lang/Object") (FC : Z.vm.findClass "[Ljava/lang/Object;" = some kO) (I_el : Ins Z h0 el "java/lang/Object" true) :
    own_MF l own_m13 (Jvm.Cond.code own_m13 jdk_38_method_25_code 2 (some .boolean) :: ws) ({ frames := 1, cells := 0, slots := 0, locals := 15 } : Room) #[(.ref a), (.ref el)] Z h0 (Q_add_5 Z a el t mc kO v0 v1 v2 v3 v4 h0 n0) := by
  refine own_met (own := "java/util/ArrayList") (nme := "add") rfl rfl (plainFor_of_name pn_5) ?_
  intro p e s m below meth c s₁ hx hby hml hown hnm X0 e0 hret hlk hZ
  have N0 := Fr.nil n0
  rw [ef_add_5 m a el]
  refine own_st (T' := s₁) (g' := (mkF m 1 #[rv a, rv el] [(.ref a)])) (fun _ k_ => XS.aloadN X0.here hx rfl (hb hby d12_0) rfl rfl  k_) ?_
  refine own_st (T' := s₁) (g' := (mkF m 2 #[rv a, rv el] [(.ref a), (.ref a)])) (fun _ k_ => XS.dup X0.here hx rfl (hb hby d12_1) rfl rfl k_) ?_
  obtain ⟨T1, X1, e1, st1⟩ := getF X0 hx hZ hown (host := "") (Or.inl (wd hw 72 rfl)) (Via.of (wd hw 73 rfl)) e0 P3 (g := (mkF m 2 #[rv a, rv el] [(.ref a), (.ref a)])) rfl rfl (hb hby d12_2)
  refine own_st (T' := T1) (g' := (mkF m 5 #[rv a, rv el] [(.int mc), (.ref a)])) st1 ?_
  clear st1
  refine own_st (T' := T1) (g' := (mkF m 6 #[rv a, rv el] [(.int (1 : Int32)), (.int mc), (.ref a)])) (fun _ k_ => XS.iconst X1.here hx rfl (hb hby d12_5) k_) ?_
  refine own_st (T' := T1) (g' := (mkF m 7 #[rv a, rv el] [(.int (mc + (1 : Int32))), (.ref a)])) (fun _ k_ => XS.iadd X1.here hx rfl (hb hby d12_6) rfl k_) ?_
  obtain ⟨T2, h2, X2, e2, W2, st2⟩ := putF X1 hx hZ hown (host := "") (Or.inl (wd hw 72 rfl)) (Via.of (wd hw 73 rfl)) e1 P3 P0 (Or.inl (wd hw 63 rfl)) (wd hw 44 rfl) (ty := .int) (by decide) rfl rfl (g := (mkF m 7 #[rv a, rv el] [(.int (mc + (1 : Int32))), (.ref a)])) rfl rfl (hb hby d12_7)
  have Fw2 : Fld Z h2 a "java/util/AbstractList" "modCount" "I" (.int (mc + (1 : Int32))) := Fld.same W2 P3
  have N2 := Fr.snoc X2 N0 fa
  refine own_st (T' := T2) (g' := (mkF m 10 #[rv a, rv el] [])) st2 ?_
  clear st2
  refine own_st (T' := T2) (g' := (mkF m 11 #[rv a, rv el] [(.ref a)])) (fun _ k_ => XS.aloadN X2.here hx rfl (hb hby d12_10) rfl rfl  k_) ?_
  refine own_st (T' := T2) (g' := (mkF m 12 #[rv a, rv el] [(.ref el), (.ref a)])) (fun _ k_ => XS.aloadN X2.here hx rfl (hb hby d12_11) rfl rfl  k_) ?_
  refine own_st (T' := T2) (g' := (mkF m 13 #[rv a, rv el] [(.ref a), (.ref el), (.ref a)])) (fun _ k_ => XS.aloadN X2.here hx rfl (hb hby d12_12) rfl rfl  k_) ?_
  have f3 := P1.other W2 (Or.inr (slot_ne (Or.inl (wd hw 66 rfl)) (Or.inl (wd hw 63 rfl)) (by decide) (t := (.array (.object "java/lang/Object"))) (t' := .int) (by decide) (by decide)))
  obtain ⟨T4, X4, e4, st4⟩ := getF X2 hx hZ hown (host := "") (Or.inl (wd hw 65 rfl)) Via.refl e2 f3 (g := (mkF m 13 #[rv a, rv el] [(.ref a), (.ref el), (.ref a)])) rfl rfl (hb hby d12_13)
  refine own_st (T' := T4) (g' := (mkF m 16 #[rv a, rv el] [(.ref t), (.ref el), (.ref a)])) st4 ?_
  clear st4
  refine own_st (T' := T4) (g' := (mkF m 17 #[rv a, rv el] [(.ref a), (.ref t), (.ref el), (.ref a)])) (fun _ k_ => XS.aloadN X4.here hx rfl (hb hby d12_16) rfl rfl  k_) ?_
  have f5 := P2.other W2 (Or.inr (slot_ne (Or.inl (wd hw 75 rfl)) (Or.inl (wd hw 63 rfl)) (by decide) (t := .int) (t' := .int) (by decide) (by decide)))
  obtain ⟨T6, X6, e6, st6⟩ := getF X4 hx hZ hown (host := "") (Or.inl (wd hw 74 rfl)) Via.refl e4 f5 (g := (mkF m 17 #[rv a, rv el] [(.ref a), (.ref t), (.ref el), (.ref a)])) rfl rfl (hb hby d12_17)
  refine own_st (T' := T6) (g' := (mkF m 20 #[rv a, rv el] [(.int (5 : Int32)), (.ref t), (.ref el), (.ref a)])) st6 ?_
  clear st6
  have f7 := P0.wr W2
  have ne8 : a ≠ t := own_neA P0 (wd hw 44 rfl) P4
  have f9 := P4.other W2 (Ne.symm ne8)
  have f10 := Ins.wr W2 I_el
  have f11 := O0.wr W2 fa
  obtain ⟨cq12, q12, q12'⟩ := f7.cell
  obtain ⟨_, T12, L12, X12, hQ12, st12⟩ := own_callP X6 hx (y := own_m12) hown (mvT hZ (wd hw 76 rfl)) (mvT hZ (wd hw 77 rfl)) (mvT hZ (wd hw 79 rfl)) (Cond.privateMethod_at (mvP hZ (wd hw 78 rfl) (args := #[]))) (mvT hZ (wd hw 80 rfl)) (by decide) (backOf (W := 0) (rm_ad3_5 l Z a0 hw [] a el t (mc + (1 : Int32)) kO v0 v1 v2 v3 v4 h2 n0 f11 f7 f3 f5 Fw2 f9 fa ft OV FC f10) hZ (wd hw 80 rfl) (wd hw 45 rfl) (by decide) (by decide)) (g := (mkF m 20 #[rv a, rv el] [(.int (5 : Int32)), (.ref t), (.ref el), (.ref a)])) rfl (by rw [hml]; rfl) (a := a) (by rw [e6]; exact q12) q12' (argsL := [(.ref el), (.ref t), (.int (5 : Int32))]) (rest := []) (lenOf pd__Ljava_lang_Object__Ljava_lang_Object_I_V rfl) rfl (by show 2 * 0 + _ ≤ _; exact Nat.le_of_eq rfl) (hb hby d12_20) rfl e6 (by decide) (by decide) (c' := 0) (s' := 0) rfl rfl
  obtain ⟨rfl, Nq12, K12, fq12_0, fq12_1, fq12_2, fq12_3, fq12_4⟩ := hQ12
  have N12 := Fr.app N2 Nq12
  refine own_st (T' := T12) (g' := (mkF m 23 #[rv a, rv el] [])) st12 ?_
  clear st12
  refine own_st (T' := T12) (g' := (mkF m 24 #[rv a, rv el] [(.int (1 : Int32))])) (fun _ k_ => XS.iconst X12.here hx rfl (hb hby d12_23) k_) ?_
  have f13 := (Keep.refl h0 [a, t]).wr W2 (Or.inl (List.mem_of_getElem? (i := 0) rfl))
  have f14 := f13.trans K12 (allS (Or.inl (List.mem_of_getElem? (i := 0) rfl)) (allS (Or.inl (List.mem_of_getElem? (i := 1) rfl)) all0))
  exact own_retN X12 hx (t := .boolean) hret (by simp) hlk (hb hby d12_24) (by decide) (by decide) ⟨rfl, N12, f14, fq12_0, fq12_1, fq12_2, fq12_3, fq12_4⟩
theorem d19_0 : decode jdk_38_method_8_code 0 = .ok (.aload_n 0, 1) := by decide +kernel
theorem d19_1 : decode jdk_38_method_8_code 1 = .ok (.getfield 48, 3) := by decide +kernel
theorem d19_4 : decode jdk_38_method_8_code 4 = .ok (.ireturn, 1) := by decide +kernel
theorem ef_alsz (m : MethodId) (x0 : Addr) : entryFrame m #[(.ref x0)] 1 = mkF m 0 #[rv x0] [] := by first | (simp [entryFrame, mkF, argsToLocals, Value.category]; done) | rfl
def Q_alsz (Z : State) (a : Addr) (sz : Int32) (h0 : Heap) (n0 : Nat) (v : Option Value) (h : Heap) (L : List Loc) : Prop := (v = some (.int sz)) ∧ (Fr n0 L) ∧ (h = h0)
set_option maxRecDepth 65536 in
set_option maxHeartbeats 40000000 in
theorem rm_alsz (l : Launch) (Z : State) (a0 : Array Value) (hw : ∀ d ∈ tables_1, d.before a0 Z = true) (ws : List Jvm.Cond) (a : Addr) (sz : Int32) (h0 : Heap) (n0 : Nat) (O0 : Old Z n0 h0) (Fz : Fld Z h0 a "java/util/ArrayList" "size" "I" (.int sz)) :
    own_MF l own_m14 (Jvm.Cond.code own_m14 jdk_38_method_8_code 1 (some .int) :: ws) ({ frames := 0, cells := 0, slots := 0, locals := 0 } : Room) #[(.ref a)] Z h0 (Q_alsz Z a sz h0 n0) := by
  refine own_met (own := "java/util/ArrayList") (nme := "size") rfl rfl (plainFor_of_name pn_5) ?_
  intro p e s m below meth c s₁ hx hby hml hown hnm X0 e0 hret hlk hZ
  have N0 := Fr.nil n0
  rw [ef_alsz m a]
  refine own_st (T' := s₁) (g' := (mkF m 1 #[rv a] [(.ref a)])) (fun _ k_ => XS.aloadN X0.here hx rfl (hb hby d19_0) rfl rfl  k_) ?_
  obtain ⟨T1, X1, e1, st1⟩ := getF X0 hx hZ hown (host := "") (Or.inl (wd hw 74 rfl)) Via.refl e0 Fz (g := (mkF m 1 #[rv a] [(.ref a)])) rfl rfl (hb hby d19_1)
  refine own_st (T' := T1) (g' := (mkF m 4 #[rv a] [(.int sz)])) st1 ?_
  clear st1
  exact own_retI X1 hx hret hlk (hb hby d19_4) (by decide) (by decide) ⟨rfl, N0, e1⟩
theorem own_no0 {Z : State} {a0 : Array Value} (hw : ∀ d ∈ tables_1, d.before a0 Z = true) : ∃ c t, Z.vm.findClass "java/util/ArrayList" = some c ∧ Z.vm.findClass "java/util/ImmutableCollections$List12" = some t ∧ Z.vm.assignable c t = false := own_NSno (wd hw 130 rfl) (wd hw 178 rfl) (NS.step (wd hw 130 rfl) (NS.step (wd hw 131 rfl) (NS.step (wd hw 132 rfl) (own_NSroot (wd hw 133 rfl) (wd hw 178 rfl) (by decide)) (by decide)) (by decide)) (by decide)) (by decide)
theorem own_no1 {Z : State} {a0 : Array Value} (hw : ∀ d ∈ tables_1, d.before a0 Z = true) : ∃ c t, Z.vm.findClass "java/util/ArrayList" = some c ∧ Z.vm.findClass "java/util/ImmutableCollections$ListN" = some t ∧ Z.vm.assignable c t = false := own_NSno (wd hw 130 rfl) (wd hw 250 rfl) (NS.step (wd hw 130 rfl) (NS.step (wd hw 131 rfl) (NS.step (wd hw 132 rfl) (own_NSroot (wd hw 133 rfl) (wd hw 250 rfl) (by decide)) (by decide)) (by decide)) (by decide)) (by decide)
theorem d30_0 : decode jdk_47_method_1_code 0 = .ok (.aload_n 0, 1) := by decide +kernel
theorem d30_1 : decode jdk_47_method_1_code 1 = .ok (.invokespecial 1, 3) := by decide +kernel
theorem d30_4 : decode jdk_47_method_1_code 4 = .ok (.return_, 1) := by decide +kernel
theorem pn_6 : plainName "java/util/ImmutableCollections$AbstractImmutableCollection" = true := by first | (simp [plainName, overriddenIn]; done) | decide +kernel
theorem ef_aici (m : MethodId) (x0 : Addr) : entryFrame m #[(.ref x0)] 1 = mkF m 0 #[rv x0] [] := by first | (simp [entryFrame, mkF, argsToLocals, Value.category]; done) | rfl
def Q_aici (Z : State) (x : Addr) (h0 : Heap) (n0 : Nat) (v : Option Value) (h : Heap) (L : List Loc) : Prop := (v = none) ∧ (Fr n0 L) ∧ (h = h0)
set_option maxRecDepth 65536 in
set_option maxHeartbeats 40000000 in
theorem rm_aici (l : Launch) (Z : State) (a0 : Array Value) (hw : ∀ d ∈ tables_1, d.before a0 Z = true) (ws : List Jvm.Cond) (x : Addr) (h0 : Heap) (n0 : Nat) (O0 : Old Z n0 h0) :
    own_MF l own_m15 (Jvm.Cond.code own_m15 jdk_47_method_1_code 1 none :: ws) ({ frames := 2, cells := 0, slots := 0, locals := 24 } : Room) #[(.ref x)] Z h0 (Q_aici Z x h0 n0) := by
  refine own_met (own := "java/util/ImmutableCollections$AbstractImmutableCollection") (nme := "<init>") rfl rfl (plainFor_of_name pn_6) ?_
  intro p e s m below meth c s₁ hx hby hml hown hnm X0 e0 hret hlk hZ
  have N0 := Fr.nil n0
  rw [ef_aici m x]
  refine own_st (T' := s₁) (g' := (mkF m 1 #[rv x] [(.ref x)])) (fun _ k_ => XS.aloadN X0.here hx rfl (hb hby d30_0) rfl rfl  k_) ?_
  obtain ⟨_, T1, L1, X1, hQ1, st1⟩ := own_callI X0 hx (y := own_m6) rfl hown (mvT hZ (wd hw 196 rfl)) (mvT hZ (wd hw 56 rfl)) (mvT hZ (wd hw 60 rfl)) (by decide) (backOf (W := 0) (rm_abci l Z a0 hw [] x h0 n0 O0) hZ (wd hw 60 rfl) (wd hw 59 rfl) (by decide) (by decide)) (g := (mkF m 1 #[rv x] [(.ref x)])) rfl (by rw [hml]; rfl) (a := x) (argsL := []) (rest := []) (lenOf pd___V rfl) rfl (by show 2 * 0 + _ ≤ _; exact Nat.le_of_eq rfl) (hb hby d30_1) rfl e0 (by decide) (by decide) (c' := 0) (s' := 0) rfl rfl
  obtain ⟨rfl, Nq1, eq1⟩ := hQ1
  have N1 := Fr.app N0 Nq1
  refine own_st (T' := T1) (g' := (mkF m 4 #[rv x] [])) st1 ?_
  clear st1
  exact own_retV X1 hx hret hlk (hb hby d30_4) (by decide) (by decide) ⟨rfl, N1, eq1⟩
theorem d29_0 : decode jdk_46_method_1_code 0 = .ok (.aload_n 0, 1) := by decide +kernel
theorem d29_1 : decode jdk_46_method_1_code 1 = .ok (.invokespecial 1, 3) := by decide +kernel
theorem d29_4 : decode jdk_46_method_1_code 4 = .ok (.return_, 1) := by decide +kernel
theorem pn_7 : plainName "java/util/ImmutableCollections$AbstractImmutableList" = true := by first | (simp [plainName, overriddenIn]; done) | decide +kernel
theorem ef_aili (m : MethodId) (x0 : Addr) : entryFrame m #[(.ref x0)] 1 = mkF m 0 #[rv x0] [] := by first | (simp [entryFrame, mkF, argsToLocals, Value.category]; done) | rfl
def Q_aili (Z : State) (x : Addr) (h0 : Heap) (n0 : Nat) (v : Option Value) (h : Heap) (L : List Loc) : Prop := (v = none) ∧ (Fr n0 L) ∧ (h = h0)
set_option maxRecDepth 65536 in
set_option maxHeartbeats 40000000 in
theorem rm_aili (l : Launch) (Z : State) (a0 : Array Value) (hw : ∀ d ∈ tables_1, d.before a0 Z = true) (ws : List Jvm.Cond) (x : Addr) (h0 : Heap) (n0 : Nat) (O0 : Old Z n0 h0) :
    own_MF l own_m16 (Jvm.Cond.code own_m16 jdk_46_method_1_code 1 none :: ws) ({ frames := 3, cells := 0, slots := 0, locals := 36 } : Room) #[(.ref x)] Z h0 (Q_aili Z x h0 n0) := by
  refine own_met (own := "java/util/ImmutableCollections$AbstractImmutableList") (nme := "<init>") rfl rfl (plainFor_of_name pn_7) ?_
  intro p e s m below meth c s₁ hx hby hml hown hnm X0 e0 hret hlk hZ
  have N0 := Fr.nil n0
  rw [ef_aili m x]
  refine own_st (T' := s₁) (g' := (mkF m 1 #[rv x] [(.ref x)])) (fun _ k_ => XS.aloadN X0.here hx rfl (hb hby d29_0) rfl rfl  k_) ?_
  obtain ⟨_, T1, L1, X1, hQ1, st1⟩ := own_callI X0 hx (y := own_m15) rfl hown (mvT hZ (wd hw 190 rfl)) (mvT hZ (wd hw 191 rfl)) (mvT hZ (wd hw 195 rfl)) (by decide) (backOf (W := 0) (rm_aici l Z a0 hw [] x h0 n0 O0) hZ (wd hw 195 rfl) (wd hw 194 rfl) (by decide) (by decide)) (g := (mkF m 1 #[rv x] [(.ref x)])) rfl (by rw [hml]; rfl) (a := x) (argsL := []) (rest := []) (lenOf pd___V rfl) rfl (by show 2 * 0 + _ ≤ _; exact Nat.le_of_eq rfl) (hb hby d29_1) rfl e0 (by decide) (by decide) (c' := 0) (s' := 0) rfl rfl
  obtain ⟨rfl, Nq1, eq1⟩ := hQ1
  have N1 := Fr.app N0 Nq1
  refine own_st (T' := T1) (g' := (mkF m 4 #[rv x] [])) st1 ?_
  clear st1
  exact own_retV X1 hx hret hlk (hb hby d29_4) (by decide) (by decide) ⟨rfl, N1, eq1⟩
theorem d31_0 : decode jdk_31_method_10_code 0 = .ok (.aload_n 0, 1) := by decide +kernel
theorem d31_1 : decode jdk_31_method_10_code 1 = .ok (.ifnonnull 11, 3) := by decide +kernel
theorem d31_12 : decode jdk_31_method_10_code 12 = .ok (.aload_n 0, 1) := by decide +kernel
theorem d31_13 : decode jdk_31_method_10_code 13 = .ok (.areturn, 1) := by decide +kernel
theorem pn_8 : plainName "java/util/Objects" = true := by first | (simp [plainName, overriddenIn]; done) | decide +kernel
theorem ef_rnn (m : MethodId) (x0 : Addr) : entryFrame m #[(.ref x0)] 1 = mkF m 0 #[rv x0] [] := by first | (simp [entryFrame, mkF, argsToLocals, Value.category]; done) | rfl
def Q_rnn (Z : State) (x : Addr) (h0 : Heap) (n0 : Nat) (v : Option Value) (h : Heap) (L : List Loc) : Prop := (v = some (.ref x)) ∧ (Fr n0 L) ∧ (h = h0)
set_option maxRecDepth 65536 in
set_option maxHeartbeats 40000000 in
theorem rm_rnn (l : Launch) (Z : State) (a0 : Array Value) (hw : ∀ d ∈ tables_1, d.before a0 Z = true) (ws : List Jvm.Cond) (x : Addr) (h0 : Heap) (n0 : Nat) (O0 : Old Z n0 h0) :
    own_MF l own_m17 (Jvm.Cond.code own_m17 jdk_31_method_10_code 1 (some (.object "java/lang/Object")) :: ws) ({ frames := 0, cells := 0, slots := 0, locals := 0 } : Room) #[(.ref x)] Z h0 (Q_rnn Z x h0 n0) := by
  refine own_met (own := "java/util/Objects") (nme := "requireNonNull") rfl rfl (plainFor_of_name pn_8) ?_
  intro p e s m below meth c s₁ hx hby hml hown hnm X0 e0 hret hlk hZ
  have N0 := Fr.nil n0
  rw [ef_rnn m x]
  refine own_st (T' := s₁) (g' := (mkF m 1 #[rv x] [(.ref x)])) (fun _ k_ => XS.aloadN X0.here hx rfl (hb hby d31_0) rfl rfl  k_) ?_
  refine own_st (T' := s₁) (g' := (mkF m 12 #[rv x] [])) (fun _ k_ => XS.ifnonnullYes X0.here hx rfl (pc0 := 1) (pc' := 12) rfl (hb hby d31_1) rfl (by decide) (by decide) k_) ?_
  refine own_st (T' := s₁) (g' := (mkF m 13 #[rv x] [(.ref x)])) (fun _ k_ => XS.aloadN X0.here hx rfl (hb hby d31_12) rfl rfl  k_) ?_
  exact own_retA X0 hx hret rfl rfl hlk (hb hby d31_13) (by decide) (by decide) ⟨rfl, N0, e0⟩
theorem d26_0 : decode jdk_29_method_69_code 0 = .ok (.iload_n 0, 1) := by decide +kernel
theorem d26_1 : decode jdk_29_method_69_code 1 = .ok (.iload_n 1, 1) := by decide +kernel
theorem d26_2 : decode jdk_29_method_69_code 2 = .ok (.if_icmp .gt 7, 3) := by decide +kernel
theorem d26_9 : decode jdk_29_method_69_code 9 = .ok (.iload_n 1, 1) := by decide +kernel
theorem d26_10 : decode jdk_29_method_69_code 10 = .ok (.ireturn, 1) := by decide +kernel
theorem ef_min (m : MethodId) (x0 : Int32) (x1 : Int32) : entryFrame m #[(.int x0), (.int x1)] 2 = mkF m 0 #[iv x0, iv x1] [] := by first | (simp [entryFrame, mkF, argsToLocals, Value.category]; done) | rfl
def Q_min (Z : State) (xx : Int32) (yy : Int32) (h0 : Heap) (n0 : Nat) (v : Option Value) (h : Heap) (L : List Loc) : Prop := (v = some (.int yy)) ∧ (Fr n0 L) ∧ (h = h0)
set_option maxRecDepth 65536 in
set_option maxHeartbeats 40000000 in
theorem rm_min (l : Launch) (Z : State) (a0 : Array Value) (hw : ∀ d ∈ tables_1, d.before a0 Z = true) (ws : List Jvm.Cond) (xx : Int32) (yy : Int32) (h0 : Heap) (n0 : Nat) (O0 : Old Z n0 h0) (hmin : yy < xx) :
    own_MF l own_m18 (Jvm.Cond.code own_m18 jdk_29_method_69_code 2 (some .int) :: ws) ({ frames := 0, cells := 0, slots := 0, locals := 0 } : Room) #[(.int xx), (.int yy)] Z h0 (Q_min Z xx yy h0 n0) := by
  refine own_met (own := "java/lang/Math") (nme := "min") rfl rfl (Jvm.Free.JP.mathPlain rfl (by decide +kernel)) ?_
  intro p e s m below meth c s₁ hx hby hml hown hnm X0 e0 hret hlk hZ
  have N0 := Fr.nil n0
  rw [ef_min m xx yy]
  refine own_st (T' := s₁) (g' := (mkF m 1 #[iv xx, iv yy] [(.int xx)])) (fun _ k_ => XS.iloadN X0.here hx rfl (hb hby d26_0) rfl  k_) ?_
  refine own_st (T' := s₁) (g' := (mkF m 2 #[iv xx, iv yy] [(.int yy), (.int xx)])) (fun _ k_ => XS.iloadN X0.here hx rfl (hb hby d26_1) rfl  k_) ?_
  refine own_st (T' := s₁) (g' := (mkF m 9 #[iv xx, iv yy] [])) (fun _ k_ => XS.icmpYes X0.here hx rfl (pc0 := 2) (pc' := 9) rfl (hb hby d26_2) rfl (tlt (hmin : yy < xx)).2.2.1 (by decide) (by decide) k_) ?_
  refine own_st (T' := s₁) (g' := (mkF m 10 #[iv xx, iv yy] [(.int yy)])) (fun _ k_ => XS.iloadN X0.here hx rfl (hb hby d26_9) rfl  k_) ?_
  exact own_retI X0 hx hret hlk (hb hby d26_10) (by decide) (by decide) ⟨rfl, N0, e0⟩
theorem d22_0 : decode jdk_38_method_9_code 0 = .ok (.aload_n 0, 1) := by decide +kernel
theorem d22_1 : decode jdk_38_method_9_code 1 = .ok (.getfield 48, 3) := by decide +kernel
theorem d22_4 : decode jdk_38_method_9_code 4 = .ok (.ifCond .ne 7, 3) := by decide +kernel
theorem d22_11 : decode jdk_38_method_9_code 11 = .ok (.iconst 0, 1) := by decide +kernel
theorem d22_12 : decode jdk_38_method_9_code 12 = .ok (.ireturn, 1) := by decide +kernel
theorem ef_alem (m : MethodId) (x0 : Addr) : entryFrame m #[(.ref x0)] 1 = mkF m 0 #[rv x0] [] := by first | (simp [entryFrame, mkF, argsToLocals, Value.category]; done) | rfl
def Q_alem (Z : State) (a : Addr) (sz : Int32) (h0 : Heap) (n0 : Nat) (v : Option Value) (h : Heap) (L : List Loc) : Prop := (v = some (.int (0 : Int32))) ∧ (Fr n0 L) ∧ (h = h0)
set_option maxRecDepth 65536 in
set_option maxHeartbeats 40000000 in
theorem rm_alem (l : Launch) (Z : State) (a0 : Array Value) (hw : ∀ d ∈ tables_1, d.before a0 Z = true) (ws : List Jvm.Cond) (a : Addr) (sz : Int32) (h0 : Heap) (n0 : Nat) (O0 : Old Z n0 h0) (Fz : Fld Z h0 a "java/util/ArrayList" "size" "I" (.int sz)) (hz : ¬ sz = (0 : Int32)) :
    own_MF l own_m19 (Jvm.Cond.code own_m19 jdk_38_method_9_code 1 (some .boolean) :: ws) ({ frames := 0, cells := 0, slots := 0, locals := 0 } : Room) #[(.ref a)] Z h0 (Q_alem Z a sz h0 n0) := by
  refine own_met (own := "java/util/ArrayList") (nme := "isEmpty") rfl rfl (plainFor_of_name pn_5) ?_
  intro p e s m below meth c s₁ hx hby hml hown hnm X0 e0 hret hlk hZ
  have N0 := Fr.nil n0
  rw [ef_alem m a]
  refine own_st (T' := s₁) (g' := (mkF m 1 #[rv a] [(.ref a)])) (fun _ k_ => XS.aloadN X0.here hx rfl (hb hby d22_0) rfl rfl  k_) ?_
  obtain ⟨T1, X1, e1, st1⟩ := getF X0 hx hZ hown (host := "") (Or.inl (wd hw 74 rfl)) Via.refl e0 Fz (g := (mkF m 1 #[rv a] [(.ref a)])) rfl rfl (hb hby d22_1)
  refine own_st (T' := T1) (g' := (mkF m 4 #[rv a] [(.int sz)])) st1 ?_
  clear st1
  refine own_st (T' := T1) (g' := (mkF m 11 #[rv a] [])) (fun _ k_ => XS.ifYes X1.here hx rfl (pc0 := 4) (pc' := 11) rfl (hb hby d22_4) rfl ((if0 _ _).trans (feq (hz : ¬ (sz = (0 : Int32)))).2) (by decide) (by decide) k_) ?_
  refine own_st (T' := T1) (g' := (mkF m 12 #[rv a] [(.int (0 : Int32))])) (fun _ k_ => XS.iconst X1.here hx rfl (hb hby d22_11) k_) ?_
  exact own_retN X1 hx (t := .boolean) hret (by simp) hlk (hb hby d22_12) (by decide) (by decide) ⟨rfl, N0, e1⟩
theorem d28_0 : decode jdk_44_method_2_code 0 = .ok (.aload_n 0, 1) := by decide +kernel
theorem d28_1 : decode jdk_44_method_2_code 1 = .ok (.invokespecial 1, 3) := by decide +kernel
theorem d28_4 : decode jdk_44_method_2_code 4 = .ok (.aload_n 0, 1) := by decide +kernel
theorem d28_5 : decode jdk_44_method_2_code 5 = .ok (.aload_n 1, 1) := by decide +kernel
theorem d28_6 : decode jdk_44_method_2_code 6 = .ok (.invokestatic 7, 3) := by decide +kernel
theorem d28_9 : decode jdk_44_method_2_code 9 = .ok (.putfield 13, 3) := by decide +kernel
theorem d28_12 : decode jdk_44_method_2_code 12 = .ok (.aload_n 0, 1) := by decide +kernel
theorem d28_13 : decode jdk_44_method_2_code 13 = .ok (.aload_n 2, 1) := by decide +kernel
theorem d28_14 : decode jdk_44_method_2_code 14 = .ok (.invokestatic 7, 3) := by decide +kernel
theorem d28_17 : decode jdk_44_method_2_code 17 = .ok (.putfield 24, 3) := by decide +kernel
theorem d28_20 : decode jdk_44_method_2_code 20 = .ok (.return_, 1) := by decide +kernel
theorem pd__Ljava_lang_Object__Ljava_lang_Object_ : parseMethodDescriptor "(Ljava/lang/Object;)Ljava/lang/Object;" = some ⟨[(.object "java/lang/Object")], some (.object "java/lang/Object")⟩ := by decide +kernel
theorem pn_9 : plainName "java/util/ImmutableCollections$List12" = true := by first | (simp [plainName, overriddenIn]; done) | decide +kernel
theorem ef_l12b (m : MethodId) (x0 : Addr) (x1 : Addr) (x2 : Addr) : entryFrame m #[(.ref x0), (.ref x1), (.ref x2)] 3 = mkF m 0 #[rv x0, rv x1, rv x2] [] := by first | (simp [entryFrame, mkF, argsToLocals, Value.category]; done) | rfl
def Q_l12b (Z : State) (x : Addr) (p0 : Addr) (p1 : Addr) (h0 : Heap) (n0 : Nat) (v : Option Value) (h : Heap) (L : List Loc) : Prop := (v = none) ∧ (Fr n0 L) ∧ (Keep h0 h [x]) ∧ (Exa Z h x "java/util/ImmutableCollections$List12") ∧ (Fld Z h x "java/util/ImmutableCollections$List12" "e0" "Ljava/lang/Object;" (.ref p0)) ∧ (Fld Z h x "java/util/ImmutableCollections$List12" "e1" "Ljava/lang/Object;" (.ref p1))
set_option maxRecDepth 65536 in
set_option maxHeartbeats 40000000 in
theorem rm_l12b (l : Launch) (Z : State) (a0 : Array Value) (hw : ∀ d ∈ tables_1, d.before a0 Z = true) (ws : List Jvm.Cond) (x : Addr) (p0 : Addr) (p1 : Addr) (h0 : Heap) (n0 : Nat) (O0 : Old Z n0 h0) (P0 : Exa Z h0 x "java/util/ImmutableCollections$List12") (P1 : Fld Z h0 x "java/util/ImmutableCollections$List12" "e0" "Ljava/lang/Object;" .null) (P2 : Fld Z h0 x "java/util/ImmutableCollections$List12" "e1" "Ljava/lang/Object;" .null) (fx : n0 ≤ x) :
    own_MF l own_m20 (Jvm.Cond.code own_m20 jdk_44_method_2_code 3 none :: ws) ({ frames := 4, cells := 0, slots := 0, locals := 48 } : Room) #[(.ref x), (.ref p0), (.ref p1)] Z h0 (Q_l12b Z x p0 p1 h0 n0) := by
  refine own_met (own := "java/util/ImmutableCollections$List12") (nme := "<init>") rfl rfl (plainFor_of_name pn_9) ?_
  intro p e s m below meth c s₁ hx hby hml hown hnm X0 e0 hret hlk hZ
  have N0 := Fr.nil n0
  rw [ef_l12b m x p0 p1]
  refine own_st (T' := s₁) (g' := (mkF m 1 #[rv x, rv p0, rv p1] [(.ref x)])) (fun _ k_ => XS.aloadN X0.here hx rfl (hb hby d28_0) rfl rfl  k_) ?_
  obtain ⟨_, T1, L1, X1, hQ1, st1⟩ := own_callI X0 hx (y := own_m16) rfl hown (mvT hZ (wd hw 184 rfl)) (mvT hZ (wd hw 185 rfl)) (mvT hZ (wd hw 189 rfl)) (by decide) (backOf (W := 0) (rm_aili l Z a0 hw [] x h0 n0 O0) hZ (wd hw 189 rfl) (wd hw 188 rfl) (by decide) (by decide)) (g := (mkF m 1 #[rv x, rv p0, rv p1] [(.ref x)])) rfl (by rw [hml]; rfl) (a := x) (argsL := []) (rest := []) (lenOf pd___V rfl) rfl (by show 2 * 0 + _ ≤ _; exact Nat.le_of_eq rfl) (hb hby d28_1) rfl e0 (by decide) (by decide) (c' := 0) (s' := 0) rfl rfl
  obtain ⟨rfl, Nq1, eq1⟩ := hQ1
  have N1 := Fr.app N0 Nq1
  refine own_st (T' := T1) (g' := (mkF m 4 #[rv x, rv p0, rv p1] [])) st1 ?_
  clear st1
  refine own_st (T' := T1) (g' := (mkF m 5 #[rv x, rv p0, rv p1] [(.ref x)])) (fun _ k_ => XS.aloadN X1.here hx rfl (hb hby d28_4) rfl rfl  k_) ?_
  refine own_st (T' := T1) (g' := (mkF m 6 #[rv x, rv p0, rv p1] [(.ref p0), (.ref x)])) (fun _ k_ => XS.aloadN X1.here hx rfl (hb hby d28_5) rfl rfl  k_) ?_
  obtain ⟨_, T2, L2, X2, hQ2, st2⟩ := own_callS X1 hx (y := own_m17) hown (mvT hZ (wd hw 198 rfl)) (mvT hZ (wd hw 199 rfl)) (mvT hZ (wd hw 200 rfl)) (mvT hZ (wd hw 201 rfl)) (by decide) (backOf (W := 1) (rm_rnn l Z a0 hw [] p0 h0 n0 O0) hZ (wd hw 201 rfl) (wd hw 200 rfl) (by decide) (by decide)) (g := (mkF m 6 #[rv x, rv p0, rv p1] [(.ref p0), (.ref x)])) rfl (by rw [hml]; rfl) (argsL := [(.ref p0)]) (rest := [(.ref x)]) (lenOf pd__Ljava_lang_Object__Ljava_lang_Object_ rfl) rfl (by show 2 * 0 + _ ≤ _; exact Nat.le_of_eq rfl) (hb hby d28_6) rfl eq1 (by decide) (by decide) (c' := 0) (s' := 0) rfl rfl
  obtain ⟨rfl, Nq2, eq2⟩ := hQ2
  have N2 := Fr.app N1 Nq2
  refine own_st (T' := T2) (g' := (mkF m 9 #[rv x, rv p0, rv p1] [(.ref p0), (.ref x)])) st2 ?_
  clear st2
  obtain ⟨T3, h3, X3, e3, W3, st3⟩ := putF X2 hx hZ hown (host := "") (Or.inl (wd hw 202 rfl)) Via.refl eq2 P1 P0 (Or.inr ⟨(wd hw 203 rfl), rfl, hnm⟩) (wd hw 178 rfl) (ty := (.object "java/lang/Object")) (by decide) rfl rfl (g := (mkF m 9 #[rv x, rv p0, rv p1] [(.ref p0), (.ref x)])) rfl rfl (hb hby d28_9)
  have Fw3 : Fld Z h3 x "java/util/ImmutableCollections$List12" "e0" "Ljava/lang/Object;" (.ref p0) := Fld.same W3 P1
  have N3 := Fr.snoc X3 N2 fx
  refine own_st (T' := T3) (g' := (mkF m 12 #[rv x, rv p0, rv p1] [])) st3 ?_
  clear st3
  refine own_st (T' := T3) (g' := (mkF m 13 #[rv x, rv p0, rv p1] [(.ref x)])) (fun _ k_ => XS.aloadN X3.here hx rfl (hb hby d28_12) rfl rfl  k_) ?_
  refine own_st (T' := T3) (g' := (mkF m 14 #[rv x, rv p0, rv p1] [(.ref p1), (.ref x)])) (fun _ k_ => XS.aloadN X3.here hx rfl (hb hby d28_13) rfl rfl  k_) ?_
  have f4 := O0.wr W3 fx
  obtain ⟨_, T5, L5, X5, hQ5, st5⟩ := own_callS X3 hx (y := own_m17) hown (mvT hZ (wd hw 198 rfl)) (mvT hZ (wd hw 199 rfl)) (mvT hZ (wd hw 200 rfl)) (mvT hZ (wd hw 201 rfl)) (by decide) (backOf (W := 1) (rm_rnn l Z a0 hw [] p1 h3 n0 f4) hZ (wd hw 201 rfl) (wd hw 200 rfl) (by decide) (by decide)) (g := (mkF m 14 #[rv x, rv p0, rv p1] [(.ref p1), (.ref x)])) rfl (by rw [hml]; rfl) (argsL := [(.ref p1)]) (rest := [(.ref x)]) (lenOf pd__Ljava_lang_Object__Ljava_lang_Object_ rfl) rfl (by show 2 * 0 + _ ≤ _; exact Nat.le_of_eq rfl) (hb hby d28_14) rfl e3 (by decide) (by decide) (c' := 0) (s' := 0) rfl rfl
  obtain ⟨rfl, Nq5, eq5⟩ := hQ5
  have N5 := Fr.app N3 Nq5
  refine own_st (T' := T5) (g' := (mkF m 17 #[rv x, rv p0, rv p1] [(.ref p1), (.ref x)])) st5 ?_
  clear st5
  have f6 := P0.wr W3
  have f7 := P2.other W3 (Or.inr (slot_ne (Or.inr (wd hw 205 rfl)) (Or.inr (wd hw 203 rfl)) (by decide) (t := (.object "java/lang/Object")) (t' := (.object "java/lang/Object")) (by decide) (by decide)))
  obtain ⟨T8, h8, X8, e8, W8, st8⟩ := putF X5 hx hZ hown (host := "") (Or.inl (wd hw 204 rfl)) Via.refl eq5 f7 f6 (Or.inr ⟨(wd hw 205 rfl), rfl, hnm⟩) (wd hw 178 rfl) (ty := (.object "java/lang/Object")) (by decide) rfl rfl (g := (mkF m 17 #[rv x, rv p0, rv p1] [(.ref p1), (.ref x)])) rfl rfl (hb hby d28_17)
  have Fw8 : Fld Z h8 x "java/util/ImmutableCollections$List12" "e1" "Ljava/lang/Object;" (.ref p1) := Fld.same W8 f7
  have N8 := Fr.snoc X8 N5 fx
  refine own_st (T' := T8) (g' := (mkF m 20 #[rv x, rv p0, rv p1] [])) st8 ?_
  clear st8
  have f9 := (Keep.refl h0 [x]).wr W3 (Or.inl (List.mem_of_getElem? (i := 0) rfl))
  have f10 := f9.wr W8 (Or.inl (List.mem_of_getElem? (i := 0) rfl))
  have f11 := f6.wr W8
  have f12 := Fw3.other W8 (Or.inr (slot_ne (Or.inr (wd hw 203 rfl)) (Or.inr (wd hw 205 rfl)) (by decide) (t := (.object "java/lang/Object")) (t' := (.object "java/lang/Object")) (by decide) (by decide)))
  exact own_retV X8 hx hret hlk (hb hby d28_20) (by decide) (by decide) (by rw [e8]; exact ⟨rfl, N8, f10, f11, f12, Fw8⟩)
theorem d32_0 : decode jdk_44_method_1_code 0 = .ok (.aload_n 0, 1) := by decide +kernel
theorem d32_1 : decode jdk_44_method_1_code 1 = .ok (.invokespecial 1, 3) := by decide +kernel
theorem d32_4 : decode jdk_44_method_1_code 4 = .ok (.aload_n 0, 1) := by decide +kernel
theorem d32_5 : decode jdk_44_method_1_code 5 = .ok (.aload_n 1, 1) := by decide +kernel
theorem d32_6 : decode jdk_44_method_1_code 6 = .ok (.invokestatic 7, 3) := by decide +kernel
theorem d32_9 : decode jdk_44_method_1_code 9 = .ok (.putfield 13, 3) := by decide +kernel
theorem d32_12 : decode jdk_44_method_1_code 12 = .ok (.aload_n 0, 1) := by decide +kernel
theorem d32_13 : decode jdk_44_method_1_code 13 = .ok (.getstatic 19, 3) := by decide +kernel
theorem d32_16 : decode jdk_44_method_1_code 16 = .ok (.putfield 24, 3) := by decide +kernel
theorem d32_19 : decode jdk_44_method_1_code 19 = .ok (.return_, 1) := by decide +kernel
theorem ef_l12a (m : MethodId) (x0 : Addr) (x1 : Addr) : entryFrame m #[(.ref x0), (.ref x1)] 2 = mkF m 0 #[rv x0, rv x1] [] := by first | (simp [entryFrame, mkF, argsToLocals, Value.category]; done) | rfl
def Q_l12a (Z : State) (x : Addr) (p0 : Addr) (em : Addr) (h0 : Heap) (n0 : Nat) (v : Option Value) (h : Heap) (L : List Loc) : Prop := (v = none) ∧ (Fr n0 L) ∧ (Keep h0 h [x]) ∧ (Exa Z h x "java/util/ImmutableCollections$List12") ∧ (Fld Z h x "java/util/ImmutableCollections$List12" "e0" "Ljava/lang/Object;" (.ref p0)) ∧ (Fld Z h x "java/util/ImmutableCollections$List12" "e1" "Ljava/lang/Object;" (.ref em))
set_option maxRecDepth 65536 in
set_option maxHeartbeats 40000000 in
theorem rm_l12a (l : Launch) (Z : State) (a0 : Array Value) (hw : ∀ d ∈ tables_1, d.before a0 Z = true) (ws : List Jvm.Cond) (x : Addr) (p0 : Addr) (em : Addr) (h0 : Heap) (n0 : Nat) (O0 : Old Z n0 h0) (P0 : Exa Z h0 x "java/util/ImmutableCollections$List12") (P1 : Fld Z h0 x "java/util/ImmutableCollections$List12" "e0" "Ljava/lang/Object;" .null) (P2 : Fld Z h0 x "java/util/ImmutableCollections$List12" "e1" "Ljava/lang/Object;" .null) (fx : n0 ≤ x) (SEm : Sta Z Z.heap "java/util/ImmutableCollections" "EMPTY" "Ljava/lang/Object;" (.ref em)) :
    own_MF l own_m21 (Jvm.Cond.code own_m21 jdk_44_method_1_code 2 none :: ws) ({ frames := 4, cells := 0, slots := 0, locals := 48 } : Room) #[(.ref x), (.ref p0)] Z h0 (Q_l12a Z x p0 em h0 n0) := by
  refine own_met (own := "java/util/ImmutableCollections$List12") (nme := "<init>") rfl rfl (plainFor_of_name pn_9) ?_
  intro p e s m below meth c s₁ hx hby hml hown hnm X0 e0 hret hlk hZ
  have N0 := Fr.nil n0
  rw [ef_l12a m x p0]
  refine own_st (T' := s₁) (g' := (mkF m 1 #[rv x, rv p0] [(.ref x)])) (fun _ k_ => XS.aloadN X0.here hx rfl (hb hby d32_0) rfl rfl  k_) ?_
  obtain ⟨_, T1, L1, X1, hQ1, st1⟩ := own_callI X0 hx (y := own_m16) rfl hown (mvT hZ (wd hw 184 rfl)) (mvT hZ (wd hw 185 rfl)) (mvT hZ (wd hw 189 rfl)) (by decide) (backOf (W := 0) (rm_aili l Z a0 hw [] x h0 n0 O0) hZ (wd hw 189 rfl) (wd hw 188 rfl) (by decide) (by decide)) (g := (mkF m 1 #[rv x, rv p0] [(.ref x)])) rfl (by rw [hml]; rfl) (a := x) (argsL := []) (rest := []) (lenOf pd___V rfl) rfl (by show 2 * 0 + _ ≤ _; exact Nat.le_of_eq rfl) (hb hby d32_1) rfl e0 (by decide) (by decide) (c' := 0) (s' := 0) rfl rfl
  obtain ⟨rfl, Nq1, eq1⟩ := hQ1
  have N1 := Fr.app N0 Nq1
  refine own_st (T' := T1) (g' := (mkF m 4 #[rv x, rv p0] [])) st1 ?_
  clear st1
  refine own_st (T' := T1) (g' := (mkF m 5 #[rv x, rv p0] [(.ref x)])) (fun _ k_ => XS.aloadN X1.here hx rfl (hb hby d32_4) rfl rfl  k_) ?_
  refine own_st (T' := T1) (g' := (mkF m 6 #[rv x, rv p0] [(.ref p0), (.ref x)])) (fun _ k_ => XS.aloadN X1.here hx rfl (hb hby d32_5) rfl rfl  k_) ?_
  obtain ⟨_, T2, L2, X2, hQ2, st2⟩ := own_callS X1 hx (y := own_m17) hown (mvT hZ (wd hw 198 rfl)) (mvT hZ (wd hw 199 rfl)) (mvT hZ (wd hw 200 rfl)) (mvT hZ (wd hw 201 rfl)) (by decide) (backOf (W := 1) (rm_rnn l Z a0 hw [] p0 h0 n0 O0) hZ (wd hw 201 rfl) (wd hw 200 rfl) (by decide) (by decide)) (g := (mkF m 6 #[rv x, rv p0] [(.ref p0), (.ref x)])) rfl (by rw [hml]; rfl) (argsL := [(.ref p0)]) (rest := [(.ref x)]) (lenOf pd__Ljava_lang_Object__Ljava_lang_Object_ rfl) rfl (by show 2 * 0 + _ ≤ _; exact Nat.le_of_eq rfl) (hb hby d32_6) rfl eq1 (by decide) (by decide) (c' := 0) (s' := 0) rfl rfl
  obtain ⟨rfl, Nq2, eq2⟩ := hQ2
  have N2 := Fr.app N1 Nq2
  refine own_st (T' := T2) (g' := (mkF m 9 #[rv x, rv p0] [(.ref p0), (.ref x)])) st2 ?_
  clear st2
  obtain ⟨T3, h3, X3, e3, W3, st3⟩ := putF X2 hx hZ hown (host := "") (Or.inl (wd hw 202 rfl)) Via.refl eq2 P1 P0 (Or.inr ⟨(wd hw 203 rfl), rfl, hnm⟩) (wd hw 178 rfl) (ty := (.object "java/lang/Object")) (by decide) rfl rfl (g := (mkF m 9 #[rv x, rv p0] [(.ref p0), (.ref x)])) rfl rfl (hb hby d32_9)
  have Fw3 : Fld Z h3 x "java/util/ImmutableCollections$List12" "e0" "Ljava/lang/Object;" (.ref p0) := Fld.same W3 P1
  have N3 := Fr.snoc X3 N2 fx
  refine own_st (T' := T3) (g' := (mkF m 12 #[rv x, rv p0] [])) st3 ?_
  clear st3
  refine own_st (T' := T3) (g' := (mkF m 13 #[rv x, rv p0] [(.ref x)])) (fun _ k_ => XS.aloadN X3.here hx rfl (hb hby d32_12) rfl rfl  k_) ?_
  have f4 := O0.wr W3 fx
  obtain ⟨T5, X5, e5, st5⟩ := getS2 X3 hx hZ hown (Or.inr (wd hw 211 rfl)) Via.refl e3 (SEm.ext f4.2) (g := (mkF m 13 #[rv x, rv p0] [(.ref x)])) rfl (hb hby d32_13)
  refine own_st (T' := T5) (g' := (mkF m 16 #[rv x, rv p0] [(.ref em), (.ref x)])) st5 ?_
  clear st5
  have f6 := P0.wr W3
  have f7 := P2.other W3 (Or.inr (slot_ne (Or.inr (wd hw 205 rfl)) (Or.inr (wd hw 203 rfl)) (by decide) (t := (.object "java/lang/Object")) (t' := (.object "java/lang/Object")) (by decide) (by decide)))
  obtain ⟨T8, h8, X8, e8, W8, st8⟩ := putF X5 hx hZ hown (host := "") (Or.inl (wd hw 204 rfl)) Via.refl e5 f7 f6 (Or.inr ⟨(wd hw 205 rfl), rfl, hnm⟩) (wd hw 178 rfl) (ty := (.object "java/lang/Object")) (by decide) rfl rfl (g := (mkF m 16 #[rv x, rv p0] [(.ref em), (.ref x)])) rfl rfl (hb hby d32_16)
  have Fw8 : Fld Z h8 x "java/util/ImmutableCollections$List12" "e1" "Ljava/lang/Object;" (.ref em) := Fld.same W8 f7
  have N8 := Fr.snoc X8 N3 fx
  refine own_st (T' := T8) (g' := (mkF m 19 #[rv x, rv p0] [])) st8 ?_
  clear st8
  have f9 := (Keep.refl h0 [x]).wr W3 (Or.inl (List.mem_of_getElem? (i := 0) rfl))
  have f10 := f9.wr W8 (Or.inl (List.mem_of_getElem? (i := 0) rfl))
  have f11 := f6.wr W8
  have f12 := Fw3.other W8 (Or.inr (slot_ne (Or.inr (wd hw 203 rfl)) (Or.inr (wd hw 205 rfl)) (by decide) (t := (.object "java/lang/Object")) (t' := (.object "java/lang/Object")) (by decide) (by decide)))
  exact own_retV X8 hx hret hlk (hb hby d32_19) (by decide) (by decide) (by rw [e8]; exact ⟨rfl, N8, f10, f11, f12, Fw8⟩)
theorem d38_0 : decode jdk_45_method_1_code 0 = .ok (.aload_n 0, 1) := by decide +kernel
theorem d38_1 : decode jdk_45_method_1_code 1 = .ok (.invokespecial 1, 3) := by decide +kernel
theorem d38_4 : decode jdk_45_method_1_code 4 = .ok (.aload_n 0, 1) := by decide +kernel
theorem d38_5 : decode jdk_45_method_1_code 5 = .ok (.aload_n 1, 1) := by decide +kernel
theorem d38_6 : decode jdk_45_method_1_code 6 = .ok (.putfield 7, 3) := by decide +kernel
theorem d38_9 : decode jdk_45_method_1_code 9 = .ok (.aload_n 0, 1) := by decide +kernel
theorem d38_10 : decode jdk_45_method_1_code 10 = .ok (.iload_n 2, 1) := by decide +kernel
theorem d38_11 : decode jdk_45_method_1_code 11 = .ok (.putfield 13, 3) := by decide +kernel
theorem d38_14 : decode jdk_45_method_1_code 14 = .ok (.return_, 1) := by decide +kernel
theorem pn_10 : plainName "java/util/ImmutableCollections$ListN" = true := by first | (simp [plainName, overriddenIn]; done) | decide +kernel
theorem ef_lni (m : MethodId) (x0 : Addr) (x1 : Addr) (x2 : Int32) : entryFrame m #[(.ref x0), (.ref x1), (.int x2)] 3 = mkF m 0 #[rv x0, rv x1, iv x2] [] := by first | (simp [entryFrame, mkF, argsToLocals, Value.category]; done) | rfl
def Q_lni (Z : State) (x : Addr) (u : Addr) (h0 : Heap) (n0 : Nat) (v : Option Value) (h : Heap) (L : List Loc) : Prop := (v = none) ∧ (Fr n0 L) ∧ (Keep h0 h [x]) ∧ (Exa Z h x "java/util/ImmutableCollections$ListN") ∧ (Fld Z h x "java/util/ImmutableCollections$ListN" "elements" "[Ljava/lang/Object;" (.ref u)) ∧ (Fld Z h x "java/util/ImmutableCollections$ListN" "allowNulls" "Z" (.int (0 : Int32)))
set_option maxRecDepth 65536 in
set_option maxHeartbeats 40000000 in
theorem rm_lni (l : Launch) (Z : State) (a0 : Array Value) (hw : ∀ d ∈ tables_1, d.before a0 Z = true) (ws : List Jvm.Cond) (x : Addr) (u : Addr) (h0 : Heap) (n0 : Nat) (O0 : Old Z n0 h0) (P0 : Exa Z h0 x "java/util/ImmutableCollections$ListN") (P1 : Fld Z h0 x "java/util/ImmutableCollections$ListN" "elements" "[Ljava/lang/Object;" .null) (P2 : Fld Z h0 x "java/util/ImmutableCollections$ListN" "allowNulls" "Z" (.int (0 : Int32))) (fx : n0 ≤ x) :
    own_MF l own_m22 (Jvm.Cond.code own_m22 jdk_45_method_1_code 3 none :: ws) ({ frames := 4, cells := 0, slots := 0, locals := 48 } : Room) #[(.ref x), (.ref u), (.int (0 : Int32))] Z h0 (Q_lni Z x u h0 n0) := by
  refine own_met (own := "java/util/ImmutableCollections$ListN") (nme := "<init>") rfl rfl (plainFor_of_name pn_10) ?_
  intro p e s m below meth c s₁ hx hby hml hown hnm X0 e0 hret hlk hZ
  have N0 := Fr.nil n0
  rw [ef_lni m x u (0 : Int32)]
  refine own_st (T' := s₁) (g' := (mkF m 1 #[rv x, rv u, iv (0 : Int32)] [(.ref x)])) (fun _ k_ => XS.aloadN X0.here hx rfl (hb hby d38_0) rfl rfl  k_) ?_
  obtain ⟨_, T1, L1, X1, hQ1, st1⟩ := own_callI X0 hx (y := own_m16) rfl hown (mvT hZ (wd hw 256 rfl)) (mvT hZ (wd hw 185 rfl)) (mvT hZ (wd hw 189 rfl)) (by decide) (backOf (W := 0) (rm_aili l Z a0 hw [] x h0 n0 O0) hZ (wd hw 189 rfl) (wd hw 188 rfl) (by decide) (by decide)) (g := (mkF m 1 #[rv x, rv u, iv (0 : Int32)] [(.ref x)])) rfl (by rw [hml]; rfl) (a := x) (argsL := []) (rest := []) (lenOf pd___V rfl) rfl (by show 2 * 0 + _ ≤ _; exact Nat.le_of_eq rfl) (hb hby d38_1) rfl e0 (by decide) (by decide) (c' := 0) (s' := 0) rfl rfl
  obtain ⟨rfl, Nq1, eq1⟩ := hQ1
  have N1 := Fr.app N0 Nq1
  refine own_st (T' := T1) (g' := (mkF m 4 #[rv x, rv u, iv (0 : Int32)] [])) st1 ?_
  clear st1
  refine own_st (T' := T1) (g' := (mkF m 5 #[rv x, rv u, iv (0 : Int32)] [(.ref x)])) (fun _ k_ => XS.aloadN X1.here hx rfl (hb hby d38_4) rfl rfl  k_) ?_
  refine own_st (T' := T1) (g' := (mkF m 6 #[rv x, rv u, iv (0 : Int32)] [(.ref u), (.ref x)])) (fun _ k_ => XS.aloadN X1.here hx rfl (hb hby d38_5) rfl rfl  k_) ?_
  obtain ⟨T2, h2, X2, e2, W2, st2⟩ := putF X1 hx hZ hown (host := "") (Or.inl (wd hw 260 rfl)) Via.refl eq1 P1 P0 (Or.inr ⟨(wd hw 261 rfl), rfl, hnm⟩) (wd hw 250 rfl) (ty := (.array (.object "java/lang/Object"))) (by decide) rfl rfl (g := (mkF m 6 #[rv x, rv u, iv (0 : Int32)] [(.ref u), (.ref x)])) rfl rfl (hb hby d38_6)
  have Fw2 : Fld Z h2 x "java/util/ImmutableCollections$ListN" "elements" "[Ljava/lang/Object;" (.ref u) := Fld.same W2 P1
  have N2 := Fr.snoc X2 N1 fx
  refine own_st (T' := T2) (g' := (mkF m 9 #[rv x, rv u, iv (0 : Int32)] [])) st2 ?_
  clear st2
  refine own_st (T' := T2) (g' := (mkF m 10 #[rv x, rv u, iv (0 : Int32)] [(.ref x)])) (fun _ k_ => XS.aloadN X2.here hx rfl (hb hby d38_9) rfl rfl  k_) ?_
  refine own_st (T' := T2) (g' := (mkF m 11 #[rv x, rv u, iv (0 : Int32)] [(.int (0 : Int32)), (.ref x)])) (fun _ k_ => XS.iloadN X2.here hx rfl (hb hby d38_10) rfl  k_) ?_
  have f3 := P0.wr W2
  have f4 := P2.other W2 (Or.inr (slot_ne (Or.inr (wd hw 263 rfl)) (Or.inr (wd hw 261 rfl)) (by decide) (t := .boolean) (t' := (.array (.object "java/lang/Object"))) (by decide) (by decide)))
  obtain ⟨T5, h5, X5, e5, W5, st5⟩ := putFN X2 hx hZ hown (wd hw 262 rfl) Via.refl e2 f4 f3 (Or.inr ⟨(wd hw 263 rfl), rfl, hnm⟩) (wd hw 250 rfl) (ty := .boolean) (v' := (.int (0 : Int32))) (by decide) rfl (by decide) (g := (mkF m 11 #[rv x, rv u, iv (0 : Int32)] [(.int (0 : Int32)), (.ref x)])) rfl rfl (hb hby d38_11)
  have Fw5 : Fld Z h5 x "java/util/ImmutableCollections$ListN" "allowNulls" "Z" (.int (0 : Int32)) := Fld.same W5 f4
  have N5 := Fr.snoc X5 N2 fx
  refine own_st (T' := T5) (g' := (mkF m 14 #[rv x, rv u, iv (0 : Int32)] [])) st5 ?_
  clear st5
  have f6 := (Keep.refl h0 [x]).wr W2 (Or.inl (List.mem_of_getElem? (i := 0) rfl))
  have f7 := f6.wr W5 (Or.inl (List.mem_of_getElem? (i := 0) rfl))
  have f8 := f3.wr W5
  have f9 := Fw2.other W5 (Or.inr (slot_ne (Or.inr (wd hw 261 rfl)) (Or.inr (wd hw 263 rfl)) (by decide) (t := (.array (.object "java/lang/Object"))) (t' := .boolean) (by decide) (by decide)))
  exact own_retV X5 hx hret hlk (hb hby d38_14) (by decide) (by decide) (by rw [e5]; exact ⟨rfl, N5, f7, f8, f9, Fw5⟩)
theorem d25_0 : decode jdk_65_method_120_code 0 = .ok (.aload_n 2, 1) := by decide +kernel
theorem d25_1 : decode jdk_65_method_120_code 1 = .ok (.ldc 110, 2) := by decide +kernel
theorem d25_3 : decode jdk_65_method_120_code 3 = .ok (.if_acmp .ne 10, 3) := by decide +kernel
theorem d25_6 : decode jdk_65_method_120_code 6 = .ok (.iload_n 1, 1) := by decide +kernel
theorem d25_7 : decode jdk_65_method_120_code 7 = .ok (.anewarray 2, 3) := by decide +kernel
theorem d25_10 : decode jdk_65_method_120_code 10 = .ok (.goto 14, 3) := by decide +kernel
theorem d25_24 : decode jdk_65_method_120_code 24 = .ok (.astore_n 3, 1) := by decide +kernel
theorem d25_25 : decode jdk_65_method_120_code 25 = .ok (.aload_n 0, 1) := by decide +kernel
theorem d25_26 : decode jdk_65_method_120_code 26 = .ok (.iconst 0, 1) := by decide +kernel
theorem d25_27 : decode jdk_65_method_120_code 27 = .ok (.aload_n 3, 1) := by decide +kernel
theorem d25_28 : decode jdk_65_method_120_code 28 = .ok (.iconst 0, 1) := by decide +kernel
theorem d25_29 : decode jdk_65_method_120_code 29 = .ok (.aload_n 0, 1) := by decide +kernel
theorem d25_30 : decode jdk_65_method_120_code 30 = .ok (.arraylength, 1) := by decide +kernel
theorem d25_31 : decode jdk_65_method_120_code 31 = .ok (.iload_n 1, 1) := by decide +kernel
theorem d25_32 : decode jdk_65_method_120_code 32 = .ok (.invokestatic 304, 3) := by decide +kernel
theorem d25_35 : decode jdk_65_method_120_code 35 = .ok (.invokestatic 150, 3) := by decide +kernel
theorem d25_38 : decode jdk_65_method_120_code 38 = .ok (.aload_n 3, 1) := by decide +kernel
theorem d25_39 : decode jdk_65_method_120_code 39 = .ok (.areturn, 1) := by decide +kernel
theorem pn_11 : plainName "java/util/Arrays" = true := by first | (simp [plainName, overriddenIn]; done) | decide +kernel
theorem ef_cp3_1 (m : MethodId) (x0 : Addr) (x1 : Int32) (x2 : Addr) : entryFrame m #[(.ref x0), (.int x1), (.ref x2)] 4 = mkF m 0 #[rv x0, iv x1, rv x2, .unset] [] := by first | (simp [entryFrame, mkF, argsToLocals, Value.category]; done) | rfl
def Q_cp3_1 (Z : State) (t : Addr) (kO : ClassId) (mir : Addr) (y0 : Addr) (h0 : Heap) (n0 : Nat) (v : Option Value) (h : Heap) (L : List Loc) : Prop := ∃ (u : Addr), (v = some (.ref u)) ∧ (Fr n0 L) ∧ (Keep h0 h []) ∧ (Arv Z h u kO (.object "java/lang/Object") (1 : Int32) [(.ref y0)] .null) ∧ (h0.size ≤ u)
set_option maxRecDepth 65536 in
set_option maxHeartbeats 40000000 in
theorem rm_cp3_1 (l : Launch) (Z : State) (a0 : Array Value) (hw : ∀ d ∈ tables_1, d.before a0 Z = true) (ws : List Jvm.Cond) (t : Addr) (kO : ClassId) (mir : Addr) (y0 : Addr) (h0 : Heap) (n0 : Nat) (O0 : Old Z n0 h0) (V_t : Arv Z h0 t kO (.object "java/lang/Object") (10 : Int32) [(.ref y0), .null, .null, .null, .null, .null, .null, .null, .null, .null] .null) (OV : Ovr Z kO "java/lang/Object") (FC : Z.vm.findClass "[Ljava/lang/Object;" = some kO) (MIR : own_Mir Z "[Ljava/lang/Object;" mir) (I_y0 : Ins Z h0 y0 "java/lang/Object" true) :
    own_MF l own_m23 (Jvm.Cond.code own_m23 jdk_65_method_120_code 4 (some (.array (.object "java/lang/Object"))) :: ws) ({ frames := 1, cells := 1, slots := 1, locals := 40 } : Room) #[(.ref t), (.int (1 : Int32)), (.ref mir)] Z h0 (Q_cp3_1 Z t kO mir y0 h0 n0) := by
  refine own_met (own := "java/util/Arrays") (nme := "copyOf") rfl rfl (plainFor_of_name pn_11) ?_
  intro p e s m below meth c s₁ hx hby hml hown hnm X0 e0 hret hlk hZ
  have N0 := Fr.nil n0
  rw [ef_cp3_1 m t (1 : Int32) mir]
  refine own_st (T' := s₁) (g' := (mkF m 1 #[rv t, iv (1 : Int32), rv mir, .unset] [(.ref mir)])) (fun _ k_ => XS.aloadN X0.here hx rfl (hb hby d25_0) rfl rfl  k_) ?_
  obtain ⟨T1, X1, e1, st1⟩ := own_ldk X0 hx hZ hown (wd hw 165 rfl) e0 MIR (g := (mkF m 1 #[rv t, iv (1 : Int32), rv mir, .unset] [(.ref mir)])) rfl (hb hby d25_1)
  refine own_st (T' := T1) (g' := (mkF m 3 #[rv t, iv (1 : Int32), rv mir, .unset] [(.ref mir), (.ref mir)])) st1 ?_
  clear st1
  refine own_st (T' := T1) (g' := (mkF m 6 #[rv t, iv (1 : Int32), rv mir, .unset] [])) (fun _ k_ => Jvm.RoadKit.acmp (g := (mkF m 3 #[rv t, iv (1 : Int32), rv mir, .unset] [(.ref mir), (.ref mir)])) X1 hx rfl rfl rfl (pc0 := 3) (pc' := 6) (same := true) rfl (hb hby d25_3) rfl (decide_eq_true rfl) (by decide) (by decide) k_) ?_
  refine own_st (T' := T1) (g' := (mkF m 7 #[rv t, iv (1 : Int32), rv mir, .unset] [(.int (1 : Int32))])) (fun _ k_ => XS.iloadN X1.here hx rfl (hb hby d25_6) rfl  k_) ?_
  obtain ⟨T2, h2, k2, X2, e2, E2, A2, EX2, O2, st2⟩ := newRE X1 hx hZ hown (wd hw 166 rfl) (wd hw 96 rfl) e1 (g := (mkF m 7 #[rv t, iv (1 : Int32), rv mir, .unset] [(.int (1 : Int32))])) rfl (hb hby d25_7) rfl (by decide) (cap := 1) (by decide) (by decide) (by decide) (by decide) (ad := "[Ljava/lang/Object;") (by decide)
  obtain rfl : kO = k2 := own_kk EX2 A2 FC
  clear EX2 O2
  obtain ⟨b2, g2⟩ : ∃ z, z = h0.size := ⟨_, rfl⟩
  rw [← g2] at A2 st2
  have fr2 : n0 ≤ b2 := Nat.le_trans (own_z O0) (Nat.le_of_eq g2.symm)
  have sz2 : h0.size ≤ b2 := Nat.le_trans (Keep.refl h0 []).1 (Nat.le_of_eq g2.symm)
  have V2 : Arv Z h2 b2 kO (.object "java/lang/Object") (1 : Int32) [.null] .null := (Arv.new A2 (by decide)).pad (pad_rep [] .null 1)
  refine own_st (T' := T2) (g' := (mkF m 10 #[rv t, iv (1 : Int32), rv mir, .unset] [(.ref b2)])) st2 ?_
  clear st2
  refine own_st (T' := T2) (g' := (mkF m 24 #[rv t, iv (1 : Int32), rv mir, .unset] [(.ref b2)])) (fun _ k_ => XS.goto X2.here hx rfl (pc0 := 10) (pc' := 24) rfl (hb hby d25_10) (by decide) (by decide) k_) ?_
  refine own_st (T' := T2) (g' := (mkF m 25 #[rv t, iv (1 : Int32), rv mir, rv b2] [])) (fun _ k_ => XS.astoreN X2.here hx rfl (hb hby d25_24) rfl rfl (l' := #[rv t, iv (1 : Int32), rv mir, rv b2]) rfl k_) ?_
  refine own_st (T' := T2) (g' := (mkF m 26 #[rv t, iv (1 : Int32), rv mir, rv b2] [(.ref t)])) (fun _ k_ => XS.aloadN X2.here hx rfl (hb hby d25_25) rfl rfl  k_) ?_
  refine own_st (T' := T2) (g' := (mkF m 27 #[rv t, iv (1 : Int32), rv mir, rv b2] [(.int (0 : Int32)), (.ref t)])) (fun _ k_ => XS.iconst X2.here hx rfl (hb hby d25_26) k_) ?_
  refine own_st (T' := T2) (g' := (mkF m 28 #[rv t, iv (1 : Int32), rv mir, rv b2] [(.ref b2), (.int (0 : Int32)), (.ref t)])) (fun _ k_ => XS.aloadN X2.here hx rfl (hb hby d25_27) rfl rfl  k_) ?_
  refine own_st (T' := T2) (g' := (mkF m 29 #[rv t, iv (1 : Int32), rv mir, rv b2] [(.int (0 : Int32)), (.ref b2), (.int (0 : Int32)), (.ref t)])) (fun _ k_ => XS.iconst X2.here hx rfl (hb hby d25_28) k_) ?_
  refine own_st (T' := T2) (g' := (mkF m 30 #[rv t, iv (1 : Int32), rv mir, rv b2] [(.ref t), (.int (0 : Int32)), (.ref b2), (.int (0 : Int32)), (.ref t)])) (fun _ k_ => XS.aloadN X2.here hx rfl (hb hby d25_29) rfl rfl  k_) ?_
  have f4 := V_t.ext E2
  obtain ⟨cl3, Ar3, -, S3, N3, -, -⟩ := id f4
  refine own_st (T' := T2) (g' := (mkF m 31 #[rv t, iv (1 : Int32), rv mir, rv b2] [(.int (10 : Int32)), (.int (0 : Int32)), (.ref b2), (.int (0 : Int32)), (.ref t)])) (fun t_ k_ => X2.arraylength hx (by rw [e2]; exact Ar3.1) (State.isArrayOf_alike hZ.alike Ar3.2.1) (g := (mkF m 30 #[rv t, iv (1 : Int32), rv mir, rv b2] [(.ref t), (.int (0 : Int32)), (.ref b2), (.int (0 : Int32)), (.ref t)])) rfl rfl (hb hby d25_30) _ (by rw [len_of S3 N3]; exact k_)) ?_
  refine own_st (T' := T2) (g' := (mkF m 32 #[rv t, iv (1 : Int32), rv mir, rv b2] [(.int (1 : Int32)), (.int (10 : Int32)), (.int (0 : Int32)), (.ref b2), (.int (0 : Int32)), (.ref t)])) (fun _ k_ => XS.iloadN X2.here hx rfl (hb hby d25_31) rfl  k_) ?_
  have f5 := O0.ext E2
  obtain ⟨_, T6, L6, X6, hQ6, st6⟩ := own_callS X2 hx (y := own_m18) hown (mvT hZ (wd hw 167 rfl)) (mvT hZ (wd hw 168 rfl)) (mvT hZ (wd hw 93 rfl)) (mvT hZ (wd hw 169 rfl)) (by decide) (backOf (W := 4) (rm_min l Z a0 hw [] (10 : Int32) (1 : Int32) h2 n0 f5 (by decide)) hZ (wd hw 169 rfl) (wd hw 93 rfl) (by decide) (by decide)) (g := (mkF m 32 #[rv t, iv (1 : Int32), rv mir, rv b2] [(.int (1 : Int32)), (.int (10 : Int32)), (.int (0 : Int32)), (.ref b2), (.int (0 : Int32)), (.ref t)])) rfl (by rw [hml]; rfl) (argsL := [(.int (10 : Int32)), (.int (1 : Int32))]) (rest := [(.int (0 : Int32)), (.ref b2), (.int (0 : Int32)), (.ref t)]) (lenOf pd__II_I rfl) rfl (by show 2 * 0 + _ ≤ _; exact Nat.le_of_eq rfl) (hb hby d25_32) rfl e2 (by decide) (by decide) (c' := 1) (s' := 1) rfl rfl
  obtain ⟨rfl, Nq6, eq6⟩ := hQ6
  have N6 := Fr.app N0 Nq6
  refine own_st (T' := T6) (g' := (mkF m 35 #[rv t, iv (1 : Int32), rv mir, rv b2] [(.int (1 : Int32)), (.int (0 : Int32)), (.ref b2), (.int (0 : Int32)), (.ref t)])) st6 ?_
  clear st6
  obtain ⟨cl7, Ar7, q7, -⟩ := id V2
  have f8 := Ins.ext E2 I_y0
  obtain ⟨T7, h7, L7, X7, e7, N7, K7, Va7, st7⟩ := cpA X6 hx hZ hown (wd hw 170 rfl) (wd hw 173 rfl) (wd hw 171 rfl) (wd hw 172 rfl) eq6 f4 V2 (sp := (0 : Int32)) (dp := (0 : Int32)) (nn := (1 : Int32)) (us := [(.ref y0)]) (Or.inr ⟨rfl, rfl, ⟨Sto.ofV Ar7 q7 OV f8, trivial⟩⟩) (by decide) (by decide) (by decide) (by decide) (by decide) rfl (Nat.le_of_ble_eq_true rfl) N6 fr2 (g := (mkF m 35 #[rv t, iv (1 : Int32), rv mir, rv b2] [(.int (1 : Int32)), (.int (0 : Int32)), (.ref b2), (.int (0 : Int32)), (.ref t)])) rfl (by rw [hml]; rfl) (rest := []) rfl (hb hby d25_35) (by decide) (W := 0) (by show 2 * 0 + _ ≤ _; exact Nat.le_of_eq rfl) (by decide)
  clear Ar7 q7 cl7
  have V7 : Arv Z h7 b2 kO (.object "java/lang/Object") (1 : Int32) [(.ref y0)] .null := Va7
  refine own_st (T' := T7) (g' := (mkF m 38 #[rv t, iv (1 : Int32), rv mir, rv b2] [])) st7 ?_
  clear st7
  refine own_st (T' := T7) (g' := (mkF m 39 #[rv t, iv (1 : Int32), rv mir, rv b2] [(.ref b2)])) (fun _ k_ => XS.aloadN X7.here hx rfl (hb hby d25_38) rfl rfl  k_) ?_
  have f9 := (Keep.refl h0 []).ext E2
  have f10 := f9.trans K7 (allS (Or.inr sz2) all0)
  exact own_retA X7 hx hret rfl rfl hlk (hb hby d25_39) (by decide) (by decide) (by rw [e7]; exact ⟨b2, rfl, N7, f10, V7, sz2⟩)
theorem d24_0 : decode jdk_65_method_119_code 0 = .ok (.aload_n 0, 1) := by decide +kernel
theorem d24_1 : decode jdk_65_method_119_code 1 = .ok (.iload_n 1, 1) := by decide +kernel
theorem d24_2 : decode jdk_65_method_119_code 2 = .ok (.aload_n 0, 1) := by decide +kernel
theorem d24_3 : decode jdk_65_method_119_code 3 = .ok (.invokevirtual 86, 3) := by decide +kernel
theorem d24_6 : decode jdk_65_method_119_code 6 = .ok (.invokestatic 300, 3) := by decide +kernel
theorem d24_9 : decode jdk_65_method_119_code 9 = .ok (.areturn, 1) := by decide +kernel
theorem pd___Ljava_lang_Object_ILjava_lang_Class___Ljava_lang_Object_ : parseMethodDescriptor "([Ljava/lang/Object;ILjava/lang/Class;)[Ljava/lang/Object;" = some ⟨[(.array (.object "java/lang/Object")), .int, (.object "java/lang/Class")], some (.array (.object "java/lang/Object"))⟩ := by decide +kernel
theorem ef_cp2_1 (m : MethodId) (x0 : Addr) (x1 : Int32) : entryFrame m #[(.ref x0), (.int x1)] 2 = mkF m 0 #[rv x0, iv x1] [] := by first | (simp [entryFrame, mkF, argsToLocals, Value.category]; done) | rfl
def Q_cp2_1 (Z : State) (t : Addr) (kO : ClassId) (mir : Addr) (y0 : Addr) (h0 : Heap) (n0 : Nat) (v : Option Value) (h : Heap) (L : List Loc) : Prop := ∃ (u : Addr), (v = some (.ref u)) ∧ (Fr n0 L) ∧ (Keep h0 h []) ∧ (Arv Z h u kO (.object "java/lang/Object") (1 : Int32) [(.ref y0)] .null) ∧ (h0.size ≤ u)
set_option maxRecDepth 65536 in
set_option maxHeartbeats 40000000 in
theorem rm_cp2_1 (l : Launch) (Z : State) (a0 : Array Value) (hw : ∀ d ∈ tables_1, d.before a0 Z = true) (ws : List Jvm.Cond) (t : Addr) (kO : ClassId) (mir : Addr) (y0 : Addr) (h0 : Heap) (n0 : Nat) (O0 : Old Z n0 h0) (V_t : Arv Z h0 t kO (.object "java/lang/Object") (10 : Int32) [(.ref y0), .null, .null, .null, .null, .null, .null, .null, .null, .null] .null) (OV : Ovr Z kO "java/lang/Object") (FC : Z.vm.findClass "[Ljava/lang/Object;" = some kO) (MIR : own_Mir Z "[Ljava/lang/Object;" mir) (I_y0 : Ins Z h0 y0 "java/lang/Object" true) :
    own_MF l own_m24 (Jvm.Cond.code own_m24 jdk_65_method_119_code 2 (some (.array (.object "java/lang/Object"))) :: ws) ({ frames := 2, cells := 1, slots := 1, locals := 55 } : Room) #[(.ref t), (.int (1 : Int32))] Z h0 (Q_cp2_1 Z t kO mir y0 h0 n0) := by
  refine own_met (own := "java/util/Arrays") (nme := "copyOf") rfl rfl (plainFor_of_name pn_11) ?_
  intro p e s m below meth c s₁ hx hby hml hown hnm X0 e0 hret hlk hZ
  have N0 := Fr.nil n0
  rw [ef_cp2_1 m t (1 : Int32)]
  refine own_st (T' := s₁) (g' := (mkF m 1 #[rv t, iv (1 : Int32)] [(.ref t)])) (fun _ k_ => XS.aloadN X0.here hx rfl (hb hby d24_0) rfl rfl  k_) ?_
  refine own_st (T' := s₁) (g' := (mkF m 2 #[rv t, iv (1 : Int32)] [(.int (1 : Int32)), (.ref t)])) (fun _ k_ => XS.iloadN X0.here hx rfl (hb hby d24_1) rfl  k_) ?_
  refine own_st (T' := s₁) (g' := (mkF m 3 #[rv t, iv (1 : Int32)] [(.ref t), (.int (1 : Int32)), (.ref t)])) (fun _ k_ => XS.aloadN X0.here hx rfl (hb hby d24_2) rfl rfl  k_) ?_
  obtain ⟨T1, X1, e1, st1⟩ := own_gcls X0 hx hZ hown (wd hw 156 rfl) (wd hw 157 rfl) (wd hw 133 rfl) (wd hw 159 rfl) (wd hw 158 rfl) (wd hw 160 rfl) e0 (own_exaArv V_t FC) MIR (g := (mkF m 3 #[rv t, iv (1 : Int32)] [(.ref t), (.int (1 : Int32)), (.ref t)])) rfl (by rw [hml]; rfl) (rest := [(.int (1 : Int32)), (.ref t)]) rfl (hb hby d24_3) (by decide) (W := 2) (by show 2 * 0 + _ ≤ _; exact Nat.le_of_eq rfl) (by decide)
  refine own_st (T' := T1) (g' := (mkF m 6 #[rv t, iv (1 : Int32)] [(.ref mir), (.int (1 : Int32)), (.ref t)])) st1 ?_
  clear st1
  obtain ⟨_, T2, L2, X2, hQ2, st2⟩ := own_callS X1 hx (y := own_m23) hown (mvT hZ (wd hw 162 rfl)) (mvT hZ (wd hw 163 rfl)) (mvT hZ (wd hw 154 rfl)) (mvT hZ (wd hw 164 rfl)) (by decide) (backOf (W := 0) (rm_cp3_1 l Z a0 hw [] t kO mir y0 h0 n0 O0 V_t OV FC MIR I_y0) hZ (wd hw 164 rfl) (wd hw 154 rfl) (by decide) (by decide)) (g := (mkF m 6 #[rv t, iv (1 : Int32)] [(.ref mir), (.int (1 : Int32)), (.ref t)])) rfl (by rw [hml]; rfl) (argsL := [(.ref t), (.int (1 : Int32)), (.ref mir)]) (rest := []) (lenOf pd___Ljava_lang_Object_ILjava_lang_Class___Ljava_lang_Object_ rfl) rfl (by show 2 * 0 + _ ≤ _; exact Nat.le_of_eq rfl) (hb hby d24_6) rfl e1 (by decide) (by decide) (c' := 1) (s' := 1) rfl rfl
  obtain ⟨u2, rfl, Nq2, K2, fq2_0, xq2_fresh_u⟩ := hQ2
  have N2 := Fr.app N0 Nq2
  refine own_st (T' := T2) (g' := (mkF m 9 #[rv t, iv (1 : Int32)] [(.ref u2)])) st2 ?_
  clear st2
  have f3 := (Keep.refl h0 []).trans K2 all0
  exact own_retA X2 hx hret rfl rfl hlk (hb hby d24_9) (by decide) (by decide) ⟨u2, rfl, N2, f3, fq2_0, (Nat.le_trans (Keep.refl h0 []).1 xq2_fresh_u)⟩
theorem d23_0 : decode jdk_38_method_16_code 0 = .ok (.aload_n 0, 1) := by decide +kernel
theorem d23_1 : decode jdk_38_method_16_code 1 = .ok (.getfield 9, 3) := by decide +kernel
theorem d23_4 : decode jdk_38_method_16_code 4 = .ok (.aload_n 0, 1) := by decide +kernel
theorem d23_5 : decode jdk_38_method_16_code 5 = .ok (.getfield 48, 3) := by decide +kernel
theorem d23_8 : decode jdk_38_method_16_code 8 = .ok (.invokestatic 66, 3) := by decide +kernel
theorem d23_11 : decode jdk_38_method_16_code 11 = .ok (.areturn, 1) := by decide +kernel
theorem pd___Ljava_lang_Object_I__Ljava_lang_Object_ : parseMethodDescriptor "([Ljava/lang/Object;I)[Ljava/lang/Object;" = some ⟨[(.array (.object "java/lang/Object")), .int], some (.array (.object "java/lang/Object"))⟩ := by decide +kernel
theorem ef_tar_1 (m : MethodId) (x0 : Addr) : entryFrame m #[(.ref x0)] 1 = mkF m 0 #[rv x0] [] := by first | (simp [entryFrame, mkF, argsToLocals, Value.category]; done) | rfl
def Q_tar_1 (Z : State) (a : Addr) (t : Addr) (kO : ClassId) (mir : Addr) (y0 : Addr) (h0 : Heap) (n0 : Nat) (v : Option Value) (h : Heap) (L : List Loc) : Prop := ∃ (u : Addr), (v = some (.ref u)) ∧ (Fr n0 L) ∧ (Keep h0 h []) ∧ (Arv Z h u kO (.object "java/lang/Object") (1 : Int32) [(.ref y0)] .null) ∧ (h0.size ≤ u)
set_option maxRecDepth 65536 in
set_option maxHeartbeats 40000000 in
theorem rm_tar_1 (l : Launch) (Z : State) (a0 : Array Value) (hw : ∀ d ∈ tables_1, d.before a0 Z = true) (ws : List Jvm.Cond) (a : Addr) (t : Addr) (kO : ClassId) (mir : Addr) (y0 : Addr) (h0 : Heap) (n0 : Nat) (O0 : Old Z n0 h0) (Fe : Fld Z h0 a "java/util/ArrayList" "elementData" "[Ljava/lang/Object;" (.ref t)) (Fz : Fld Z h0 a "java/util/ArrayList" "size" "I" (.int (1 : Int32))) (V_t : Arv Z h0 t kO (.object "java/lang/Object") (10 : Int32) [(.ref y0), .null, .null, .null, .null, .null, .null, .null, .null, .null] .null) (OV : Ovr Z kO "java/lang/Object") (FC : Z.vm.findClass "[Ljava/lang/Object;" = some kO) (MIR : own_Mir Z "[Ljava/lang/Object;" mir) (I_y0 : Ins Z h0 y0 "java/lang/Object" true) :
    own_MF l own_m25 (Jvm.Cond.code own_m25 jdk_38_method_16_code 1 (some (.array (.object "java/lang/Object"))) :: ws) ({ frames := 3, cells := 1, slots := 1, locals := 68 } : Room) #[(.ref a)] Z h0 (Q_tar_1 Z a t kO mir y0 h0 n0) := by
  refine own_met (own := "java/util/ArrayList") (nme := "toArray") rfl rfl (plainFor_of_name pn_5) ?_
  intro p e s m below meth c s₁ hx hby hml hown hnm X0 e0 hret hlk hZ
  have N0 := Fr.nil n0
  rw [ef_tar_1 m a]
  refine own_st (T' := s₁) (g' := (mkF m 1 #[rv a] [(.ref a)])) (fun _ k_ => XS.aloadN X0.here hx rfl (hb hby d23_0) rfl rfl  k_) ?_
  obtain ⟨T1, X1, e1, st1⟩ := getF X0 hx hZ hown (host := "") (Or.inl (wd hw 65 rfl)) Via.refl e0 Fe (g := (mkF m 1 #[rv a] [(.ref a)])) rfl rfl (hb hby d23_1)
  refine own_st (T' := T1) (g' := (mkF m 4 #[rv a] [(.ref t)])) st1 ?_
  clear st1
  refine own_st (T' := T1) (g' := (mkF m 5 #[rv a] [(.ref a), (.ref t)])) (fun _ k_ => XS.aloadN X1.here hx rfl (hb hby d23_4) rfl rfl  k_) ?_
  obtain ⟨T2, X2, e2, st2⟩ := getF X1 hx hZ hown (host := "") (Or.inl (wd hw 74 rfl)) Via.refl e1 Fz (g := (mkF m 5 #[rv a] [(.ref a), (.ref t)])) rfl rfl (hb hby d23_5)
  refine own_st (T' := T2) (g' := (mkF m 8 #[rv a] [(.int (1 : Int32)), (.ref t)])) st2 ?_
  clear st2
  obtain ⟨_, T3, L3, X3, hQ3, st3⟩ := own_callS X2 hx (y := own_m24) hown (mvT hZ (wd hw 152 rfl)) (mvT hZ (wd hw 153 rfl)) (mvT hZ (wd hw 154 rfl)) (mvT hZ (wd hw 155 rfl)) (by decide) (backOf (W := 0) (rm_cp2_1 l Z a0 hw [] t kO mir y0 h0 n0 O0 V_t OV FC MIR I_y0) hZ (wd hw 155 rfl) (wd hw 154 rfl) (by decide) (by decide)) (g := (mkF m 8 #[rv a] [(.int (1 : Int32)), (.ref t)])) rfl (by rw [hml]; rfl) (argsL := [(.ref t), (.int (1 : Int32))]) (rest := []) (lenOf pd___Ljava_lang_Object_I__Ljava_lang_Object_ rfl) rfl (by show 2 * 0 + _ ≤ _; exact Nat.le_of_eq rfl) (hb hby d23_8) rfl e2 (by decide) (by decide) (c' := 1) (s' := 1) rfl rfl
  obtain ⟨u3, rfl, Nq3, K3, fq3_0, xq3_fresh_u⟩ := hQ3
  have N3 := Fr.app N0 Nq3
  refine own_st (T' := T3) (g' := (mkF m 11 #[rv a] [(.ref u3)])) st3 ?_
  clear st3
  have f4 := (Keep.refl h0 []).trans K3 all0
  exact own_retA X3 hx hret rfl rfl hlk (hb hby d23_11) (by decide) (by decide) ⟨u3, rfl, N3, f4, fq3_0, (Nat.le_trans (Keep.refl h0 []).1 xq3_fresh_u)⟩
theorem d27_0 : decode jdk_40_method_47_code 0 = .ok (.aload_n 0, 1) := by decide +kernel
theorem d27_1 : decode jdk_40_method_47_code 1 = .ok (.arraylength, 1) := by decide +kernel
theorem d27_2 : decode jdk_40_method_47_code 2 = .ok (.tableswitch 57 0 2 #[26, 32, 43], 26) := by decide +kernel
theorem d27_34 : decode jdk_40_method_47_code 34 = .ok (.new 96, 3) := by decide +kernel
theorem d27_37 : decode jdk_40_method_47_code 37 = .ok (.dup, 1) := by decide +kernel
theorem d27_38 : decode jdk_40_method_47_code 38 = .ok (.aload_n 0, 1) := by decide +kernel
theorem d27_39 : decode jdk_40_method_47_code 39 = .ok (.iconst 0, 1) := by decide +kernel
theorem d27_40 : decode jdk_40_method_47_code 40 = .ok (.aaload, 1) := by decide +kernel
theorem d27_41 : decode jdk_40_method_47_code 41 = .ok (.invokespecial 98, 3) := by decide +kernel
theorem d27_44 : decode jdk_40_method_47_code 44 = .ok (.areturn, 1) := by decide +kernel
theorem pd__Ljava_lang_Object__V : parseMethodDescriptor "(Ljava/lang/Object;)V" = some ⟨[(.object "java/lang/Object")], none⟩ := by decide +kernel
theorem pn_12 : plainName "java/util/List" = true := by first | (simp [plainName, overriddenIn]; done) | decide +kernel
theorem ef_lof_1 (m : MethodId) (x0 : Addr) : entryFrame m #[(.ref x0)] 2 = mkF m 0 #[rv x0, .unset] [] := by first | (simp [entryFrame, mkF, argsToLocals, Value.category]; done) | rfl
def Q_lof_1 (Z : State) (u : Addr) (kO : ClassId) (em : Addr) (y0 : Addr) (h0 : Heap) (n0 : Nat) (v : Option Value) (h : Heap) (L : List Loc) : Prop := ∃ (x : Addr), (v = some (.ref x)) ∧ (Fr n0 L) ∧ (Keep h0 h []) ∧ (Exa Z h x "java/util/ImmutableCollections$List12") ∧ (Fld Z h x "java/util/ImmutableCollections$List12" "e0" "Ljava/lang/Object;" (.ref y0)) ∧ (Fld Z h x "java/util/ImmutableCollections$List12" "e1" "Ljava/lang/Object;" (.ref em)) ∧ (h0.size ≤ x)
set_option maxRecDepth 65536 in
set_option maxHeartbeats 40000000 in
theorem rm_lof_1 (l : Launch) (Z : State) (a0 : Array Value) (hw : ∀ d ∈ tables_1, d.before a0 Z = true) (ws : List Jvm.Cond) (u : Addr) (kO : ClassId) (em : Addr) (y0 : Addr) (h0 : Heap) (n0 : Nat) (O0 : Old Z n0 h0) (V_u : Arv Z h0 u kO (.object "java/lang/Object") (1 : Int32) [(.ref y0)] .null) (OV : Ovr Z kO "java/lang/Object") (FC : Z.vm.findClass "[Ljava/lang/Object;" = some kO) (SEm : Sta Z Z.heap "java/util/ImmutableCollections" "EMPTY" "Ljava/lang/Object;" (.ref em)) (I_y0 : Ins Z h0 y0 "java/lang/Object" true) :
    own_MF l own_m26 (Jvm.Cond.code own_m26 jdk_40_method_47_code 2 (some (.object "java/util/List")) :: ws) ({ frames := 5, cells := 1, slots := 2, locals := 62 } : Room) #[(.ref u)] Z h0 (Q_lof_1 Z u kO em y0 h0 n0) := by
  refine own_met (own := "java/util/List") (nme := "of") rfl rfl (plainFor_of_name pn_12) ?_
  intro p e s m below meth c s₁ hx hby hml hown hnm X0 e0 hret hlk hZ
  have N0 := Fr.nil n0
  rw [ef_lof_1 m u]
  refine own_st (T' := s₁) (g' := (mkF m 1 #[rv u, .unset] [(.ref u)])) (fun _ k_ => XS.aloadN X0.here hx rfl (hb hby d27_0) rfl rfl  k_) ?_
  obtain ⟨cl1, Ar1, -, S1, N1, -, -⟩ := id V_u
  refine own_st (T' := s₁) (g' := (mkF m 2 #[rv u, .unset] [(.int (1 : Int32))])) (fun t_ k_ => X0.arraylength hx (by rw [e0]; exact Ar1.1) (State.isArrayOf_alike hZ.alike Ar1.2.1) (g := (mkF m 1 #[rv u, .unset] [(.ref u)])) rfl rfl (hb hby d27_1) _ (by rw [len_of S1 N1]; exact k_)) ?_
  refine own_st (T' := s₁) (g' := (mkF m 34 #[rv u, .unset] [])) (fun t_ k_ => X0.tableswitchIn hx (g := (mkF m 2 #[rv u, .unset] [(.int (1 : Int32))])) rfl (k := (1 : Int32)) (rest := []) rfl (hb hby d27_2) (by decide) (off := 32) rfl (show (0 : Int) ≤ ((2 : Nat) : Int) + 32 by decide) _ k_) ?_
  obtain ⟨T2, h2, X2, e2, E2, A2, D2, -, st2⟩ := newO X0 hx hZ hown (wd hw 177 rfl) (wd hw 178 rfl) (wd hw 179 rfl) e0 (g := (mkF m 34 #[rv u, .unset] [])) rfl (hb hby d27_34) (by decide) (by decide)
  obtain ⟨b2, g2⟩ : ∃ z, z = h0.size := ⟨_, rfl⟩
  rw [← g2] at A2 D2 st2
  have fr2 : n0 ≤ b2 := Nat.le_trans (own_z O0) (Nat.le_of_eq g2.symm)
  have sz2 : h0.size ≤ b2 := Nat.le_trans (Keep.refl h0 []).1 (Nat.le_of_eq g2.symm)
  have F2_e0 : Fld Z h2 b2 "java/util/ImmutableCollections$List12" "e0" "Ljava/lang/Object;" .null := D2 (Or.inr (wd hw 203 rfl)) (ty := (.object "java/lang/Object")) (by decide)
  have F2_e1 : Fld Z h2 b2 "java/util/ImmutableCollections$List12" "e1" "Ljava/lang/Object;" .null := D2 (Or.inr (wd hw 205 rfl)) (ty := (.object "java/lang/Object")) (by decide)
  refine own_st (T' := T2) (g' := (mkF m 37 #[rv u, .unset] [(.ref b2)])) st2 ?_
  clear st2
  refine own_st (T' := T2) (g' := (mkF m 38 #[rv u, .unset] [(.ref b2), (.ref b2)])) (fun _ k_ => XS.dup X2.here hx rfl (hb hby d27_37) rfl rfl k_) ?_
  refine own_st (T' := T2) (g' := (mkF m 39 #[rv u, .unset] [(.ref u), (.ref b2), (.ref b2)])) (fun _ k_ => XS.aloadN X2.here hx rfl (hb hby d27_38) rfl rfl  k_) ?_
  refine own_st (T' := T2) (g' := (mkF m 40 #[rv u, .unset] [(.int (0 : Int32)), (.ref u), (.ref b2), (.ref b2)])) (fun _ k_ => XS.iconst X2.here hx rfl (hb hby d27_39) k_) ?_
  have f3 := V_u.ext E2
  obtain ⟨cl4, Ar4, q4, S4, N4, H4, G4⟩ := id f3
  have hin4 : ¬ ((0 : Int32) < 0 ∨ cl4.slots.size ≤ ((0 : Int32)).toNatClampNeg) := inb_of S4 ⟨by decide, by decide⟩
  refine own_st (T' := T2) (g' := (mkF m 41 #[rv u, .unset] [(.ref y0), (.ref b2), (.ref b2)])) (X2.aaload hx (j := (0 : Int32)) (v := (.ref y0)) (by rw [e2]; exact Ar4.1) (State.isArrayOf_alike hZ.alike Ar4.2.1) rfl Ar4.2.2 hin4 (H4.at hin4 rfl) (g := (mkF m 40 #[rv u, .unset] [(.int (0 : Int32)), (.ref u), (.ref b2), (.ref b2)])) rfl rfl (hb hby d27_40)) ?_
  clear hin4 G4 H4 N4 S4 q4 Ar4 cl4
  have f5 := O0.ext E2
  obtain ⟨_, T6, L6, X6, hQ6, st6⟩ := own_callI X2 hx (y := own_m21) rfl hown (mvT hZ (wd hw 208 rfl)) (mvT hZ (wd hw 209 rfl)) (mvT hZ (wd hw 210 rfl)) (by decide) (backOf (W := 1) (rm_l12a l Z a0 hw [] b2 y0 em h2 n0 f5 A2 F2_e0 F2_e1 fr2 SEm) hZ (wd hw 210 rfl) (wd hw 179 rfl) (by decide) (by decide)) (g := (mkF m 41 #[rv u, .unset] [(.ref y0), (.ref b2), (.ref b2)])) rfl (by rw [hml]; rfl) (a := b2) (argsL := [(.ref y0)]) (rest := [(.ref b2)]) (lenOf pd__Ljava_lang_Object__V rfl) rfl (by show 2 * 0 + _ ≤ _; exact Nat.le_of_eq rfl) (hb hby d27_41) rfl e2 (by decide) (by decide) (c' := 1) (s' := 2) rfl rfl
  obtain ⟨rfl, Nq6, K6, fq6_0, fq6_1, fq6_2⟩ := hQ6
  have N6 := Fr.app N0 Nq6
  refine own_st (T' := T6) (g' := (mkF m 44 #[rv u, .unset] [(.ref b2)])) st6 ?_
  clear st6
  have f7 := (Keep.refl h0 []).ext E2
  have f8 := f7.trans K6 (allS (Or.inr sz2) all0)
  exact own_retA X6 hx hret rfl rfl hlk (hb hby d27_44) (by decide) (by decide) ⟨b2, rfl, N6, f8, fq6_0, fq6_1, fq6_2, sz2⟩
theorem d21_0 : decode jdk_56_method_3_code 0 = .ok (.aload_n 0, 1) := by decide +kernel
theorem d21_1 : decode jdk_56_method_3_code 1 = .ok (.instanceof 10, 3) := by decide +kernel
theorem d21_4 : decode jdk_56_method_3_code 4 = .ok (.ifCond .ne 22, 3) := by decide +kernel
theorem d21_7 : decode jdk_56_method_3_code 7 = .ok (.aload_n 0, 1) := by decide +kernel
theorem d21_8 : decode jdk_56_method_3_code 8 = .ok (.instanceof 12, 3) := by decide +kernel
theorem d21_11 : decode jdk_56_method_3_code 11 = .ok (.ifCond .eq 20, 3) := by decide +kernel
theorem d21_31 : decode jdk_56_method_3_code 31 = .ok (.aload_n 0, 1) := by decide +kernel
theorem d21_32 : decode jdk_56_method_3_code 32 = .ok (.invokeinterface 20 1, 5) := by decide +kernel
theorem d21_37 : decode jdk_56_method_3_code 37 = .ok (.ifCond .eq 7, 3) := by decide +kernel
theorem d21_44 : decode jdk_56_method_3_code 44 = .ok (.aload_n 0, 1) := by decide +kernel
theorem d21_45 : decode jdk_56_method_3_code 45 = .ok (.invokeinterface 30 1, 5) := by decide +kernel
theorem d21_50 : decode jdk_56_method_3_code 50 = .ok (.invokestatic 34, 3) := by decide +kernel
theorem d21_53 : decode jdk_56_method_3_code 53 = .ok (.areturn, 1) := by decide +kernel
theorem pd___Z : parseMethodDescriptor "()Z" = some ⟨[], some .boolean⟩ := by decide +kernel
theorem pd___Ljava_lang_Object__Ljava_util_List_ : parseMethodDescriptor "([Ljava/lang/Object;)Ljava/util/List;" = some ⟨[(.array (.object "java/lang/Object"))], some (.object "java/util/List")⟩ := by decide +kernel
theorem pn_13 : plainName "java/util/ImmutableCollections" = true := by first | (simp [plainName, overriddenIn]; done) | decide +kernel
theorem ef_lcp_1 (m : MethodId) (x0 : Addr) : entryFrame m #[(.ref x0)] 2 = mkF m 0 #[rv x0, .unset] [] := by first | (simp [entryFrame, mkF, argsToLocals, Value.category]; done) | rfl
def Q_lcp_1 (Z : State) (a : Addr) (t : Addr) (kO : ClassId) (mir : Addr) (em : Addr) (y0 : Addr) (h0 : Heap) (n0 : Nat) (v : Option Value) (h : Heap) (L : List Loc) : Prop := ∃ (x : Addr), (v = some (.ref x)) ∧ (Fr n0 L) ∧ (Keep h0 h []) ∧ (Exa Z h x "java/util/ImmutableCollections$List12") ∧ (Fld Z h x "java/util/ImmutableCollections$List12" "e0" "Ljava/lang/Object;" (.ref y0)) ∧ (Fld Z h x "java/util/ImmutableCollections$List12" "e1" "Ljava/lang/Object;" (.ref em)) ∧ (h0.size ≤ x)
set_option maxRecDepth 65536 in
set_option maxHeartbeats 40000000 in
theorem rm_lcp_1 (l : Launch) (Z : State) (a0 : Array Value) (hw : ∀ d ∈ tables_1, d.before a0 Z = true) (ws : List Jvm.Cond) (a : Addr) (t : Addr) (kO : ClassId) (mir : Addr) (em : Addr) (y0 : Addr) (h0 : Heap) (n0 : Nat) (O0 : Old Z n0 h0) (E_a : Exa Z h0 a "java/util/ArrayList") (Fe : Fld Z h0 a "java/util/ArrayList" "elementData" "[Ljava/lang/Object;" (.ref t)) (Fz : Fld Z h0 a "java/util/ArrayList" "size" "I" (.int (1 : Int32))) (V_t : Arv Z h0 t kO (.object "java/lang/Object") (10 : Int32) [(.ref y0), .null, .null, .null, .null, .null, .null, .null, .null, .null] .null) (OV : Ovr Z kO "java/lang/Object") (FC : Z.vm.findClass "[Ljava/lang/Object;" = some kO) (MIR : own_Mir Z "[Ljava/lang/Object;" mir) (SEm : Sta Z Z.heap "java/util/ImmutableCollections" "EMPTY" "Ljava/lang/Object;" (.ref em)) (I_y0 : Ins Z h0 y0 "java/lang/Object" true) :
    own_MF l own_m29 (Jvm.Cond.code own_m29 jdk_56_method_3_code 2 (some (.object "java/util/List")) :: ws) ({ frames := 6, cells := 2, slots := 3, locals := 80 } : Room) #[(.ref a)] Z h0 (Q_lcp_1 Z a t kO mir em y0 h0 n0) := by
  refine own_met (own := "java/util/ImmutableCollections") (nme := "listCopy") rfl rfl (plainFor_of_name pn_13) ?_
  intro p e s m below meth c s₁ hx hby hml hown hnm X0 e0 hret hlk hZ
  have N0 := Fr.nil n0
  rw [ef_lcp_1 m a]
  refine own_st (T' := s₁) (g' := (mkF m 1 #[rv a, .unset] [(.ref a)])) (fun _ k_ => XS.aloadN X0.here hx rfl (hb hby d21_0) rfl rfl  k_) ?_
  obtain ⟨T1, X1, e1, st1⟩ := instNo X0 hx hZ hown (wd hw 129 rfl) e0 E_a (own_no0 hw) (g := (mkF m 1 #[rv a, .unset] [(.ref a)])) rfl rfl (hb hby d21_1)
  refine own_st (T' := T1) (g' := (mkF m 4 #[rv a, .unset] [(.int (0 : Int32))])) st1 ?_
  clear st1
  refine own_st (T' := T1) (g' := (mkF m 7 #[rv a, .unset] [])) (fun _ k_ => XS.ifNo X1.here hx rfl (hb hby d21_4) rfl ((if0 _ _).trans (teq (rfl : (0 : Int32) = (0 : Int32))).2) k_) ?_
  refine own_st (T' := T1) (g' := (mkF m 8 #[rv a, .unset] [(.ref a)])) (fun _ k_ => XS.aloadN X1.here hx rfl (hb hby d21_7) rfl rfl  k_) ?_
  obtain ⟨T2, X2, e2, st2⟩ := instNo X1 hx hZ hown (wd hw 134 rfl) e1 E_a (own_no1 hw) (g := (mkF m 8 #[rv a, .unset] [(.ref a)])) rfl rfl (hb hby d21_8)
  refine own_st (T' := T2) (g' := (mkF m 11 #[rv a, .unset] [(.int (0 : Int32))])) st2 ?_
  clear st2
  refine own_st (T' := T2) (g' := (mkF m 31 #[rv a, .unset] [])) (fun _ k_ => XS.ifYes X2.here hx rfl (pc0 := 11) (pc' := 31) rfl (hb hby d21_11) rfl ((if0 _ _).trans (teq (rfl : (0 : Int32) = (0 : Int32))).1) (by decide) (by decide) k_) ?_
  refine own_st (T' := T2) (g' := (mkF m 32 #[rv a, .unset] [(.ref a)])) (fun _ k_ => XS.aloadN X2.here hx rfl (hb hby d21_31) rfl rfl  k_) ?_
  obtain ⟨cq3, kq3, q3a, q3b, q3c⟩ := isOf hZ e2 E_a
  obtain ⟨_, T3, L3, X3, hQ3, st3⟩ := own_callF X2 hx (xi := own_m27) (y := own_m19) hown (mvT hZ (wd hw 135 rfl)) (mvT hZ (wd hw 136 rfl)) (mvT hZ (wd hw 137 rfl)) (mvT hZ (wd hw 138 rfl)) (mvT hZ (wd hw 139 rfl)) (mvT hZ (wd hw 140 rfl)) (mvT hZ (wd hw 141 rfl)) (mvT hZ (wd hw 142 rfl)) (by decide) (backOf (W := 0) (rm_alem l Z a0 hw [] a (1 : Int32) h0 n0 O0 Fz (by decide)) hZ (wd hw 143 rfl) (wd hw 45 rfl) (by decide) (by decide)) q3a q3b q3c (g := (mkF m 32 #[rv a, .unset] [(.ref a)])) rfl (by rw [hml]; rfl) (argsL := []) (rest := []) (lenOf pd___Z rfl) rfl (by show 2 * 0 + _ ≤ _; exact Nat.le_of_eq rfl) (hb hby d21_32) rfl e2 (by decide) (by decide) (c' := 0) (s' := 0) rfl rfl
  clear q3a q3b q3c kq3 cq3
  obtain ⟨rfl, Nq3, eq3⟩ := hQ3
  have N3 := Fr.app N0 Nq3
  refine own_st (T' := T3) (g' := (mkF m 37 #[rv a, .unset] [(.int (0 : Int32))])) st3 ?_
  clear st3
  refine own_st (T' := T3) (g' := (mkF m 44 #[rv a, .unset] [])) (fun _ k_ => XS.ifYes X3.here hx rfl (pc0 := 37) (pc' := 44) rfl (hb hby d21_37) rfl ((if0 _ _).trans (teq (rfl : (0 : Int32) = (0 : Int32))).1) (by decide) (by decide) k_) ?_
  refine own_st (T' := T3) (g' := (mkF m 45 #[rv a, .unset] [(.ref a)])) (fun _ k_ => XS.aloadN X3.here hx rfl (hb hby d21_44) rfl rfl  k_) ?_
  obtain ⟨cq4, kq4, q4a, q4b, q4c⟩ := isOf hZ eq3 E_a
  obtain ⟨_, T4, L4, X4, hQ4, st4⟩ := own_callF X3 hx (xi := own_m28) (y := own_m25) hown (mvT hZ (wd hw 144 rfl)) (mvT hZ (wd hw 145 rfl)) (mvT hZ (wd hw 146 rfl)) (mvT hZ (wd hw 147 rfl)) (mvT hZ (wd hw 148 rfl)) (mvT hZ (wd hw 149 rfl)) (mvT hZ (wd hw 150 rfl)) (mvT hZ (wd hw 142 rfl)) (by decide) (backOf (W := 0) (rm_tar_1 l Z a0 hw [] a t kO mir y0 h0 n0 O0 Fe Fz V_t OV FC MIR I_y0) hZ (wd hw 151 rfl) (wd hw 45 rfl) (by decide) (by decide)) q4a q4b q4c (g := (mkF m 45 #[rv a, .unset] [(.ref a)])) rfl (by rw [hml]; rfl) (argsL := []) (rest := []) (lenOf pd____Ljava_lang_Object_ rfl) rfl (by show 2 * 0 + _ ≤ _; exact Nat.le_of_eq rfl) (hb hby d21_45) rfl eq3 (by decide) (by decide) (c' := 1) (s' := 1) rfl rfl
  clear q4a q4b q4c kq4 cq4
  obtain ⟨u4, rfl, Nq4, K4, fq4_0, xq4_fresh_u⟩ := hQ4
  have N4 := Fr.app N3 Nq4
  refine own_st (T' := T4) (g' := (mkF m 50 #[rv a, .unset] [(.ref u4)])) st4 ?_
  clear st4
  have f5 := own_insK I_y0 K4
  have f6 := O0.keep K4 all0
  have f7 := (Keep.refl h0 []).trans K4 all0
  obtain ⟨_, T8, L8, X8, hQ8, st8⟩ := own_callS X4 hx (y := own_m26) hown (mvT hZ (wd hw 174 rfl)) (mvT hZ (wd hw 175 rfl)) (mvT hZ (wd hw 123 rfl)) (mvT hZ (wd hw 176 rfl)) (by decide) (backOf (W := 0) (rm_lof_1 l Z a0 hw [] u4 kO em y0 T4.heap n0 f6 fq4_0 OV FC SEm f5) hZ (wd hw 176 rfl) (wd hw 123 rfl) (by decide) (by decide)) (g := (mkF m 50 #[rv a, .unset] [(.ref u4)])) rfl (by rw [hml]; rfl) (argsL := [(.ref u4)]) (rest := []) (lenOf pd___Ljava_lang_Object__Ljava_util_List_ rfl) rfl (by show 2 * 0 + _ ≤ _; exact Nat.le_of_eq rfl) (hb hby d21_50) rfl rfl (by decide) (by decide) (c' := 2) (s' := 3) rfl rfl
  obtain ⟨x8, rfl, Nq8, K8, fq8_0, fq8_1, fq8_2, xq8_fresh_x⟩ := hQ8
  have N8 := Fr.app N4 Nq8
  refine own_st (T' := T8) (g' := (mkF m 53 #[rv a, .unset] [(.ref x8)])) st8 ?_
  clear st8
  have f9 := f7.trans K8 all0
  exact own_retA X8 hx hret rfl rfl hlk (hb hby d21_53) (by decide) (by decide) ⟨x8, rfl, N8, f9, fq8_0, fq8_1, fq8_2, (Nat.le_trans f7.1 xq8_fresh_x)⟩
theorem d20_0 : decode jdk_40_method_48_code 0 = .ok (.aload_n 0, 1) := by decide +kernel
theorem d20_1 : decode jdk_40_method_48_code 1 = .ok (.invokestatic 112, 3) := by decide +kernel
theorem d20_4 : decode jdk_40_method_48_code 4 = .ok (.areturn, 1) := by decide +kernel
theorem pd__Ljava_util_Collection__Ljava_util_List_ : parseMethodDescriptor "(Ljava/util/Collection;)Ljava/util/List;" = some ⟨[(.object "java/util/Collection")], some (.object "java/util/List")⟩ := by decide +kernel
theorem ef_cpy_1 (m : MethodId) (x0 : Addr) : entryFrame m #[(.ref x0)] 1 = mkF m 0 #[rv x0] [] := by first | (simp [entryFrame, mkF, argsToLocals, Value.category]; done) | rfl
def Q_cpy_1 (Z : State) (a : Addr) (t : Addr) (kO : ClassId) (mir : Addr) (em : Addr) (y0 : Addr) (h0 : Heap) (n0 : Nat) (v : Option Value) (h : Heap) (L : List Loc) : Prop := ∃ (x : Addr), (v = some (.ref x)) ∧ (Fr n0 L) ∧ (Keep h0 h []) ∧ (Exa Z h x "java/util/ImmutableCollections$List12") ∧ (Fld Z h x "java/util/ImmutableCollections$List12" "e0" "Ljava/lang/Object;" (.ref y0)) ∧ (Fld Z h x "java/util/ImmutableCollections$List12" "e1" "Ljava/lang/Object;" (.ref em)) ∧ (h0.size ≤ x)
set_option maxRecDepth 65536 in
set_option maxHeartbeats 40000000 in
theorem rm_cpy_1 (l : Launch) (Z : State) (a0 : Array Value) (hw : ∀ d ∈ tables_1, d.before a0 Z = true) (ws : List Jvm.Cond) (a : Addr) (t : Addr) (kO : ClassId) (mir : Addr) (em : Addr) (y0 : Addr) (h0 : Heap) (n0 : Nat) (O0 : Old Z n0 h0) (E_a : Exa Z h0 a "java/util/ArrayList") (Fe : Fld Z h0 a "java/util/ArrayList" "elementData" "[Ljava/lang/Object;" (.ref t)) (Fz : Fld Z h0 a "java/util/ArrayList" "size" "I" (.int (1 : Int32))) (V_t : Arv Z h0 t kO (.object "java/lang/Object") (10 : Int32) [(.ref y0), .null, .null, .null, .null, .null, .null, .null, .null, .null] .null) (OV : Ovr Z kO "java/lang/Object") (FC : Z.vm.findClass "[Ljava/lang/Object;" = some kO) (MIR : own_Mir Z "[Ljava/lang/Object;" mir) (SEm : Sta Z Z.heap "java/util/ImmutableCollections" "EMPTY" "Ljava/lang/Object;" (.ref em)) (I_y0 : Ins Z h0 y0 "java/lang/Object" true) :
    own_MF l own_m30 (Jvm.Cond.code own_m30 jdk_40_method_48_code 1 (some (.object "java/util/List")) :: ws) ({ frames := 7, cells := 2, slots := 3, locals := 93 } : Room) #[(.ref a)] Z h0 (Q_cpy_1 Z a t kO mir em y0 h0 n0) := by
  refine own_met (own := "java/util/List") (nme := "copyOf") rfl rfl (plainFor_of_name pn_12) ?_
  intro p e s m below meth c s₁ hx hby hml hown hnm X0 e0 hret hlk hZ
  have N0 := Fr.nil n0
  rw [ef_cpy_1 m a]
  refine own_st (T' := s₁) (g' := (mkF m 1 #[rv a] [(.ref a)])) (fun _ k_ => XS.aloadN X0.here hx rfl (hb hby d20_0) rfl rfl  k_) ?_
  obtain ⟨_, T1, L1, X1, hQ1, st1⟩ := own_callS X0 hx (y := own_m29) hown (mvT hZ (wd hw 125 rfl)) (mvT hZ (wd hw 126 rfl)) (mvT hZ (wd hw 127 rfl)) (mvT hZ (wd hw 128 rfl)) (by decide) (backOf (W := 0) (rm_lcp_1 l Z a0 hw [] a t kO mir em y0 h0 n0 O0 E_a Fe Fz V_t OV FC MIR SEm I_y0) hZ (wd hw 128 rfl) (wd hw 127 rfl) (by decide) (by decide)) (g := (mkF m 1 #[rv a] [(.ref a)])) rfl (by rw [hml]; rfl) (argsL := [(.ref a)]) (rest := []) (lenOf pd__Ljava_util_Collection__Ljava_util_List_ rfl) rfl (by show 2 * 0 + _ ≤ _; exact Nat.le_of_eq rfl) (hb hby d20_1) rfl e0 (by decide) (by decide) (c' := 2) (s' := 3) rfl rfl
  obtain ⟨x1, rfl, Nq1, K1, fq1_0, fq1_1, fq1_2, xq1_fresh_x⟩ := hQ1
  have N1 := Fr.app N0 Nq1
  refine own_st (T' := T1) (g' := (mkF m 4 #[rv a] [(.ref x1)])) st1 ?_
  clear st1
  have f2 := (Keep.refl h0 []).trans K1 all0
  exact own_retA X1 hx hret rfl rfl hlk (hb hby d20_4) (by decide) (by decide) ⟨x1, rfl, N1, f2, fq1_0, fq1_1, fq1_2, (Nat.le_trans (Keep.refl h0 []).1 xq1_fresh_x)⟩
theorem ef_cp3_2 (m : MethodId) (x0 : Addr) (x1 : Int32) (x2 : Addr) : entryFrame m #[(.ref x0), (.int x1), (.ref x2)] 4 = mkF m 0 #[rv x0, iv x1, rv x2, .unset] [] := by first | (simp [entryFrame, mkF, argsToLocals, Value.category]; done) | rfl
def Q_cp3_2 (Z : State) (t : Addr) (kO : ClassId) (mir : Addr) (y0 : Addr) (y1 : Addr) (h0 : Heap) (n0 : Nat) (v : Option Value) (h : Heap) (L : List Loc) : Prop := ∃ (u : Addr), (v = some (.ref u)) ∧ (Fr n0 L) ∧ (Keep h0 h []) ∧ (Arv Z h u kO (.object "java/lang/Object") (2 : Int32) [(.ref y0), (.ref y1)] .null) ∧ (h0.size ≤ u)
set_option maxRecDepth 65536 in
set_option maxHeartbeats 40000000 in
theorem rm_cp3_2 (l : Launch) (Z : State) (a0 : Array Value) (hw : ∀ d ∈ tables_1, d.before a0 Z = true) (ws : List Jvm.Cond) (t : Addr) (kO : ClassId) (mir : Addr) (y0 : Addr) (y1 : Addr) (h0 : Heap) (n0 : Nat) (O0 : Old Z n0 h0) (V_t : Arv Z h0 t kO (.object "java/lang/Object") (10 : Int32) [(.ref y0), (.ref y1), .null, .null, .null, .null, .null, .null, .null, .null] .null) (OV : Ovr Z kO "java/lang/Object") (FC : Z.vm.findClass "[Ljava/lang/Object;" = some kO) (MIR : own_Mir Z "[Ljava/lang/Object;" mir) (I_y0 : Ins Z h0 y0 "java/lang/Object" true) (I_y1 : Ins Z h0 y1 "java/lang/Object" true) :
    own_MF l own_m23 (Jvm.Cond.code own_m23 jdk_65_method_120_code 4 (some (.array (.object "java/lang/Object"))) :: ws) ({ frames := 1, cells := 1, slots := 2, locals := 40 } : Room) #[(.ref t), (.int (2 : Int32)), (.ref mir)] Z h0 (Q_cp3_2 Z t kO mir y0 y1 h0 n0) := by
  refine own_met (own := "java/util/Arrays") (nme := "copyOf") rfl rfl (plainFor_of_name pn_11) ?_
  intro p e s m below meth c s₁ hx hby hml hown hnm X0 e0 hret hlk hZ
  have N0 := Fr.nil n0
  rw [ef_cp3_2 m t (2 : Int32) mir]
  refine own_st (T' := s₁) (g' := (mkF m 1 #[rv t, iv (2 : Int32), rv mir, .unset] [(.ref mir)])) (fun _ k_ => XS.aloadN X0.here hx rfl (hb hby d25_0) rfl rfl  k_) ?_
  obtain ⟨T1, X1, e1, st1⟩ := own_ldk X0 hx hZ hown (wd hw 165 rfl) e0 MIR (g := (mkF m 1 #[rv t, iv (2 : Int32), rv mir, .unset] [(.ref mir)])) rfl (hb hby d25_1)
  refine own_st (T' := T1) (g' := (mkF m 3 #[rv t, iv (2 : Int32), rv mir, .unset] [(.ref mir), (.ref mir)])) st1 ?_
  clear st1
  refine own_st (T' := T1) (g' := (mkF m 6 #[rv t, iv (2 : Int32), rv mir, .unset] [])) (fun _ k_ => Jvm.RoadKit.acmp (g := (mkF m 3 #[rv t, iv (2 : Int32), rv mir, .unset] [(.ref mir), (.ref mir)])) X1 hx rfl rfl rfl (pc0 := 3) (pc' := 6) (same := true) rfl (hb hby d25_3) rfl (decide_eq_true rfl) (by decide) (by decide) k_) ?_
  refine own_st (T' := T1) (g' := (mkF m 7 #[rv t, iv (2 : Int32), rv mir, .unset] [(.int (2 : Int32))])) (fun _ k_ => XS.iloadN X1.here hx rfl (hb hby d25_6) rfl  k_) ?_
  obtain ⟨T2, h2, k2, X2, e2, E2, A2, EX2, O2, st2⟩ := newRE X1 hx hZ hown (wd hw 166 rfl) (wd hw 96 rfl) e1 (g := (mkF m 7 #[rv t, iv (2 : Int32), rv mir, .unset] [(.int (2 : Int32))])) rfl (hb hby d25_7) rfl (by decide) (cap := 2) (by decide) (by decide) (by decide) (by decide) (ad := "[Ljava/lang/Object;") (by decide)
  obtain rfl : kO = k2 := own_kk EX2 A2 FC
  clear EX2 O2
  obtain ⟨b2, g2⟩ : ∃ z, z = h0.size := ⟨_, rfl⟩
  rw [← g2] at A2 st2
  have fr2 : n0 ≤ b2 := Nat.le_trans (own_z O0) (Nat.le_of_eq g2.symm)
  have sz2 : h0.size ≤ b2 := Nat.le_trans (Keep.refl h0 []).1 (Nat.le_of_eq g2.symm)
  have V2 : Arv Z h2 b2 kO (.object "java/lang/Object") (2 : Int32) [.null, .null] .null := (Arv.new A2 (by decide)).pad (pad_rep [] .null 2)
  refine own_st (T' := T2) (g' := (mkF m 10 #[rv t, iv (2 : Int32), rv mir, .unset] [(.ref b2)])) st2 ?_
  clear st2
  refine own_st (T' := T2) (g' := (mkF m 24 #[rv t, iv (2 : Int32), rv mir, .unset] [(.ref b2)])) (fun _ k_ => XS.goto X2.here hx rfl (pc0 := 10) (pc' := 24) rfl (hb hby d25_10) (by decide) (by decide) k_) ?_
  refine own_st (T' := T2) (g' := (mkF m 25 #[rv t, iv (2 : Int32), rv mir, rv b2] [])) (fun _ k_ => XS.astoreN X2.here hx rfl (hb hby d25_24) rfl rfl (l' := #[rv t, iv (2 : Int32), rv mir, rv b2]) rfl k_) ?_
  refine own_st (T' := T2) (g' := (mkF m 26 #[rv t, iv (2 : Int32), rv mir, rv b2] [(.ref t)])) (fun _ k_ => XS.aloadN X2.here hx rfl (hb hby d25_25) rfl rfl  k_) ?_
  refine own_st (T' := T2) (g' := (mkF m 27 #[rv t, iv (2 : Int32), rv mir, rv b2] [(.int (0 : Int32)), (.ref t)])) (fun _ k_ => XS.iconst X2.here hx rfl (hb hby d25_26) k_) ?_
  refine own_st (T' := T2) (g' := (mkF m 28 #[rv t, iv (2 : Int32), rv mir, rv b2] [(.ref b2), (.int (0 : Int32)), (.ref t)])) (fun _ k_ => XS.aloadN X2.here hx rfl (hb hby d25_27) rfl rfl  k_) ?_
  refine own_st (T' := T2) (g' := (mkF m 29 #[rv t, iv (2 : Int32), rv mir, rv b2] [(.int (0 : Int32)), (.ref b2), (.int (0 : Int32)), (.ref t)])) (fun _ k_ => XS.iconst X2.here hx rfl (hb hby d25_28) k_) ?_
  refine own_st (T' := T2) (g' := (mkF m 30 #[rv t, iv (2 : Int32), rv mir, rv b2] [(.ref t), (.int (0 : Int32)), (.ref b2), (.int (0 : Int32)), (.ref t)])) (fun _ k_ => XS.aloadN X2.here hx rfl (hb hby d25_29) rfl rfl  k_) ?_
  have f4 := V_t.ext E2
  obtain ⟨cl3, Ar3, -, S3, N3, -, -⟩ := id f4
  refine own_st (T' := T2) (g' := (mkF m 31 #[rv t, iv (2 : Int32), rv mir, rv b2] [(.int (10 : Int32)), (.int (0 : Int32)), (.ref b2), (.int (0 : Int32)), (.ref t)])) (fun t_ k_ => X2.arraylength hx (by rw [e2]; exact Ar3.1) (State.isArrayOf_alike hZ.alike Ar3.2.1) (g := (mkF m 30 #[rv t, iv (2 : Int32), rv mir, rv b2] [(.ref t), (.int (0 : Int32)), (.ref b2), (.int (0 : Int32)), (.ref t)])) rfl rfl (hb hby d25_30) _ (by rw [len_of S3 N3]; exact k_)) ?_
  refine own_st (T' := T2) (g' := (mkF m 32 #[rv t, iv (2 : Int32), rv mir, rv b2] [(.int (2 : Int32)), (.int (10 : Int32)), (.int (0 : Int32)), (.ref b2), (.int (0 : Int32)), (.ref t)])) (fun _ k_ => XS.iloadN X2.here hx rfl (hb hby d25_31) rfl  k_) ?_
  have f5 := O0.ext E2
  obtain ⟨_, T6, L6, X6, hQ6, st6⟩ := own_callS X2 hx (y := own_m18) hown (mvT hZ (wd hw 167 rfl)) (mvT hZ (wd hw 168 rfl)) (mvT hZ (wd hw 93 rfl)) (mvT hZ (wd hw 169 rfl)) (by decide) (backOf (W := 4) (rm_min l Z a0 hw [] (10 : Int32) (2 : Int32) h2 n0 f5 (by decide)) hZ (wd hw 169 rfl) (wd hw 93 rfl) (by decide) (by decide)) (g := (mkF m 32 #[rv t, iv (2 : Int32), rv mir, rv b2] [(.int (2 : Int32)), (.int (10 : Int32)), (.int (0 : Int32)), (.ref b2), (.int (0 : Int32)), (.ref t)])) rfl (by rw [hml]; rfl) (argsL := [(.int (10 : Int32)), (.int (2 : Int32))]) (rest := [(.int (0 : Int32)), (.ref b2), (.int (0 : Int32)), (.ref t)]) (lenOf pd__II_I rfl) rfl (by show 2 * 0 + _ ≤ _; exact Nat.le_of_eq rfl) (hb hby d25_32) rfl e2 (by decide) (by decide) (c' := 1) (s' := 2) rfl rfl
  obtain ⟨rfl, Nq6, eq6⟩ := hQ6
  have N6 := Fr.app N0 Nq6
  refine own_st (T' := T6) (g' := (mkF m 35 #[rv t, iv (2 : Int32), rv mir, rv b2] [(.int (2 : Int32)), (.int (0 : Int32)), (.ref b2), (.int (0 : Int32)), (.ref t)])) st6 ?_
  clear st6
  obtain ⟨cl7, Ar7, q7, -⟩ := id V2
  have f8 := Ins.ext E2 I_y1
  have f9 := Ins.ext E2 I_y0
  obtain ⟨T7, h7, L7, X7, e7, N7, K7, Va7, st7⟩ := cpA X6 hx hZ hown (wd hw 170 rfl) (wd hw 173 rfl) (wd hw 171 rfl) (wd hw 172 rfl) eq6 f4 V2 (sp := (0 : Int32)) (dp := (0 : Int32)) (nn := (2 : Int32)) (us := [(.ref y0), (.ref y1)]) (Or.inr ⟨rfl, rfl, ⟨Sto.ofV Ar7 q7 OV f9, ⟨Sto.ofV Ar7 q7 OV f8, trivial⟩⟩⟩) (by decide) (by decide) (by decide) (by decide) (by decide) rfl (Nat.le_of_ble_eq_true rfl) N6 fr2 (g := (mkF m 35 #[rv t, iv (2 : Int32), rv mir, rv b2] [(.int (2 : Int32)), (.int (0 : Int32)), (.ref b2), (.int (0 : Int32)), (.ref t)])) rfl (by rw [hml]; rfl) (rest := []) rfl (hb hby d25_35) (by decide) (W := 0) (by show 2 * 0 + _ ≤ _; exact Nat.le_of_eq rfl) (by decide)
  clear Ar7 q7 cl7
  have V7 : Arv Z h7 b2 kO (.object "java/lang/Object") (2 : Int32) [(.ref y0), (.ref y1)] .null := Va7
  refine own_st (T' := T7) (g' := (mkF m 38 #[rv t, iv (2 : Int32), rv mir, rv b2] [])) st7 ?_
  clear st7
  refine own_st (T' := T7) (g' := (mkF m 39 #[rv t, iv (2 : Int32), rv mir, rv b2] [(.ref b2)])) (fun _ k_ => XS.aloadN X7.here hx rfl (hb hby d25_38) rfl rfl  k_) ?_
  have f10 := (Keep.refl h0 []).ext E2
  have f11 := f10.trans K7 (allS (Or.inr sz2) all0)
  exact own_retA X7 hx hret rfl rfl hlk (hb hby d25_39) (by decide) (by decide) (by rw [e7]; exact ⟨b2, rfl, N7, f11, V7, sz2⟩)
theorem ef_cp2_2 (m : MethodId) (x0 : Addr) (x1 : Int32) : entryFrame m #[(.ref x0), (.int x1)] 2 = mkF m 0 #[rv x0, iv x1] [] := by first | (simp [entryFrame, mkF, argsToLocals, Value.category]; done) | rfl
def Q_cp2_2 (Z : State) (t : Addr) (kO : ClassId) (mir : Addr) (y0 : Addr) (y1 : Addr) (h0 : Heap) (n0 : Nat) (v : Option Value) (h : Heap) (L : List Loc) : Prop := ∃ (u : Addr), (v = some (.ref u)) ∧ (Fr n0 L) ∧ (Keep h0 h []) ∧ (Arv Z h u kO (.object "java/lang/Object") (2 : Int32) [(.ref y0), (.ref y1)] .null) ∧ (h0.size ≤ u)
set_option maxRecDepth 65536 in
set_option maxHeartbeats 40000000 in
theorem rm_cp2_2 (l : Launch) (Z : State) (a0 : Array Value) (hw : ∀ d ∈ tables_1, d.before a0 Z = true) (ws : List Jvm.Cond) (t : Addr) (kO : ClassId) (mir : Addr) (y0 : Addr) (y1 : Addr) (h0 : Heap) (n0 : Nat) (O0 : Old Z n0 h0) (V_t : Arv Z h0 t kO (.object "java/lang/Object") (10 : Int32) [(.ref y0), (.ref y1), .null, .null, .null, .null, .null, .null, .null, .null] .null) (OV : Ovr Z kO "java/lang/Object") (FC : Z.vm.findClass "[Ljava/lang/Object;" = some kO) (MIR : own_Mir Z "[Ljava/lang/Object;" mir) (I_y0 : Ins Z h0 y0 "java/lang/Object" true) (I_y1 : Ins Z h0 y1 "java/lang/Object" true) :
    own_MF l own_m24 (Jvm.Cond.code own_m24 jdk_65_method_119_code 2 (some (.array (.object "java/lang/Object"))) :: ws) ({ frames := 2, cells := 1, slots := 2, locals := 55 } : Room) #[(.ref t), (.int (2 : Int32))] Z h0 (Q_cp2_2 Z t kO mir y0 y1 h0 n0) := by
  refine own_met (own := "java/util/Arrays") (nme := "copyOf") rfl rfl (plainFor_of_name pn_11) ?_
  intro p e s m below meth c s₁ hx hby hml hown hnm X0 e0 hret hlk hZ
  have N0 := Fr.nil n0
  rw [ef_cp2_2 m t (2 : Int32)]
  refine own_st (T' := s₁) (g' := (mkF m 1 #[rv t, iv (2 : Int32)] [(.ref t)])) (fun _ k_ => XS.aloadN X0.here hx rfl (hb hby d24_0) rfl rfl  k_) ?_
  refine own_st (T' := s₁) (g' := (mkF m 2 #[rv t, iv (2 : Int32)] [(.int (2 : Int32)), (.ref t)])) (fun _ k_ => XS.iloadN X0.here hx rfl (hb hby d24_1) rfl  k_) ?_
  refine own_st (T' := s₁) (g' := (mkF m 3 #[rv t, iv (2 : Int32)] [(.ref t), (.int (2 : Int32)), (.ref t)])) (fun _ k_ => XS.aloadN X0.here hx rfl (hb hby d24_2) rfl rfl  k_) ?_
  obtain ⟨T1, X1, e1, st1⟩ := own_gcls X0 hx hZ hown (wd hw 156 rfl) (wd hw 157 rfl) (wd hw 133 rfl) (wd hw 159 rfl) (wd hw 158 rfl) (wd hw 160 rfl) e0 (own_exaArv V_t FC) MIR (g := (mkF m 3 #[rv t, iv (2 : Int32)] [(.ref t), (.int (2 : Int32)), (.ref t)])) rfl (by rw [hml]; rfl) (rest := [(.int (2 : Int32)), (.ref t)]) rfl (hb hby d24_3) (by decide) (W := 2) (by show 2 * 0 + _ ≤ _; exact Nat.le_of_eq rfl) (by decide)
  refine own_st (T' := T1) (g' := (mkF m 6 #[rv t, iv (2 : Int32)] [(.ref mir), (.int (2 : Int32)), (.ref t)])) st1 ?_
  clear st1
  obtain ⟨_, T2, L2, X2, hQ2, st2⟩ := own_callS X1 hx (y := own_m23) hown (mvT hZ (wd hw 162 rfl)) (mvT hZ (wd hw 163 rfl)) (mvT hZ (wd hw 154 rfl)) (mvT hZ (wd hw 164 rfl)) (by decide) (backOf (W := 0) (rm_cp3_2 l Z a0 hw [] t kO mir y0 y1 h0 n0 O0 V_t OV FC MIR I_y0 I_y1) hZ (wd hw 164 rfl) (wd hw 154 rfl) (by decide) (by decide)) (g := (mkF m 6 #[rv t, iv (2 : Int32)] [(.ref mir), (.int (2 : Int32)), (.ref t)])) rfl (by rw [hml]; rfl) (argsL := [(.ref t), (.int (2 : Int32)), (.ref mir)]) (rest := []) (lenOf pd___Ljava_lang_Object_ILjava_lang_Class___Ljava_lang_Object_ rfl) rfl (by show 2 * 0 + _ ≤ _; exact Nat.le_of_eq rfl) (hb hby d24_6) rfl e1 (by decide) (by decide) (c' := 1) (s' := 2) rfl rfl
  obtain ⟨u2, rfl, Nq2, K2, fq2_0, xq2_fresh_u⟩ := hQ2
  have N2 := Fr.app N0 Nq2
  refine own_st (T' := T2) (g' := (mkF m 9 #[rv t, iv (2 : Int32)] [(.ref u2)])) st2 ?_
  clear st2
  have f3 := (Keep.refl h0 []).trans K2 all0
  exact own_retA X2 hx hret rfl rfl hlk (hb hby d24_9) (by decide) (by decide) ⟨u2, rfl, N2, f3, fq2_0, (Nat.le_trans (Keep.refl h0 []).1 xq2_fresh_u)⟩
theorem ef_tar_2 (m : MethodId) (x0 : Addr) : entryFrame m #[(.ref x0)] 1 = mkF m 0 #[rv x0] [] := by first | (simp [entryFrame, mkF, argsToLocals, Value.category]; done) | rfl
def Q_tar_2 (Z : State) (a : Addr) (t : Addr) (kO : ClassId) (mir : Addr) (y0 : Addr) (y1 : Addr) (h0 : Heap) (n0 : Nat) (v : Option Value) (h : Heap) (L : List Loc) : Prop := ∃ (u : Addr), (v = some (.ref u)) ∧ (Fr n0 L) ∧ (Keep h0 h []) ∧ (Arv Z h u kO (.object "java/lang/Object") (2 : Int32) [(.ref y0), (.ref y1)] .null) ∧ (h0.size ≤ u)
set_option maxRecDepth 65536 in
set_option maxHeartbeats 40000000 in
theorem rm_tar_2 (l : Launch) (Z : State) (a0 : Array Value) (hw : ∀ d ∈ tables_1, d.before a0 Z = true) (ws : List Jvm.Cond) (a : Addr) (t : Addr) (kO : ClassId) (mir : Addr) (y0 : Addr) (y1 : Addr) (h0 : Heap) (n0 : Nat) (O0 : Old Z n0 h0) (Fe : Fld Z h0 a "java/util/ArrayList" "elementData" "[Ljava/lang/Object;" (.ref t)) (Fz : Fld Z h0 a "java/util/ArrayList" "size" "I" (.int (2 : Int32))) (V_t : Arv Z h0 t kO (.object "java/lang/Object") (10 : Int32) [(.ref y0), (.ref y1), .null, .null, .null, .null, .null, .null, .null, .null] .null) (OV : Ovr Z kO "java/lang/Object") (FC : Z.vm.findClass "[Ljava/lang/Object;" = some kO) (MIR : own_Mir Z "[Ljava/lang/Object;" mir) (I_y0 : Ins Z h0 y0 "java/lang/Object" true) (I_y1 : Ins Z h0 y1 "java/lang/Object" true) :
    own_MF l own_m25 (Jvm.Cond.code own_m25 jdk_38_method_16_code 1 (some (.array (.object "java/lang/Object"))) :: ws) ({ frames := 3, cells := 1, slots := 2, locals := 68 } : Room) #[(.ref a)] Z h0 (Q_tar_2 Z a t kO mir y0 y1 h0 n0) := by
  refine own_met (own := "java/util/ArrayList") (nme := "toArray") rfl rfl (plainFor_of_name pn_5) ?_
  intro p e s m below meth c s₁ hx hby hml hown hnm X0 e0 hret hlk hZ
  have N0 := Fr.nil n0
  rw [ef_tar_2 m a]
  refine own_st (T' := s₁) (g' := (mkF m 1 #[rv a] [(.ref a)])) (fun _ k_ => XS.aloadN X0.here hx rfl (hb hby d23_0) rfl rfl  k_) ?_
  obtain ⟨T1, X1, e1, st1⟩ := getF X0 hx hZ hown (host := "") (Or.inl (wd hw 65 rfl)) Via.refl e0 Fe (g := (mkF m 1 #[rv a] [(.ref a)])) rfl rfl (hb hby d23_1)
  refine own_st (T' := T1) (g' := (mkF m 4 #[rv a] [(.ref t)])) st1 ?_
  clear st1
  refine own_st (T' := T1) (g' := (mkF m 5 #[rv a] [(.ref a), (.ref t)])) (fun _ k_ => XS.aloadN X1.here hx rfl (hb hby d23_4) rfl rfl  k_) ?_
  obtain ⟨T2, X2, e2, st2⟩ := getF X1 hx hZ hown (host := "") (Or.inl (wd hw 74 rfl)) Via.refl e1 Fz (g := (mkF m 5 #[rv a] [(.ref a), (.ref t)])) rfl rfl (hb hby d23_5)
  refine own_st (T' := T2) (g' := (mkF m 8 #[rv a] [(.int (2 : Int32)), (.ref t)])) st2 ?_
  clear st2
  obtain ⟨_, T3, L3, X3, hQ3, st3⟩ := own_callS X2 hx (y := own_m24) hown (mvT hZ (wd hw 152 rfl)) (mvT hZ (wd hw 153 rfl)) (mvT hZ (wd hw 154 rfl)) (mvT hZ (wd hw 155 rfl)) (by decide) (backOf (W := 0) (rm_cp2_2 l Z a0 hw [] t kO mir y0 y1 h0 n0 O0 V_t OV FC MIR I_y0 I_y1) hZ (wd hw 155 rfl) (wd hw 154 rfl) (by decide) (by decide)) (g := (mkF m 8 #[rv a] [(.int (2 : Int32)), (.ref t)])) rfl (by rw [hml]; rfl) (argsL := [(.ref t), (.int (2 : Int32))]) (rest := []) (lenOf pd___Ljava_lang_Object_I__Ljava_lang_Object_ rfl) rfl (by show 2 * 0 + _ ≤ _; exact Nat.le_of_eq rfl) (hb hby d23_8) rfl e2 (by decide) (by decide) (c' := 1) (s' := 2) rfl rfl
  obtain ⟨u3, rfl, Nq3, K3, fq3_0, xq3_fresh_u⟩ := hQ3
  have N3 := Fr.app N0 Nq3
  refine own_st (T' := T3) (g' := (mkF m 11 #[rv a] [(.ref u3)])) st3 ?_
  clear st3
  have f4 := (Keep.refl h0 []).trans K3 all0
  exact own_retA X3 hx hret rfl rfl hlk (hb hby d23_11) (by decide) (by decide) ⟨u3, rfl, N3, f4, fq3_0, (Nat.le_trans (Keep.refl h0 []).1 xq3_fresh_u)⟩
theorem d27_45 : decode jdk_40_method_47_code 45 = .ok (.new 96, 3) := by decide +kernel
theorem d27_48 : decode jdk_40_method_47_code 48 = .ok (.dup, 1) := by decide +kernel
theorem d27_49 : decode jdk_40_method_47_code 49 = .ok (.aload_n 0, 1) := by decide +kernel
theorem d27_50 : decode jdk_40_method_47_code 50 = .ok (.iconst 0, 1) := by decide +kernel
theorem d27_51 : decode jdk_40_method_47_code 51 = .ok (.aaload, 1) := by decide +kernel
theorem d27_52 : decode jdk_40_method_47_code 52 = .ok (.aload_n 0, 1) := by decide +kernel
theorem d27_53 : decode jdk_40_method_47_code 53 = .ok (.iconst 1, 1) := by decide +kernel
theorem d27_54 : decode jdk_40_method_47_code 54 = .ok (.aaload, 1) := by decide +kernel
theorem d27_55 : decode jdk_40_method_47_code 55 = .ok (.invokespecial 100, 3) := by decide +kernel
theorem d27_58 : decode jdk_40_method_47_code 58 = .ok (.areturn, 1) := by decide +kernel
theorem pd__Ljava_lang_Object_Ljava_lang_Object__V : parseMethodDescriptor "(Ljava/lang/Object;Ljava/lang/Object;)V" = some ⟨[(.object "java/lang/Object"), (.object "java/lang/Object")], none⟩ := by decide +kernel
theorem ef_lof_2 (m : MethodId) (x0 : Addr) : entryFrame m #[(.ref x0)] 2 = mkF m 0 #[rv x0, .unset] [] := by first | (simp [entryFrame, mkF, argsToLocals, Value.category]; done) | rfl
def Q_lof_2 (Z : State) (u : Addr) (kO : ClassId) (y0 : Addr) (y1 : Addr) (h0 : Heap) (n0 : Nat) (v : Option Value) (h : Heap) (L : List Loc) : Prop := ∃ (x : Addr), (v = some (.ref x)) ∧ (Fr n0 L) ∧ (Keep h0 h []) ∧ (Exa Z h x "java/util/ImmutableCollections$List12") ∧ (Fld Z h x "java/util/ImmutableCollections$List12" "e0" "Ljava/lang/Object;" (.ref y0)) ∧ (Fld Z h x "java/util/ImmutableCollections$List12" "e1" "Ljava/lang/Object;" (.ref y1)) ∧ (h0.size ≤ x)
set_option maxRecDepth 65536 in
set_option maxHeartbeats 40000000 in
theorem rm_lof_2 (l : Launch) (Z : State) (a0 : Array Value) (hw : ∀ d ∈ tables_1, d.before a0 Z = true) (ws : List Jvm.Cond) (u : Addr) (kO : ClassId) (y0 : Addr) (y1 : Addr) (h0 : Heap) (n0 : Nat) (O0 : Old Z n0 h0) (V_u : Arv Z h0 u kO (.object "java/lang/Object") (2 : Int32) [(.ref y0), (.ref y1)] .null) (OV : Ovr Z kO "java/lang/Object") (FC : Z.vm.findClass "[Ljava/lang/Object;" = some kO) (I_y0 : Ins Z h0 y0 "java/lang/Object" true) (I_y1 : Ins Z h0 y1 "java/lang/Object" true) :
    own_MF l own_m26 (Jvm.Cond.code own_m26 jdk_40_method_47_code 2 (some (.object "java/util/List")) :: ws) ({ frames := 5, cells := 1, slots := 2, locals := 63 } : Room) #[(.ref u)] Z h0 (Q_lof_2 Z u kO y0 y1 h0 n0) := by
  refine own_met (own := "java/util/List") (nme := "of") rfl rfl (plainFor_of_name pn_12) ?_
  intro p e s m below meth c s₁ hx hby hml hown hnm X0 e0 hret hlk hZ
  have N0 := Fr.nil n0
  rw [ef_lof_2 m u]
  refine own_st (T' := s₁) (g' := (mkF m 1 #[rv u, .unset] [(.ref u)])) (fun _ k_ => XS.aloadN X0.here hx rfl (hb hby d27_0) rfl rfl  k_) ?_
  obtain ⟨cl1, Ar1, -, S1, N1, -, -⟩ := id V_u
  refine own_st (T' := s₁) (g' := (mkF m 2 #[rv u, .unset] [(.int (2 : Int32))])) (fun t_ k_ => X0.arraylength hx (by rw [e0]; exact Ar1.1) (State.isArrayOf_alike hZ.alike Ar1.2.1) (g := (mkF m 1 #[rv u, .unset] [(.ref u)])) rfl rfl (hb hby d27_1) _ (by rw [len_of S1 N1]; exact k_)) ?_
  refine own_st (T' := s₁) (g' := (mkF m 45 #[rv u, .unset] [])) (fun t_ k_ => X0.tableswitchIn hx (g := (mkF m 2 #[rv u, .unset] [(.int (2 : Int32))])) rfl (k := (2 : Int32)) (rest := []) rfl (hb hby d27_2) (by decide) (off := 43) rfl (show (0 : Int) ≤ ((2 : Nat) : Int) + 43 by decide) _ k_) ?_
  obtain ⟨T2, h2, X2, e2, E2, A2, D2, -, st2⟩ := newO X0 hx hZ hown (wd hw 177 rfl) (wd hw 178 rfl) (wd hw 179 rfl) e0 (g := (mkF m 45 #[rv u, .unset] [])) rfl (hb hby d27_45) (by decide) (by decide)
  obtain ⟨b2, g2⟩ : ∃ z, z = h0.size := ⟨_, rfl⟩
  rw [← g2] at A2 D2 st2
  have fr2 : n0 ≤ b2 := Nat.le_trans (own_z O0) (Nat.le_of_eq g2.symm)
  have sz2 : h0.size ≤ b2 := Nat.le_trans (Keep.refl h0 []).1 (Nat.le_of_eq g2.symm)
  have F2_e0 : Fld Z h2 b2 "java/util/ImmutableCollections$List12" "e0" "Ljava/lang/Object;" .null := D2 (Or.inr (wd hw 203 rfl)) (ty := (.object "java/lang/Object")) (by decide)
  have F2_e1 : Fld Z h2 b2 "java/util/ImmutableCollections$List12" "e1" "Ljava/lang/Object;" .null := D2 (Or.inr (wd hw 205 rfl)) (ty := (.object "java/lang/Object")) (by decide)
  refine own_st (T' := T2) (g' := (mkF m 48 #[rv u, .unset] [(.ref b2)])) st2 ?_
  clear st2
  refine own_st (T' := T2) (g' := (mkF m 49 #[rv u, .unset] [(.ref b2), (.ref b2)])) (fun _ k_ => XS.dup X2.here hx rfl (hb hby d27_48) rfl rfl k_) ?_
  refine own_st (T' := T2) (g' := (mkF m 50 #[rv u, .unset] [(.ref u), (.ref b2), (.ref b2)])) (fun _ k_ => XS.aloadN X2.here hx rfl (hb hby d27_49) rfl rfl  k_) ?_
  refine own_st (T' := T2) (g' := (mkF m 51 #[rv u, .unset] [(.int (0 : Int32)), (.ref u), (.ref b2), (.ref b2)])) (fun _ k_ => XS.iconst X2.here hx rfl (hb hby d27_50) k_) ?_
  have f3 := V_u.ext E2
  obtain ⟨cl4, Ar4, q4, S4, N4, H4, G4⟩ := id f3
  have hin4 : ¬ ((0 : Int32) < 0 ∨ cl4.slots.size ≤ ((0 : Int32)).toNatClampNeg) := inb_of S4 ⟨by decide, by decide⟩
  refine own_st (T' := T2) (g' := (mkF m 52 #[rv u, .unset] [(.ref y0), (.ref b2), (.ref b2)])) (X2.aaload hx (j := (0 : Int32)) (v := (.ref y0)) (by rw [e2]; exact Ar4.1) (State.isArrayOf_alike hZ.alike Ar4.2.1) rfl Ar4.2.2 hin4 (H4.at hin4 rfl) (g := (mkF m 51 #[rv u, .unset] [(.int (0 : Int32)), (.ref u), (.ref b2), (.ref b2)])) rfl rfl (hb hby d27_51)) ?_
  clear hin4 G4 H4 N4 S4 q4 Ar4 cl4
  refine own_st (T' := T2) (g' := (mkF m 53 #[rv u, .unset] [(.ref u), (.ref y0), (.ref b2), (.ref b2)])) (fun _ k_ => XS.aloadN X2.here hx rfl (hb hby d27_52) rfl rfl  k_) ?_
  refine own_st (T' := T2) (g' := (mkF m 54 #[rv u, .unset] [(.int (1 : Int32)), (.ref u), (.ref y0), (.ref b2), (.ref b2)])) (fun _ k_ => XS.iconst X2.here hx rfl (hb hby d27_53) k_) ?_
  obtain ⟨cl5, Ar5, q5, S5, N5, H5, G5⟩ := id f3
  have hin5 : ¬ ((1 : Int32) < 0 ∨ cl5.slots.size ≤ ((1 : Int32)).toNatClampNeg) := inb_of S5 ⟨by decide, by decide⟩
  refine own_st (T' := T2) (g' := (mkF m 55 #[rv u, .unset] [(.ref y1), (.ref y0), (.ref b2), (.ref b2)])) (X2.aaload hx (j := (1 : Int32)) (v := (.ref y1)) (by rw [e2]; exact Ar5.1) (State.isArrayOf_alike hZ.alike Ar5.2.1) rfl Ar5.2.2 hin5 (H5.at hin5 rfl) (g := (mkF m 54 #[rv u, .unset] [(.int (1 : Int32)), (.ref u), (.ref y0), (.ref b2), (.ref b2)])) rfl rfl (hb hby d27_54)) ?_
  clear hin5 G5 H5 N5 S5 q5 Ar5 cl5
  have f6 := O0.ext E2
  obtain ⟨_, T7, L7, X7, hQ7, st7⟩ := own_callI X2 hx (y := own_m20) rfl hown (mvT hZ (wd hw 180 rfl)) (mvT hZ (wd hw 181 rfl)) (mvT hZ (wd hw 183 rfl)) (by decide) (backOf (W := 1) (rm_l12b l Z a0 hw [] b2 y0 y1 h2 n0 f6 A2 F2_e0 F2_e1 fr2) hZ (wd hw 183 rfl) (wd hw 179 rfl) (by decide) (by decide)) (g := (mkF m 55 #[rv u, .unset] [(.ref y1), (.ref y0), (.ref b2), (.ref b2)])) rfl (by rw [hml]; rfl) (a := b2) (argsL := [(.ref y0), (.ref y1)]) (rest := [(.ref b2)]) (lenOf pd__Ljava_lang_Object_Ljava_lang_Object__V rfl) rfl (by show 2 * 0 + _ ≤ _; exact Nat.le_of_eq rfl) (hb hby d27_55) rfl e2 (by decide) (by decide) (c' := 1) (s' := 2) rfl rfl
  obtain ⟨rfl, Nq7, K7, fq7_0, fq7_1, fq7_2⟩ := hQ7
  have N7 := Fr.app N0 Nq7
  refine own_st (T' := T7) (g' := (mkF m 58 #[rv u, .unset] [(.ref b2)])) st7 ?_
  clear st7
  have f8 := (Keep.refl h0 []).ext E2
  have f9 := f8.trans K7 (allS (Or.inr sz2) all0)
  exact own_retA X7 hx hret rfl rfl hlk (hb hby d27_58) (by decide) (by decide) ⟨b2, rfl, N7, f9, fq7_0, fq7_1, fq7_2, sz2⟩
theorem ef_lcp_2 (m : MethodId) (x0 : Addr) : entryFrame m #[(.ref x0)] 2 = mkF m 0 #[rv x0, .unset] [] := by first | (simp [entryFrame, mkF, argsToLocals, Value.category]; done) | rfl
def Q_lcp_2 (Z : State) (a : Addr) (t : Addr) (kO : ClassId) (mir : Addr) (y0 : Addr) (y1 : Addr) (h0 : Heap) (n0 : Nat) (v : Option Value) (h : Heap) (L : List Loc) : Prop := ∃ (x : Addr), (v = some (.ref x)) ∧ (Fr n0 L) ∧ (Keep h0 h []) ∧ (Exa Z h x "java/util/ImmutableCollections$List12") ∧ (Fld Z h x "java/util/ImmutableCollections$List12" "e0" "Ljava/lang/Object;" (.ref y0)) ∧ (Fld Z h x "java/util/ImmutableCollections$List12" "e1" "Ljava/lang/Object;" (.ref y1)) ∧ (h0.size ≤ x)
set_option maxRecDepth 65536 in
set_option maxHeartbeats 40000000 in
theorem rm_lcp_2 (l : Launch) (Z : State) (a0 : Array Value) (hw : ∀ d ∈ tables_1, d.before a0 Z = true) (ws : List Jvm.Cond) (a : Addr) (t : Addr) (kO : ClassId) (mir : Addr) (y0 : Addr) (y1 : Addr) (h0 : Heap) (n0 : Nat) (O0 : Old Z n0 h0) (E_a : Exa Z h0 a "java/util/ArrayList") (Fe : Fld Z h0 a "java/util/ArrayList" "elementData" "[Ljava/lang/Object;" (.ref t)) (Fz : Fld Z h0 a "java/util/ArrayList" "size" "I" (.int (2 : Int32))) (V_t : Arv Z h0 t kO (.object "java/lang/Object") (10 : Int32) [(.ref y0), (.ref y1), .null, .null, .null, .null, .null, .null, .null, .null] .null) (OV : Ovr Z kO "java/lang/Object") (FC : Z.vm.findClass "[Ljava/lang/Object;" = some kO) (MIR : own_Mir Z "[Ljava/lang/Object;" mir) (I_y0 : Ins Z h0 y0 "java/lang/Object" true) (I_y1 : Ins Z h0 y1 "java/lang/Object" true) :
    own_MF l own_m29 (Jvm.Cond.code own_m29 jdk_56_method_3_code 2 (some (.object "java/util/List")) :: ws) ({ frames := 6, cells := 2, slots := 4, locals := 80 } : Room) #[(.ref a)] Z h0 (Q_lcp_2 Z a t kO mir y0 y1 h0 n0) := by
  refine own_met (own := "java/util/ImmutableCollections") (nme := "listCopy") rfl rfl (plainFor_of_name pn_13) ?_
  intro p e s m below meth c s₁ hx hby hml hown hnm X0 e0 hret hlk hZ
  have N0 := Fr.nil n0
  rw [ef_lcp_2 m a]
  refine own_st (T' := s₁) (g' := (mkF m 1 #[rv a, .unset] [(.ref a)])) (fun _ k_ => XS.aloadN X0.here hx rfl (hb hby d21_0) rfl rfl  k_) ?_
  obtain ⟨T1, X1, e1, st1⟩ := instNo X0 hx hZ hown (wd hw 129 rfl) e0 E_a (own_no0 hw) (g := (mkF m 1 #[rv a, .unset] [(.ref a)])) rfl rfl (hb hby d21_1)
  refine own_st (T' := T1) (g' := (mkF m 4 #[rv a, .unset] [(.int (0 : Int32))])) st1 ?_
  clear st1
  refine own_st (T' := T1) (g' := (mkF m 7 #[rv a, .unset] [])) (fun _ k_ => XS.ifNo X1.here hx rfl (hb hby d21_4) rfl ((if0 _ _).trans (teq (rfl : (0 : Int32) = (0 : Int32))).2) k_) ?_
  refine own_st (T' := T1) (g' := (mkF m 8 #[rv a, .unset] [(.ref a)])) (fun _ k_ => XS.aloadN X1.here hx rfl (hb hby d21_7) rfl rfl  k_) ?_
  obtain ⟨T2, X2, e2, st2⟩ := instNo X1 hx hZ hown (wd hw 134 rfl) e1 E_a (own_no1 hw) (g := (mkF m 8 #[rv a, .unset] [(.ref a)])) rfl rfl (hb hby d21_8)
  refine own_st (T' := T2) (g' := (mkF m 11 #[rv a, .unset] [(.int (0 : Int32))])) st2 ?_
  clear st2
  refine own_st (T' := T2) (g' := (mkF m 31 #[rv a, .unset] [])) (fun _ k_ => XS.ifYes X2.here hx rfl (pc0 := 11) (pc' := 31) rfl (hb hby d21_11) rfl ((if0 _ _).trans (teq (rfl : (0 : Int32) = (0 : Int32))).1) (by decide) (by decide) k_) ?_
  refine own_st (T' := T2) (g' := (mkF m 32 #[rv a, .unset] [(.ref a)])) (fun _ k_ => XS.aloadN X2.here hx rfl (hb hby d21_31) rfl rfl  k_) ?_
  obtain ⟨cq3, kq3, q3a, q3b, q3c⟩ := isOf hZ e2 E_a
  obtain ⟨_, T3, L3, X3, hQ3, st3⟩ := own_callF X2 hx (xi := own_m27) (y := own_m19) hown (mvT hZ (wd hw 135 rfl)) (mvT hZ (wd hw 136 rfl)) (mvT hZ (wd hw 137 rfl)) (mvT hZ (wd hw 138 rfl)) (mvT hZ (wd hw 139 rfl)) (mvT hZ (wd hw 140 rfl)) (mvT hZ (wd hw 141 rfl)) (mvT hZ (wd hw 142 rfl)) (by decide) (backOf (W := 0) (rm_alem l Z a0 hw [] a (2 : Int32) h0 n0 O0 Fz (by decide)) hZ (wd hw 143 rfl) (wd hw 45 rfl) (by decide) (by decide)) q3a q3b q3c (g := (mkF m 32 #[rv a, .unset] [(.ref a)])) rfl (by rw [hml]; rfl) (argsL := []) (rest := []) (lenOf pd___Z rfl) rfl (by show 2 * 0 + _ ≤ _; exact Nat.le_of_eq rfl) (hb hby d21_32) rfl e2 (by decide) (by decide) (c' := 0) (s' := 0) rfl rfl
  clear q3a q3b q3c kq3 cq3
  obtain ⟨rfl, Nq3, eq3⟩ := hQ3
  have N3 := Fr.app N0 Nq3
  refine own_st (T' := T3) (g' := (mkF m 37 #[rv a, .unset] [(.int (0 : Int32))])) st3 ?_
  clear st3
  refine own_st (T' := T3) (g' := (mkF m 44 #[rv a, .unset] [])) (fun _ k_ => XS.ifYes X3.here hx rfl (pc0 := 37) (pc' := 44) rfl (hb hby d21_37) rfl ((if0 _ _).trans (teq (rfl : (0 : Int32) = (0 : Int32))).1) (by decide) (by decide) k_) ?_
  refine own_st (T' := T3) (g' := (mkF m 45 #[rv a, .unset] [(.ref a)])) (fun _ k_ => XS.aloadN X3.here hx rfl (hb hby d21_44) rfl rfl  k_) ?_
  obtain ⟨cq4, kq4, q4a, q4b, q4c⟩ := isOf hZ eq3 E_a
  obtain ⟨_, T4, L4, X4, hQ4, st4⟩ := own_callF X3 hx (xi := own_m28) (y := own_m25) hown (mvT hZ (wd hw 144 rfl)) (mvT hZ (wd hw 145 rfl)) (mvT hZ (wd hw 146 rfl)) (mvT hZ (wd hw 147 rfl)) (mvT hZ (wd hw 148 rfl)) (mvT hZ (wd hw 149 rfl)) (mvT hZ (wd hw 150 rfl)) (mvT hZ (wd hw 142 rfl)) (by decide) (backOf (W := 0) (rm_tar_2 l Z a0 hw [] a t kO mir y0 y1 h0 n0 O0 Fe Fz V_t OV FC MIR I_y0 I_y1) hZ (wd hw 151 rfl) (wd hw 45 rfl) (by decide) (by decide)) q4a q4b q4c (g := (mkF m 45 #[rv a, .unset] [(.ref a)])) rfl (by rw [hml]; rfl) (argsL := []) (rest := []) (lenOf pd____Ljava_lang_Object_ rfl) rfl (by show 2 * 0 + _ ≤ _; exact Nat.le_of_eq rfl) (hb hby d21_45) rfl eq3 (by decide) (by decide) (c' := 1) (s' := 2) rfl rfl
  clear q4a q4b q4c kq4 cq4
  obtain ⟨u4, rfl, Nq4, K4, fq4_0, xq4_fresh_u⟩ := hQ4
  have N4 := Fr.app N3 Nq4
  refine own_st (T' := T4) (g' := (mkF m 50 #[rv a, .unset] [(.ref u4)])) st4 ?_
  clear st4
  have f5 := own_insK I_y0 K4
  have f6 := own_insK I_y1 K4
  have f7 := O0.keep K4 all0
  have f8 := (Keep.refl h0 []).trans K4 all0
  obtain ⟨_, T9, L9, X9, hQ9, st9⟩ := own_callS X4 hx (y := own_m26) hown (mvT hZ (wd hw 174 rfl)) (mvT hZ (wd hw 175 rfl)) (mvT hZ (wd hw 123 rfl)) (mvT hZ (wd hw 176 rfl)) (by decide) (backOf (W := 0) (rm_lof_2 l Z a0 hw [] u4 kO y0 y1 T4.heap n0 f7 fq4_0 OV FC f5 f6) hZ (wd hw 176 rfl) (wd hw 123 rfl) (by decide) (by decide)) (g := (mkF m 50 #[rv a, .unset] [(.ref u4)])) rfl (by rw [hml]; rfl) (argsL := [(.ref u4)]) (rest := []) (lenOf pd___Ljava_lang_Object__Ljava_util_List_ rfl) rfl (by show 2 * 0 + _ ≤ _; exact Nat.le_of_eq rfl) (hb hby d21_50) rfl rfl (by decide) (by decide) (c' := 2) (s' := 4) rfl rfl
  obtain ⟨x9, rfl, Nq9, K9, fq9_0, fq9_1, fq9_2, xq9_fresh_x⟩ := hQ9
  have N9 := Fr.app N4 Nq9
  refine own_st (T' := T9) (g' := (mkF m 53 #[rv a, .unset] [(.ref x9)])) st9 ?_
  clear st9
  have f10 := f8.trans K9 all0
  exact own_retA X9 hx hret rfl rfl hlk (hb hby d21_53) (by decide) (by decide) ⟨x9, rfl, N9, f10, fq9_0, fq9_1, fq9_2, (Nat.le_trans f8.1 xq9_fresh_x)⟩
theorem ef_cpy_2 (m : MethodId) (x0 : Addr) : entryFrame m #[(.ref x0)] 1 = mkF m 0 #[rv x0] [] := by first | (simp [entryFrame, mkF, argsToLocals, Value.category]; done) | rfl
def Q_cpy_2 (Z : State) (a : Addr) (t : Addr) (kO : ClassId) (mir : Addr) (y0 : Addr) (y1 : Addr) (h0 : Heap) (n0 : Nat) (v : Option Value) (h : Heap) (L : List Loc) : Prop := ∃ (x : Addr), (v = some (.ref x)) ∧ (Fr n0 L) ∧ (Keep h0 h []) ∧ (Exa Z h x "java/util/ImmutableCollections$List12") ∧ (Fld Z h x "java/util/ImmutableCollections$List12" "e0" "Ljava/lang/Object;" (.ref y0)) ∧ (Fld Z h x "java/util/ImmutableCollections$List12" "e1" "Ljava/lang/Object;" (.ref y1)) ∧ (h0.size ≤ x)
set_option maxRecDepth 65536 in
set_option maxHeartbeats 40000000 in
theorem rm_cpy_2 (l : Launch) (Z : State) (a0 : Array Value) (hw : ∀ d ∈ tables_1, d.before a0 Z = true) (ws : List Jvm.Cond) (a : Addr) (t : Addr) (kO : ClassId) (mir : Addr) (y0 : Addr) (y1 : Addr) (h0 : Heap) (n0 : Nat) (O0 : Old Z n0 h0) (E_a : Exa Z h0 a "java/util/ArrayList") (Fe : Fld Z h0 a "java/util/ArrayList" "elementData" "[Ljava/lang/Object;" (.ref t)) (Fz : Fld Z h0 a "java/util/ArrayList" "size" "I" (.int (2 : Int32))) (V_t : Arv Z h0 t kO (.object "java/lang/Object") (10 : Int32) [(.ref y0), (.ref y1), .null, .null, .null, .null, .null, .null, .null, .null] .null) (OV : Ovr Z kO "java/lang/Object") (FC : Z.vm.findClass "[Ljava/lang/Object;" = some kO) (MIR : own_Mir Z "[Ljava/lang/Object;" mir) (I_y0 : Ins Z h0 y0 "java/lang/Object" true) (I_y1 : Ins Z h0 y1 "java/lang/Object" true) :
    own_MF l own_m30 (Jvm.Cond.code own_m30 jdk_40_method_48_code 1 (some (.object "java/util/List")) :: ws) ({ frames := 7, cells := 2, slots := 4, locals := 93 } : Room) #[(.ref a)] Z h0 (Q_cpy_2 Z a t kO mir y0 y1 h0 n0) := by
  refine own_met (own := "java/util/List") (nme := "copyOf") rfl rfl (plainFor_of_name pn_12) ?_
  intro p e s m below meth c s₁ hx hby hml hown hnm X0 e0 hret hlk hZ
  have N0 := Fr.nil n0
  rw [ef_cpy_2 m a]
  refine own_st (T' := s₁) (g' := (mkF m 1 #[rv a] [(.ref a)])) (fun _ k_ => XS.aloadN X0.here hx rfl (hb hby d20_0) rfl rfl  k_) ?_
  obtain ⟨_, T1, L1, X1, hQ1, st1⟩ := own_callS X0 hx (y := own_m29) hown (mvT hZ (wd hw 125 rfl)) (mvT hZ (wd hw 126 rfl)) (mvT hZ (wd hw 127 rfl)) (mvT hZ (wd hw 128 rfl)) (by decide) (backOf (W := 0) (rm_lcp_2 l Z a0 hw [] a t kO mir y0 y1 h0 n0 O0 E_a Fe Fz V_t OV FC MIR I_y0 I_y1) hZ (wd hw 128 rfl) (wd hw 127 rfl) (by decide) (by decide)) (g := (mkF m 1 #[rv a] [(.ref a)])) rfl (by rw [hml]; rfl) (argsL := [(.ref a)]) (rest := []) (lenOf pd__Ljava_util_Collection__Ljava_util_List_ rfl) rfl (by show 2 * 0 + _ ≤ _; exact Nat.le_of_eq rfl) (hb hby d20_1) rfl e0 (by decide) (by decide) (c' := 2) (s' := 4) rfl rfl
  obtain ⟨x1, rfl, Nq1, K1, fq1_0, fq1_1, fq1_2, xq1_fresh_x⟩ := hQ1
  have N1 := Fr.app N0 Nq1
  refine own_st (T' := T1) (g' := (mkF m 4 #[rv a] [(.ref x1)])) st1 ?_
  clear st1
  have f2 := (Keep.refl h0 []).trans K1 all0
  exact own_retA X1 hx hret rfl rfl hlk (hb hby d20_4) (by decide) (by decide) ⟨x1, rfl, N1, f2, fq1_0, fq1_1, fq1_2, (Nat.le_trans (Keep.refl h0 []).1 xq1_fresh_x)⟩
theorem ef_cp3_3 (m : MethodId) (x0 : Addr) (x1 : Int32) (x2 : Addr) : entryFrame m #[(.ref x0), (.int x1), (.ref x2)] 4 = mkF m 0 #[rv x0, iv x1, rv x2, .unset] [] := by first | (simp [entryFrame, mkF, argsToLocals, Value.category]; done) | rfl
def Q_cp3_3 (Z : State) (t : Addr) (kO : ClassId) (mir : Addr) (y0 : Addr) (y1 : Addr) (y2 : Addr) (h0 : Heap) (n0 : Nat) (v : Option Value) (h : Heap) (L : List Loc) : Prop := ∃ (u : Addr), (v = some (.ref u)) ∧ (Fr n0 L) ∧ (Keep h0 h []) ∧ (Arv Z h u kO (.object "java/lang/Object") (3 : Int32) [(.ref y0), (.ref y1), (.ref y2)] .null) ∧ (h0.size ≤ u)
set_option maxRecDepth 65536 in
set_option maxHeartbeats 40000000 in
theorem rm_cp3_3 (l : Launch) (Z : State) (a0 : Array Value) (hw : ∀ d ∈ tables_1, d.before a0 Z = true) (ws : List Jvm.Cond) (t : Addr) (kO : ClassId) (mir : Addr) (y0 : Addr) (y1 : Addr) (y2 : Addr) (h0 : Heap) (n0 : Nat) (O0 : Old Z n0 h0) (V_t : Arv Z h0 t kO (.object "java/lang/Object") (10 : Int32) [(.ref y0), (.ref y1), (.ref y2), .null, .null, .null, .null, .null, .null, .null] .null) (OV : Ovr Z kO "java/lang/Object") (FC : Z.vm.findClass "[Ljava/lang/Object;" = some kO) (MIR : own_Mir Z "[Ljava/lang/Object;" mir) (I_y0 : Ins Z h0 y0 "java/lang/Object" true) (I_y1 : Ins Z h0 y1 "java/lang/Object" true) (I_y2 : Ins Z h0 y2 "java/lang/Object" true) :
    own_MF l own_m23 (Jvm.Cond.code own_m23 jdk_65_method_120_code 4 (some (.array (.object "java/lang/Object"))) :: ws) ({ frames := 1, cells := 1, slots := 3, locals := 40 } : Room) #[(.ref t), (.int (3 : Int32)), (.ref mir)] Z h0 (Q_cp3_3 Z t kO mir y0 y1 y2 h0 n0) := by
  refine own_met (own := "java/util/Arrays") (nme := "copyOf") rfl rfl (plainFor_of_name pn_11) ?_
  intro p e s m below meth c s₁ hx hby hml hown hnm X0 e0 hret hlk hZ
  have N0 := Fr.nil n0
  rw [ef_cp3_3 m t (3 : Int32) mir]
  refine own_st (T' := s₁) (g' := (mkF m 1 #[rv t, iv (3 : Int32), rv mir, .unset] [(.ref mir)])) (fun _ k_ => XS.aloadN X0.here hx rfl (hb hby d25_0) rfl rfl  k_) ?_
  obtain ⟨T1, X1, e1, st1⟩ := own_ldk X0 hx hZ hown (wd hw 165 rfl) e0 MIR (g := (mkF m 1 #[rv t, iv (3 : Int32), rv mir, .unset] [(.ref mir)])) rfl (hb hby d25_1)
  refine own_st (T' := T1) (g' := (mkF m 3 #[rv t, iv (3 : Int32), rv mir, .unset] [(.ref mir), (.ref mir)])) st1 ?_
  clear st1
  refine own_st (T' := T1) (g' := (mkF m 6 #[rv t, iv (3 : Int32), rv mir, .unset] [])) (fun _ k_ => Jvm.RoadKit.acmp (g := (mkF m 3 #[rv t, iv (3 : Int32), rv mir, .unset] [(.ref mir), (.ref mir)])) X1 hx rfl rfl rfl (pc0 := 3) (pc' := 6) (same := true) rfl (hb hby d25_3) rfl (decide_eq_true rfl) (by decide) (by decide) k_) ?_
  refine own_st (T' := T1) (g' := (mkF m 7 #[rv t, iv (3 : Int32), rv mir, .unset] [(.int (3 : Int32))])) (fun _ k_ => XS.iloadN X1.here hx rfl (hb hby d25_6) rfl  k_) ?_
  obtain ⟨T2, h2, k2, X2, e2, E2, A2, EX2, O2, st2⟩ := newRE X1 hx hZ hown (wd hw 166 rfl) (wd hw 96 rfl) e1 (g := (mkF m 7 #[rv t, iv (3 : Int32), rv mir, .unset] [(.int (3 : Int32))])) rfl (hb hby d25_7) rfl (by decide) (cap := 3) (by decide) (by decide) (by decide) (by decide) (ad := "[Ljava/lang/Object;") (by decide)
  obtain rfl : kO = k2 := own_kk EX2 A2 FC
  clear EX2 O2
  obtain ⟨b2, g2⟩ : ∃ z, z = h0.size := ⟨_, rfl⟩
  rw [← g2] at A2 st2
  have fr2 : n0 ≤ b2 := Nat.le_trans (own_z O0) (Nat.le_of_eq g2.symm)
  have sz2 : h0.size ≤ b2 := Nat.le_trans (Keep.refl h0 []).1 (Nat.le_of_eq g2.symm)
  have V2 : Arv Z h2 b2 kO (.object "java/lang/Object") (3 : Int32) [.null, .null, .null] .null := (Arv.new A2 (by decide)).pad (pad_rep [] .null 3)
  refine own_st (T' := T2) (g' := (mkF m 10 #[rv t, iv (3 : Int32), rv mir, .unset] [(.ref b2)])) st2 ?_
  clear st2
  refine own_st (T' := T2) (g' := (mkF m 24 #[rv t, iv (3 : Int32), rv mir, .unset] [(.ref b2)])) (fun _ k_ => XS.goto X2.here hx rfl (pc0 := 10) (pc' := 24) rfl (hb hby d25_10) (by decide) (by decide) k_) ?_
  refine own_st (T' := T2) (g' := (mkF m 25 #[rv t, iv (3 : Int32), rv mir, rv b2] [])) (fun _ k_ => XS.astoreN X2.here hx rfl (hb hby d25_24) rfl rfl (l' := #[rv t, iv (3 : Int32), rv mir, rv b2]) rfl k_) ?_
  refine own_st (T' := T2) (g' := (mkF m 26 #[rv t, iv (3 : Int32), rv mir, rv b2] [(.ref t)])) (fun _ k_ => XS.aloadN X2.here hx rfl (hb hby d25_25) rfl rfl  k_) ?_
  refine own_st (T' := T2) (g' := (mkF m 27 #[rv t, iv (3 : Int32), rv mir, rv b2] [(.int (0 : Int32)), (.ref t)])) (fun _ k_ => XS.iconst X2.here hx rfl (hb hby d25_26) k_) ?_
  refine own_st (T' := T2) (g' := (mkF m 28 #[rv t, iv (3 : Int32), rv mir, rv b2] [(.ref b2), (.int (0 : Int32)), (.ref t)])) (fun _ k_ => XS.aloadN X2.here hx rfl (hb hby d25_27) rfl rfl  k_) ?_
  refine own_st (T' := T2) (g' := (mkF m 29 #[rv t, iv (3 : Int32), rv mir, rv b2] [(.int (0 : Int32)), (.ref b2), (.int (0 : Int32)), (.ref t)])) (fun _ k_ => XS.iconst X2.here hx rfl (hb hby d25_28) k_) ?_
  refine own_st (T' := T2) (g' := (mkF m 30 #[rv t, iv (3 : Int32), rv mir, rv b2] [(.ref t), (.int (0 : Int32)), (.ref b2), (.int (0 : Int32)), (.ref t)])) (fun _ k_ => XS.aloadN X2.here hx rfl (hb hby d25_29) rfl rfl  k_) ?_
  have f4 := V_t.ext E2
  obtain ⟨cl3, Ar3, -, S3, N3, -, -⟩ := id f4
  refine own_st (T' := T2) (g' := (mkF m 31 #[rv t, iv (3 : Int32), rv mir, rv b2] [(.int (10 : Int32)), (.int (0 : Int32)), (.ref b2), (.int (0 : Int32)), (.ref t)])) (fun t_ k_ => X2.arraylength hx (by rw [e2]; exact Ar3.1) (State.isArrayOf_alike hZ.alike Ar3.2.1) (g := (mkF m 30 #[rv t, iv (3 : Int32), rv mir, rv b2] [(.ref t), (.int (0 : Int32)), (.ref b2), (.int (0 : Int32)), (.ref t)])) rfl rfl (hb hby d25_30) _ (by rw [len_of S3 N3]; exact k_)) ?_
  refine own_st (T' := T2) (g' := (mkF m 32 #[rv t, iv (3 : Int32), rv mir, rv b2] [(.int (3 : Int32)), (.int (10 : Int32)), (.int (0 : Int32)), (.ref b2), (.int (0 : Int32)), (.ref t)])) (fun _ k_ => XS.iloadN X2.here hx rfl (hb hby d25_31) rfl  k_) ?_
  have f5 := O0.ext E2
  obtain ⟨_, T6, L6, X6, hQ6, st6⟩ := own_callS X2 hx (y := own_m18) hown (mvT hZ (wd hw 167 rfl)) (mvT hZ (wd hw 168 rfl)) (mvT hZ (wd hw 93 rfl)) (mvT hZ (wd hw 169 rfl)) (by decide) (backOf (W := 4) (rm_min l Z a0 hw [] (10 : Int32) (3 : Int32) h2 n0 f5 (by decide)) hZ (wd hw 169 rfl) (wd hw 93 rfl) (by decide) (by decide)) (g := (mkF m 32 #[rv t, iv (3 : Int32), rv mir, rv b2] [(.int (3 : Int32)), (.int (10 : Int32)), (.int (0 : Int32)), (.ref b2), (.int (0 : Int32)), (.ref t)])) rfl (by rw [hml]; rfl) (argsL := [(.int (10 : Int32)), (.int (3 : Int32))]) (rest := [(.int (0 : Int32)), (.ref b2), (.int (0 : Int32)), (.ref t)]) (lenOf pd__II_I rfl) rfl (by show 2 * 0 + _ ≤ _; exact Nat.le_of_eq rfl) (hb hby d25_32) rfl e2 (by decide) (by decide) (c' := 1) (s' := 3) rfl rfl
  obtain ⟨rfl, Nq6, eq6⟩ := hQ6
  have N6 := Fr.app N0 Nq6
  refine own_st (T' := T6) (g' := (mkF m 35 #[rv t, iv (3 : Int32), rv mir, rv b2] [(.int (3 : Int32)), (.int (0 : Int32)), (.ref b2), (.int (0 : Int32)), (.ref t)])) st6 ?_
  clear st6
  obtain ⟨cl7, Ar7, q7, -⟩ := id V2
  have f8 := Ins.ext E2 I_y2
  have f9 := Ins.ext E2 I_y1
  have f10 := Ins.ext E2 I_y0
  obtain ⟨T7, h7, L7, X7, e7, N7, K7, Va7, st7⟩ := cpA X6 hx hZ hown (wd hw 170 rfl) (wd hw 173 rfl) (wd hw 171 rfl) (wd hw 172 rfl) eq6 f4 V2 (sp := (0 : Int32)) (dp := (0 : Int32)) (nn := (3 : Int32)) (us := [(.ref y0), (.ref y1), (.ref y2)]) (Or.inr ⟨rfl, rfl, ⟨Sto.ofV Ar7 q7 OV f10, ⟨Sto.ofV Ar7 q7 OV f9, ⟨Sto.ofV Ar7 q7 OV f8, trivial⟩⟩⟩⟩) (by decide) (by decide) (by decide) (by decide) (by decide) rfl (Nat.le_of_ble_eq_true rfl) N6 fr2 (g := (mkF m 35 #[rv t, iv (3 : Int32), rv mir, rv b2] [(.int (3 : Int32)), (.int (0 : Int32)), (.ref b2), (.int (0 : Int32)), (.ref t)])) rfl (by rw [hml]; rfl) (rest := []) rfl (hb hby d25_35) (by decide) (W := 0) (by show 2 * 0 + _ ≤ _; exact Nat.le_of_eq rfl) (by decide)
  clear Ar7 q7 cl7
  have V7 : Arv Z h7 b2 kO (.object "java/lang/Object") (3 : Int32) [(.ref y0), (.ref y1), (.ref y2)] .null := Va7
  refine own_st (T' := T7) (g' := (mkF m 38 #[rv t, iv (3 : Int32), rv mir, rv b2] [])) st7 ?_
  clear st7
  refine own_st (T' := T7) (g' := (mkF m 39 #[rv t, iv (3 : Int32), rv mir, rv b2] [(.ref b2)])) (fun _ k_ => XS.aloadN X7.here hx rfl (hb hby d25_38) rfl rfl  k_) ?_
  have f11 := (Keep.refl h0 []).ext E2
  have f12 := f11.trans K7 (allS (Or.inr sz2) all0)
  exact own_retA X7 hx hret rfl rfl hlk (hb hby d25_39) (by decide) (by decide) (by rw [e7]; exact ⟨b2, rfl, N7, f12, V7, sz2⟩)
theorem ef_cp2_3 (m : MethodId) (x0 : Addr) (x1 : Int32) : entryFrame m #[(.ref x0), (.int x1)] 2 = mkF m 0 #[rv x0, iv x1] [] := by first | (simp [entryFrame, mkF, argsToLocals, Value.category]; done) | rfl
def Q_cp2_3 (Z : State) (t : Addr) (kO : ClassId) (mir : Addr) (y0 : Addr) (y1 : Addr) (y2 : Addr) (h0 : Heap) (n0 : Nat) (v : Option Value) (h : Heap) (L : List Loc) : Prop := ∃ (u : Addr), (v = some (.ref u)) ∧ (Fr n0 L) ∧ (Keep h0 h []) ∧ (Arv Z h u kO (.object "java/lang/Object") (3 : Int32) [(.ref y0), (.ref y1), (.ref y2)] .null) ∧ (h0.size ≤ u)
set_option maxRecDepth 65536 in
set_option maxHeartbeats 40000000 in
theorem rm_cp2_3 (l : Launch) (Z : State) (a0 : Array Value) (hw : ∀ d ∈ tables_1, d.before a0 Z = true) (ws : List Jvm.Cond) (t : Addr) (kO : ClassId) (mir : Addr) (y0 : Addr) (y1 : Addr) (y2 : Addr) (h0 : Heap) (n0 : Nat) (O0 : Old Z n0 h0) (V_t : Arv Z h0 t kO (.object "java/lang/Object") (10 : Int32) [(.ref y0), (.ref y1), (.ref y2), .null, .null, .null, .null, .null, .null, .null] .null) (OV : Ovr Z kO "java/lang/Object") (FC : Z.vm.findClass "[Ljava/lang/Object;" = some kO) (MIR : own_Mir Z "[Ljava/lang/Object;" mir) (I_y0 : Ins Z h0 y0 "java/lang/Object" true) (I_y1 : Ins Z h0 y1 "java/lang/Object" true) (I_y2 : Ins Z h0 y2 "java/lang/Object" true) :
    own_MF l own_m24 (Jvm.Cond.code own_m24 jdk_65_method_119_code 2 (some (.array (.object "java/lang/Object"))) :: ws) ({ frames := 2, cells := 1, slots := 3, locals := 55 } : Room) #[(.ref t), (.int (3 : Int32))] Z h0 (Q_cp2_3 Z t kO mir y0 y1 y2 h0 n0) := by
  refine own_met (own := "java/util/Arrays") (nme := "copyOf") rfl rfl (plainFor_of_name pn_11) ?_
  intro p e s m below meth c s₁ hx hby hml hown hnm X0 e0 hret hlk hZ
  have N0 := Fr.nil n0
  rw [ef_cp2_3 m t (3 : Int32)]
  refine own_st (T' := s₁) (g' := (mkF m 1 #[rv t, iv (3 : Int32)] [(.ref t)])) (fun _ k_ => XS.aloadN X0.here hx rfl (hb hby d24_0) rfl rfl  k_) ?_
  refine own_st (T' := s₁) (g' := (mkF m 2 #[rv t, iv (3 : Int32)] [(.int (3 : Int32)), (.ref t)])) (fun _ k_ => XS.iloadN X0.here hx rfl (hb hby d24_1) rfl  k_) ?_
  refine own_st (T' := s₁) (g' := (mkF m 3 #[rv t, iv (3 : Int32)] [(.ref t), (.int (3 : Int32)), (.ref t)])) (fun _ k_ => XS.aloadN X0.here hx rfl (hb hby d24_2) rfl rfl  k_) ?_
  obtain ⟨T1, X1, e1, st1⟩ := own_gcls X0 hx hZ hown (wd hw 156 rfl) (wd hw 157 rfl) (wd hw 133 rfl) (wd hw 159 rfl) (wd hw 158 rfl) (wd hw 160 rfl) e0 (own_exaArv V_t FC) MIR (g := (mkF m 3 #[rv t, iv (3 : Int32)] [(.ref t), (.int (3 : Int32)), (.ref t)])) rfl (by rw [hml]; rfl) (rest := [(.int (3 : Int32)), (.ref t)]) rfl (hb hby d24_3) (by decide) (W := 2) (by show 2 * 0 + _ ≤ _; exact Nat.le_of_eq rfl) (by decide)
  refine own_st (T' := T1) (g' := (mkF m 6 #[rv t, iv (3 : Int32)] [(.ref mir), (.int (3 : Int32)), (.ref t)])) st1 ?_
  clear st1
  obtain ⟨_, T2, L2, X2, hQ2, st2⟩ := own_callS X1 hx (y := own_m23) hown (mvT hZ (wd hw 162 rfl)) (mvT hZ (wd hw 163 rfl)) (mvT hZ (wd hw 154 rfl)) (mvT hZ (wd hw 164 rfl)) (by decide) (backOf (W := 0) (rm_cp3_3 l Z a0 hw [] t kO mir y0 y1 y2 h0 n0 O0 V_t OV FC MIR I_y0 I_y1 I_y2) hZ (wd hw 164 rfl) (wd hw 154 rfl) (by decide) (by decide)) (g := (mkF m 6 #[rv t, iv (3 : Int32)] [(.ref mir), (.int (3 : Int32)), (.ref t)])) rfl (by rw [hml]; rfl) (argsL := [(.ref t), (.int (3 : Int32)), (.ref mir)]) (rest := []) (lenOf pd___Ljava_lang_Object_ILjava_lang_Class___Ljava_lang_Object_ rfl) rfl (by show 2 * 0 + _ ≤ _; exact Nat.le_of_eq rfl) (hb hby d24_6) rfl e1 (by decide) (by decide) (c' := 1) (s' := 3) rfl rfl
  obtain ⟨u2, rfl, Nq2, K2, fq2_0, xq2_fresh_u⟩ := hQ2
  have N2 := Fr.app N0 Nq2
  refine own_st (T' := T2) (g' := (mkF m 9 #[rv t, iv (3 : Int32)] [(.ref u2)])) st2 ?_
  clear st2
  have f3 := (Keep.refl h0 []).trans K2 all0
  exact own_retA X2 hx hret rfl rfl hlk (hb hby d24_9) (by decide) (by decide) ⟨u2, rfl, N2, f3, fq2_0, (Nat.le_trans (Keep.refl h0 []).1 xq2_fresh_u)⟩
theorem ef_tar_3 (m : MethodId) (x0 : Addr) : entryFrame m #[(.ref x0)] 1 = mkF m 0 #[rv x0] [] := by first | (simp [entryFrame, mkF, argsToLocals, Value.category]; done) | rfl
def Q_tar_3 (Z : State) (a : Addr) (t : Addr) (kO : ClassId) (mir : Addr) (y0 : Addr) (y1 : Addr) (y2 : Addr) (h0 : Heap) (n0 : Nat) (v : Option Value) (h : Heap) (L : List Loc) : Prop := ∃ (u : Addr), (v = some (.ref u)) ∧ (Fr n0 L) ∧ (Keep h0 h []) ∧ (Arv Z h u kO (.object "java/lang/Object") (3 : Int32) [(.ref y0), (.ref y1), (.ref y2)] .null) ∧ (h0.size ≤ u)
set_option maxRecDepth 65536 in
set_option maxHeartbeats 40000000 in
theorem rm_tar_3 (l : Launch) (Z : State) (a0 : Array Value) (hw : ∀ d ∈ tables_1, d.before a0 Z = true) (ws : List Jvm.Cond) (a : Addr) (t : Addr) (kO : ClassId) (mir : Addr) (y0 : Addr) (y1 : Addr) (y2 : Addr) (h0 : Heap) (n0 : Nat) (O0 : Old Z n0 h0) (Fe : Fld Z h0 a "java/util/ArrayList" "elementData" "[Ljava/lang/Object;" (.ref t)) (Fz : Fld Z h0 a "java/util/ArrayList" "size" "I" (.int (3 : Int32))) (V_t : Arv Z h0 t kO (.object "java/lang/Object") (10 : Int32) [(.ref y0), (.ref y1), (.ref y2), .null, .null, .null, .null, .null, .null, .null] .null) (OV : Ovr Z kO "java/lang/Object") (FC : Z.vm.findClass "[Ljava/lang/Object;" = some kO) (MIR : own_Mir Z "[Ljava/lang/Object;" mir) (I_y0 : Ins Z h0 y0 "java/lang/Object" true) (I_y1 : Ins Z h0 y1 "java/lang/Object" true) (I_y2 : Ins Z h0 y2 "java/lang/Object" true) :
    own_MF l own_m25 (Jvm.Cond.code own_m25 jdk_38_method_16_code 1 (some (.array (.object "java/lang/Object"))) :: ws) ({ frames := 3, cells := 1, slots := 3, locals := 68 } : Room) #[(.ref a)] Z h0 (Q_tar_3 Z a t kO mir y0 y1 y2 h0 n0) := by
  refine own_met (own := "java/util/ArrayList") (nme := "toArray") rfl rfl (plainFor_of_name pn_5) ?_
  intro p e s m below meth c s₁ hx hby hml hown hnm X0 e0 hret hlk hZ
  have N0 := Fr.nil n0
  rw [ef_tar_3 m a]
  refine own_st (T' := s₁) (g' := (mkF m 1 #[rv a] [(.ref a)])) (fun _ k_ => XS.aloadN X0.here hx rfl (hb hby d23_0) rfl rfl  k_) ?_
  obtain ⟨T1, X1, e1, st1⟩ := getF X0 hx hZ hown (host := "") (Or.inl (wd hw 65 rfl)) Via.refl e0 Fe (g := (mkF m 1 #[rv a] [(.ref a)])) rfl rfl (hb hby d23_1)
  refine own_st (T' := T1) (g' := (mkF m 4 #[rv a] [(.ref t)])) st1 ?_
  clear st1
  refine own_st (T' := T1) (g' := (mkF m 5 #[rv a] [(.ref a), (.ref t)])) (fun _ k_ => XS.aloadN X1.here hx rfl (hb hby d23_4) rfl rfl  k_) ?_
  obtain ⟨T2, X2, e2, st2⟩ := getF X1 hx hZ hown (host := "") (Or.inl (wd hw 74 rfl)) Via.refl e1 Fz (g := (mkF m 5 #[rv a] [(.ref a), (.ref t)])) rfl rfl (hb hby d23_5)
  refine own_st (T' := T2) (g' := (mkF m 8 #[rv a] [(.int (3 : Int32)), (.ref t)])) st2 ?_
  clear st2
  obtain ⟨_, T3, L3, X3, hQ3, st3⟩ := own_callS X2 hx (y := own_m24) hown (mvT hZ (wd hw 152 rfl)) (mvT hZ (wd hw 153 rfl)) (mvT hZ (wd hw 154 rfl)) (mvT hZ (wd hw 155 rfl)) (by decide) (backOf (W := 0) (rm_cp2_3 l Z a0 hw [] t kO mir y0 y1 y2 h0 n0 O0 V_t OV FC MIR I_y0 I_y1 I_y2) hZ (wd hw 155 rfl) (wd hw 154 rfl) (by decide) (by decide)) (g := (mkF m 8 #[rv a] [(.int (3 : Int32)), (.ref t)])) rfl (by rw [hml]; rfl) (argsL := [(.ref t), (.int (3 : Int32))]) (rest := []) (lenOf pd___Ljava_lang_Object_I__Ljava_lang_Object_ rfl) rfl (by show 2 * 0 + _ ≤ _; exact Nat.le_of_eq rfl) (hb hby d23_8) rfl e2 (by decide) (by decide) (c' := 1) (s' := 3) rfl rfl
  obtain ⟨u3, rfl, Nq3, K3, fq3_0, xq3_fresh_u⟩ := hQ3
  have N3 := Fr.app N0 Nq3
  refine own_st (T' := T3) (g' := (mkF m 11 #[rv a] [(.ref u3)])) st3 ?_
  clear st3
  have f4 := (Keep.refl h0 []).trans K3 all0
  exact own_retA X3 hx hret rfl rfl hlk (hb hby d23_11) (by decide) (by decide) ⟨u3, rfl, N3, f4, fq3_0, (Nat.le_trans (Keep.refl h0 []).1 xq3_fresh_u)⟩
theorem d37_0 : decode jdk_56_method_4_code 0 = .ok (.aload_n 0, 1) := by decide +kernel
theorem d37_1 : decode jdk_56_method_4_code 1 = .ok (.arraylength, 1) := by decide +kernel
theorem d37_2 : decode jdk_56_method_4_code 2 = .ok (.anewarray 2, 3) := by decide +kernel
theorem d37_5 : decode jdk_56_method_4_code 5 = .ok (.astore_n 1, 1) := by decide +kernel
theorem d37_6 : decode jdk_56_method_4_code 6 = .ok (.iconst 0, 1) := by decide +kernel
theorem d37_7 : decode jdk_56_method_4_code 7 = .ok (.istore_n 2, 1) := by decide +kernel
theorem d37_8 : decode jdk_56_method_4_code 8 = .ok (.iload_n 2, 1) := by decide +kernel
theorem d37_9 : decode jdk_56_method_4_code 9 = .ok (.aload_n 0, 1) := by decide +kernel
theorem d37_10 : decode jdk_56_method_4_code 10 = .ok (.arraylength, 1) := by decide +kernel
theorem d37_11 : decode jdk_56_method_4_code 11 = .ok (.if_icmp .ge 18, 3) := by decide +kernel
theorem d37_14 : decode jdk_56_method_4_code 14 = .ok (.aload_n 1, 1) := by decide +kernel
theorem d37_15 : decode jdk_56_method_4_code 15 = .ok (.iload_n 2, 1) := by decide +kernel
theorem d37_16 : decode jdk_56_method_4_code 16 = .ok (.aload_n 0, 1) := by decide +kernel
theorem d37_17 : decode jdk_56_method_4_code 17 = .ok (.iload_n 2, 1) := by decide +kernel
theorem d37_18 : decode jdk_56_method_4_code 18 = .ok (.aaload, 1) := by decide +kernel
theorem d37_19 : decode jdk_56_method_4_code 19 = .ok (.invokestatic 37, 3) := by decide +kernel
theorem d37_22 : decode jdk_56_method_4_code 22 = .ok (.aastore, 1) := by decide +kernel
theorem d37_23 : decode jdk_56_method_4_code 23 = .ok (.iinc 2 1, 3) := by decide +kernel
theorem d37_26 : decode jdk_56_method_4_code 26 = .ok (.goto (-18), 3) := by decide +kernel
theorem d37_29 : decode jdk_56_method_4_code 29 = .ok (.new 12, 3) := by decide +kernel
theorem d37_32 : decode jdk_56_method_4_code 32 = .ok (.dup, 1) := by decide +kernel
theorem d37_33 : decode jdk_56_method_4_code 33 = .ok (.aload_n 1, 1) := by decide +kernel
theorem d37_34 : decode jdk_56_method_4_code 34 = .ok (.iconst 0, 1) := by decide +kernel
theorem d37_35 : decode jdk_56_method_4_code 35 = .ok (.invokespecial 43, 3) := by decide +kernel
theorem d37_38 : decode jdk_56_method_4_code 38 = .ok (.areturn, 1) := by decide +kernel
theorem pd___Ljava_lang_Object_Z_V : parseMethodDescriptor "([Ljava/lang/Object;Z)V" = some ⟨[(.array (.object "java/lang/Object")), .boolean], none⟩ := by decide +kernel
theorem ef_lfa_3 (m : MethodId) (x0 : Addr) : entryFrame m #[(.ref x0)] 3 = mkF m 0 #[rv x0, .unset, .unset] [] := by first | (simp [entryFrame, mkF, argsToLocals, Value.category]; done) | rfl
def Q_lfa_3 (Z : State) (u : Addr) (kO : ClassId) (y0 : Addr) (y1 : Addr) (y2 : Addr) (h0 : Heap) (n0 : Nat) (v : Option Value) (h : Heap) (L : List Loc) : Prop := ∃ (x : Addr) (uu : Addr), (v = some (.ref x)) ∧ (Fr n0 L) ∧ (Keep h0 h []) ∧ (Exa Z h x "java/util/ImmutableCollections$ListN") ∧ (Fld Z h x "java/util/ImmutableCollections$ListN" "elements" "[Ljava/lang/Object;" (.ref uu)) ∧ (Fld Z h x "java/util/ImmutableCollections$ListN" "allowNulls" "Z" (.int (0 : Int32))) ∧ (Arv Z h uu kO (.object "java/lang/Object") (3 : Int32) [(.ref y0), (.ref y1), (.ref y2)] .null) ∧ (h0.size ≤ x) ∧ (h0.size ≤ uu)
set_option maxRecDepth 65536 in
set_option maxHeartbeats 40000000 in
theorem rm_lfa_3 (l : Launch) (Z : State) (a0 : Array Value) (hw : ∀ d ∈ tables_1, d.before a0 Z = true) (ws : List Jvm.Cond) (u : Addr) (kO : ClassId) (y0 : Addr) (y1 : Addr) (y2 : Addr) (h0 : Heap) (n0 : Nat) (O0 : Old Z n0 h0) (V_u : Arv Z h0 u kO (.object "java/lang/Object") (3 : Int32) [(.ref y0), (.ref y1), (.ref y2)] .null) (OV : Ovr Z kO "java/lang/Object") (FC : Z.vm.findClass "[Ljava/lang/Object;" = some kO) (I_y0 : Ins Z h0 y0 "java/lang/Object" true) (I_y1 : Ins Z h0 y1 "java/lang/Object" true) (I_y2 : Ins Z h0 y2 "java/lang/Object" true) :
    own_MF l own_m31 (Jvm.Cond.code own_m31 jdk_56_method_4_code 3 (some (.object "java/util/List")) :: ws) ({ frames := 5, cells := 2, slots := 5, locals := 63 } : Room) #[(.ref u)] Z h0 (Q_lfa_3 Z u kO y0 y1 y2 h0 n0) := by
  refine own_met (own := "java/util/ImmutableCollections") (nme := "listFromArray") rfl rfl (plainFor_of_name pn_13) ?_
  intro p e s m below meth c s₁ hx hby hml hown hnm X0 e0 hret hlk hZ
  have N0 := Fr.nil n0
  rw [ef_lfa_3 m u]
  refine own_st (T' := s₁) (g' := (mkF m 1 #[rv u, .unset, .unset] [(.ref u)])) (fun _ k_ => XS.aloadN X0.here hx rfl (hb hby d37_0) rfl rfl  k_) ?_
  obtain ⟨cl1, Ar1, -, S1, N1, -, -⟩ := id V_u
  refine own_st (T' := s₁) (g' := (mkF m 2 #[rv u, .unset, .unset] [(.int (3 : Int32))])) (fun t_ k_ => X0.arraylength hx (by rw [e0]; exact Ar1.1) (State.isArrayOf_alike hZ.alike Ar1.2.1) (g := (mkF m 1 #[rv u, .unset, .unset] [(.ref u)])) rfl rfl (hb hby d37_1) _ (by rw [len_of S1 N1]; exact k_)) ?_
  obtain ⟨T2, h2, k2, X2, e2, E2, A2, EX2, O2, st2⟩ := newRE X0 hx hZ hown (wd hw 248 rfl) (wd hw 96 rfl) e0 (g := (mkF m 2 #[rv u, .unset, .unset] [(.int (3 : Int32))])) rfl (hb hby d37_2) rfl (by decide) (cap := 3) (by decide) (by decide) (by decide) (by decide) (ad := "[Ljava/lang/Object;") (by decide)
  obtain rfl : kO = k2 := own_kk EX2 A2 FC
  clear EX2 O2
  obtain ⟨b2, g2⟩ : ∃ z, z = h0.size := ⟨_, rfl⟩
  rw [← g2] at A2 st2
  have fr2 : n0 ≤ b2 := Nat.le_trans (own_z O0) (Nat.le_of_eq g2.symm)
  have sz2 : h0.size ≤ b2 := Nat.le_trans (Keep.refl h0 []).1 (Nat.le_of_eq g2.symm)
  have V2 : Arv Z h2 b2 kO (.object "java/lang/Object") (3 : Int32) [.null, .null, .null] .null := (Arv.new A2 (by decide)).pad (pad_rep [] .null 3)
  refine own_st (T' := T2) (g' := (mkF m 5 #[rv u, .unset, .unset] [(.ref b2)])) st2 ?_
  clear st2
  refine own_st (T' := T2) (g' := (mkF m 6 #[rv u, rv b2, .unset] [])) (fun _ k_ => XS.astoreN X2.here hx rfl (hb hby d37_5) rfl rfl (l' := #[rv u, rv b2, .unset]) rfl k_) ?_
  refine own_st (T' := T2) (g' := (mkF m 7 #[rv u, rv b2, .unset] [(.int (0 : Int32))])) (fun _ k_ => XS.iconst X2.here hx rfl (hb hby d37_6) k_) ?_
  refine own_st (T' := T2) (g' := (mkF m 8 #[rv u, rv b2, iv (0 : Int32)] [])) (fun _ k_ => XS.istoreN X2.here hx rfl (hb hby d37_7) rfl (l' := #[rv u, rv b2, iv (0 : Int32)]) rfl k_) ?_
  refine own_st (T' := T2) (g' := (mkF m 9 #[rv u, rv b2, iv (0 : Int32)] [(.int (0 : Int32))])) (fun _ k_ => XS.iloadN X2.here hx rfl (hb hby d37_8) rfl  k_) ?_
  refine own_st (T' := T2) (g' := (mkF m 10 #[rv u, rv b2, iv (0 : Int32)] [(.ref u), (.int (0 : Int32))])) (fun _ k_ => XS.aloadN X2.here hx rfl (hb hby d37_9) rfl rfl  k_) ?_
  have f4 := V_u.ext E2
  obtain ⟨cl3, Ar3, -, S3, N3, -, -⟩ := id f4
  refine own_st (T' := T2) (g' := (mkF m 11 #[rv u, rv b2, iv (0 : Int32)] [(.int (3 : Int32)), (.int (0 : Int32))])) (fun t_ k_ => X2.arraylength hx (by rw [e2]; exact Ar3.1) (State.isArrayOf_alike hZ.alike Ar3.2.1) (g := (mkF m 10 #[rv u, rv b2, iv (0 : Int32)] [(.ref u), (.int (0 : Int32))])) rfl rfl (hb hby d37_10) _ (by rw [len_of S3 N3]; exact k_)) ?_
  refine own_st (T' := T2) (g' := (mkF m 14 #[rv u, rv b2, iv (0 : Int32)] [])) (fun _ k_ => XS.icmpNo X2.here hx rfl (hb hby d37_11) rfl (tlt (by decide : (0 : Int32) < (3 : Int32))).2.1 k_) ?_
  refine own_st (T' := T2) (g' := (mkF m 15 #[rv u, rv b2, iv (0 : Int32)] [(.ref b2)])) (fun _ k_ => XS.aloadN X2.here hx rfl (hb hby d37_14) rfl rfl  k_) ?_
  refine own_st (T' := T2) (g' := (mkF m 16 #[rv u, rv b2, iv (0 : Int32)] [(.int (0 : Int32)), (.ref b2)])) (fun _ k_ => XS.iloadN X2.here hx rfl (hb hby d37_15) rfl  k_) ?_
  refine own_st (T' := T2) (g' := (mkF m 17 #[rv u, rv b2, iv (0 : Int32)] [(.ref u), (.int (0 : Int32)), (.ref b2)])) (fun _ k_ => XS.aloadN X2.here hx rfl (hb hby d37_16) rfl rfl  k_) ?_
  refine own_st (T' := T2) (g' := (mkF m 18 #[rv u, rv b2, iv (0 : Int32)] [(.int (0 : Int32)), (.ref u), (.int (0 : Int32)), (.ref b2)])) (fun _ k_ => XS.iloadN X2.here hx rfl (hb hby d37_17) rfl  k_) ?_
  obtain ⟨cl5, Ar5, q5, S5, N5, H5, G5⟩ := id f4
  have hin5 : ¬ ((0 : Int32) < 0 ∨ cl5.slots.size ≤ ((0 : Int32)).toNatClampNeg) := inb_of S5 ⟨by decide, by decide⟩
  refine own_st (T' := T2) (g' := (mkF m 19 #[rv u, rv b2, iv (0 : Int32)] [(.ref y0), (.int (0 : Int32)), (.ref b2)])) (X2.aaload hx (j := (0 : Int32)) (v := (.ref y0)) (by rw [e2]; exact Ar5.1) (State.isArrayOf_alike hZ.alike Ar5.2.1) rfl Ar5.2.2 hin5 (H5.at hin5 rfl) (g := (mkF m 18 #[rv u, rv b2, iv (0 : Int32)] [(.int (0 : Int32)), (.ref u), (.int (0 : Int32)), (.ref b2)])) rfl rfl (hb hby d37_18)) ?_
  clear hin5 G5 H5 N5 S5 q5 Ar5 cl5
  have f6 := O0.ext E2
  obtain ⟨_, T7, L7, X7, hQ7, st7⟩ := own_callS X2 hx (y := own_m17) hown (mvT hZ (wd hw 249 rfl)) (mvT hZ (wd hw 199 rfl)) (mvT hZ (wd hw 200 rfl)) (mvT hZ (wd hw 201 rfl)) (by decide) (backOf (W := 2) (rm_rnn l Z a0 hw [] y0 h2 n0 f6) hZ (wd hw 201 rfl) (wd hw 200 rfl) (by decide) (by decide)) (g := (mkF m 19 #[rv u, rv b2, iv (0 : Int32)] [(.ref y0), (.int (0 : Int32)), (.ref b2)])) rfl (by rw [hml]; rfl) (argsL := [(.ref y0)]) (rest := [(.int (0 : Int32)), (.ref b2)]) (lenOf pd__Ljava_lang_Object__Ljava_lang_Object_ rfl) rfl (by show 2 * 0 + _ ≤ _; exact Nat.le_of_eq rfl) (hb hby d37_19) rfl e2 (by decide) (by decide) (c' := 1) (s' := 3) rfl rfl
  obtain ⟨rfl, Nq7, eq7⟩ := hQ7
  have N7 := Fr.app N0 Nq7
  refine own_st (T' := T7) (g' := (mkF m 22 #[rv u, rv b2, iv (0 : Int32)] [(.ref y0), (.int (0 : Int32)), (.ref b2)])) st7 ?_
  clear st7
  obtain ⟨cl8, Ar8, q8, S8, N8, H8, G8⟩ := id V2
  have hin8 : ¬ ((0 : Int32) < 0 ∨ cl8.slots.size ≤ ((0 : Int32)).toNatClampNeg) := inb_of S8 ⟨by decide, by decide⟩
  have f9 := Ins.ext E2 I_y0
  obtain ⟨T10, h10, X10, e10, W10, st10⟩ := stR X7 hx hZ eq7 Ar8 (j := (0 : Int32)) hin8 rfl (Sto.of Ar8 (q8 ▸ OV) f9) (g := (mkF m 22 #[rv u, rv b2, iv (0 : Int32)] [(.ref y0), (.int (0 : Int32)), (.ref b2)])) rfl rfl (hb hby d37_22)
  have V10 : Arv Z h10 b2 kO (.object "java/lang/Object") (3 : Int32) [(.ref y0), .null, .null] .null := Arv.set Ar8 q8 S8 N8 H8 G8 rfl W10 0 rfl (Nat.le_of_ble_eq_true rfl)
  have Nx10 := Fr.snoc X10 N7 fr2
  refine own_st (T' := T10) (g' := (mkF m 23 #[rv u, rv b2, iv (0 : Int32)] [])) st10 ?_
  clear hin8 G8 H8 N8 S8 q8 Ar8 cl8 st10
  refine own_st (T' := T10) (g' := (mkF m 26 #[rv u, rv b2, iv (1 : Int32)] [])) (fun _ k_ => XS.iinc X10.here hx rfl (hb hby d37_23) rfl (l' := #[rv u, rv b2, iv (1 : Int32)]) rfl k_) ?_
  refine own_st (T' := T10) (g' := (mkF m 8 #[rv u, rv b2, iv (1 : Int32)] [])) (fun _ k_ => XS.goto X10.here hx rfl (pc0 := 26) (pc' := 8) rfl (hb hby d37_26) (by decide) (by decide) k_) ?_
  refine own_st (T' := T10) (g' := (mkF m 9 #[rv u, rv b2, iv (1 : Int32)] [(.int (1 : Int32))])) (fun _ k_ => XS.iloadN X10.here hx rfl (hb hby d37_8) rfl  k_) ?_
  refine own_st (T' := T10) (g' := (mkF m 10 #[rv u, rv b2, iv (1 : Int32)] [(.ref u), (.int (1 : Int32))])) (fun _ k_ => XS.aloadN X10.here hx rfl (hb hby d37_9) rfl rfl  k_) ?_
  have ne12 : u ≠ b2 := Nat.ne_of_lt (Nat.lt_of_lt_of_le V_u.lt (Nat.le_of_eq g2.symm))
  have f13 := f4.other W10 ne12
  obtain ⟨cl11, Ar11, -, S11, N11, -, -⟩ := id f13
  refine own_st (T' := T10) (g' := (mkF m 11 #[rv u, rv b2, iv (1 : Int32)] [(.int (3 : Int32)), (.int (1 : Int32))])) (fun t_ k_ => X10.arraylength hx (by rw [e10]; exact Ar11.1) (State.isArrayOf_alike hZ.alike Ar11.2.1) (g := (mkF m 10 #[rv u, rv b2, iv (1 : Int32)] [(.ref u), (.int (1 : Int32))])) rfl rfl (hb hby d37_10) _ (by rw [len_of S11 N11]; exact k_)) ?_
  refine own_st (T' := T10) (g' := (mkF m 14 #[rv u, rv b2, iv (1 : Int32)] [])) (fun _ k_ => XS.icmpNo X10.here hx rfl (hb hby d37_11) rfl (tlt (by decide : (1 : Int32) < (3 : Int32))).2.1 k_) ?_
  refine own_st (T' := T10) (g' := (mkF m 15 #[rv u, rv b2, iv (1 : Int32)] [(.ref b2)])) (fun _ k_ => XS.aloadN X10.here hx rfl (hb hby d37_14) rfl rfl  k_) ?_
  refine own_st (T' := T10) (g' := (mkF m 16 #[rv u, rv b2, iv (1 : Int32)] [(.int (1 : Int32)), (.ref b2)])) (fun _ k_ => XS.iloadN X10.here hx rfl (hb hby d37_15) rfl  k_) ?_
  refine own_st (T' := T10) (g' := (mkF m 17 #[rv u, rv b2, iv (1 : Int32)] [(.ref u), (.int (1 : Int32)), (.ref b2)])) (fun _ k_ => XS.aloadN X10.here hx rfl (hb hby d37_16) rfl rfl  k_) ?_
  refine own_st (T' := T10) (g' := (mkF m 18 #[rv u, rv b2, iv (1 : Int32)] [(.int (1 : Int32)), (.ref u), (.int (1 : Int32)), (.ref b2)])) (fun _ k_ => XS.iloadN X10.here hx rfl (hb hby d37_17) rfl  k_) ?_
  obtain ⟨cl14, Ar14, q14, S14, N14, H14, G14⟩ := id f13
  have hin14 : ¬ ((1 : Int32) < 0 ∨ cl14.slots.size ≤ ((1 : Int32)).toNatClampNeg) := inb_of S14 ⟨by decide, by decide⟩
  refine own_st (T' := T10) (g' := (mkF m 19 #[rv u, rv b2, iv (1 : Int32)] [(.ref y1), (.int (1 : Int32)), (.ref b2)])) (X10.aaload hx (j := (1 : Int32)) (v := (.ref y1)) (by rw [e10]; exact Ar14.1) (State.isArrayOf_alike hZ.alike Ar14.2.1) rfl Ar14.2.2 hin14 (H14.at hin14 rfl) (g := (mkF m 18 #[rv u, rv b2, iv (1 : Int32)] [(.int (1 : Int32)), (.ref u), (.int (1 : Int32)), (.ref b2)])) rfl rfl (hb hby d37_18)) ?_
  clear hin14 G14 H14 N14 S14 q14 Ar14 cl14
  have f15 := f6.wr W10 fr2
  obtain ⟨_, T16, L16, X16, hQ16, st16⟩ := own_callS X10 hx (y := own_m17) hown (mvT hZ (wd hw 249 rfl)) (mvT hZ (wd hw 199 rfl)) (mvT hZ (wd hw 200 rfl)) (mvT hZ (wd hw 201 rfl)) (by decide) (backOf (W := 2) (rm_rnn l Z a0 hw [] y1 h10 n0 f15) hZ (wd hw 201 rfl) (wd hw 200 rfl) (by decide) (by decide)) (g := (mkF m 19 #[rv u, rv b2, iv (1 : Int32)] [(.ref y1), (.int (1 : Int32)), (.ref b2)])) rfl (by rw [hml]; rfl) (argsL := [(.ref y1)]) (rest := [(.int (1 : Int32)), (.ref b2)]) (lenOf pd__Ljava_lang_Object__Ljava_lang_Object_ rfl) rfl (by show 2 * 0 + _ ≤ _; exact Nat.le_of_eq rfl) (hb hby d37_19) rfl e10 (by decide) (by decide) (c' := 1) (s' := 3) rfl rfl
  obtain ⟨rfl, Nq16, eq16⟩ := hQ16
  have N16 := Fr.app Nx10 Nq16
  refine own_st (T' := T16) (g' := (mkF m 22 #[rv u, rv b2, iv (1 : Int32)] [(.ref y1), (.int (1 : Int32)), (.ref b2)])) st16 ?_
  clear st16
  obtain ⟨cl17, Ar17, q17, S17, N17, H17, G17⟩ := id V10
  have hin17 : ¬ ((1 : Int32) < 0 ∨ cl17.slots.size ≤ ((1 : Int32)).toNatClampNeg) := inb_of S17 ⟨by decide, by decide⟩
  have f18 := Ins.ext E2 I_y1
  have f19 := Ins.wr W10 f18
  obtain ⟨T20, h20, X20, e20, W20, st20⟩ := stR X16 hx hZ eq16 Ar17 (j := (1 : Int32)) hin17 rfl (Sto.of Ar17 (q17 ▸ OV) f19) (g := (mkF m 22 #[rv u, rv b2, iv (1 : Int32)] [(.ref y1), (.int (1 : Int32)), (.ref b2)])) rfl rfl (hb hby d37_22)
  have V20 : Arv Z h20 b2 kO (.object "java/lang/Object") (3 : Int32) [(.ref y0), (.ref y1), .null] .null := Arv.set Ar17 q17 S17 N17 H17 G17 rfl W20 1 rfl (Nat.le_of_ble_eq_true rfl)
  have Nx20 := Fr.snoc X20 N16 fr2
  refine own_st (T' := T20) (g' := (mkF m 23 #[rv u, rv b2, iv (1 : Int32)] [])) st20 ?_
  clear hin17 G17 H17 N17 S17 q17 Ar17 cl17 st20
  refine own_st (T' := T20) (g' := (mkF m 26 #[rv u, rv b2, iv (2 : Int32)] [])) (fun _ k_ => XS.iinc X20.here hx rfl (hb hby d37_23) rfl (l' := #[rv u, rv b2, iv (2 : Int32)]) rfl k_) ?_
  refine own_st (T' := T20) (g' := (mkF m 8 #[rv u, rv b2, iv (2 : Int32)] [])) (fun _ k_ => XS.goto X20.here hx rfl (pc0 := 26) (pc' := 8) rfl (hb hby d37_26) (by decide) (by decide) k_) ?_
  refine own_st (T' := T20) (g' := (mkF m 9 #[rv u, rv b2, iv (2 : Int32)] [(.int (2 : Int32))])) (fun _ k_ => XS.iloadN X20.here hx rfl (hb hby d37_8) rfl  k_) ?_
  refine own_st (T' := T20) (g' := (mkF m 10 #[rv u, rv b2, iv (2 : Int32)] [(.ref u), (.int (2 : Int32))])) (fun _ k_ => XS.aloadN X20.here hx rfl (hb hby d37_9) rfl rfl  k_) ?_
  have f22 := f13.other W20 ne12
  obtain ⟨cl21, Ar21, -, S21, N21, -, -⟩ := id f22
  refine own_st (T' := T20) (g' := (mkF m 11 #[rv u, rv b2, iv (2 : Int32)] [(.int (3 : Int32)), (.int (2 : Int32))])) (fun t_ k_ => X20.arraylength hx (by rw [e20]; exact Ar21.1) (State.isArrayOf_alike hZ.alike Ar21.2.1) (g := (mkF m 10 #[rv u, rv b2, iv (2 : Int32)] [(.ref u), (.int (2 : Int32))])) rfl rfl (hb hby d37_10) _ (by rw [len_of S21 N21]; exact k_)) ?_
  refine own_st (T' := T20) (g' := (mkF m 14 #[rv u, rv b2, iv (2 : Int32)] [])) (fun _ k_ => XS.icmpNo X20.here hx rfl (hb hby d37_11) rfl (tlt (by decide : (2 : Int32) < (3 : Int32))).2.1 k_) ?_
  refine own_st (T' := T20) (g' := (mkF m 15 #[rv u, rv b2, iv (2 : Int32)] [(.ref b2)])) (fun _ k_ => XS.aloadN X20.here hx rfl (hb hby d37_14) rfl rfl  k_) ?_
  refine own_st (T' := T20) (g' := (mkF m 16 #[rv u, rv b2, iv (2 : Int32)] [(.int (2 : Int32)), (.ref b2)])) (fun _ k_ => XS.iloadN X20.here hx rfl (hb hby d37_15) rfl  k_) ?_
  refine own_st (T' := T20) (g' := (mkF m 17 #[rv u, rv b2, iv (2 : Int32)] [(.ref u), (.int (2 : Int32)), (.ref b2)])) (fun _ k_ => XS.aloadN X20.here hx rfl (hb hby d37_16) rfl rfl  k_) ?_
  refine own_st (T' := T20) (g' := (mkF m 18 #[rv u, rv b2, iv (2 : Int32)] [(.int (2 : Int32)), (.ref u), (.int (2 : Int32)), (.ref b2)])) (fun _ k_ => XS.iloadN X20.here hx rfl (hb hby d37_17) rfl  k_) ?_
  obtain ⟨cl23, Ar23, q23, S23, N23, H23, G23⟩ := id f22
  have hin23 : ¬ ((2 : Int32) < 0 ∨ cl23.slots.size ≤ ((2 : Int32)).toNatClampNeg) := inb_of S23 ⟨by decide, by decide⟩
  refine own_st (T' := T20) (g' := (mkF m 19 #[rv u, rv b2, iv (2 : Int32)] [(.ref y2), (.int (2 : Int32)), (.ref b2)])) (X20.aaload hx (j := (2 : Int32)) (v := (.ref y2)) (by rw [e20]; exact Ar23.1) (State.isArrayOf_alike hZ.alike Ar23.2.1) rfl Ar23.2.2 hin23 (H23.at hin23 rfl) (g := (mkF m 18 #[rv u, rv b2, iv (2 : Int32)] [(.int (2 : Int32)), (.ref u), (.int (2 : Int32)), (.ref b2)])) rfl rfl (hb hby d37_18)) ?_
  clear hin23 G23 H23 N23 S23 q23 Ar23 cl23
  have f24 := f15.wr W20 fr2
  obtain ⟨_, T25, L25, X25, hQ25, st25⟩ := own_callS X20 hx (y := own_m17) hown (mvT hZ (wd hw 249 rfl)) (mvT hZ (wd hw 199 rfl)) (mvT hZ (wd hw 200 rfl)) (mvT hZ (wd hw 201 rfl)) (by decide) (backOf (W := 2) (rm_rnn l Z a0 hw [] y2 h20 n0 f24) hZ (wd hw 201 rfl) (wd hw 200 rfl) (by decide) (by decide)) (g := (mkF m 19 #[rv u, rv b2, iv (2 : Int32)] [(.ref y2), (.int (2 : Int32)), (.ref b2)])) rfl (by rw [hml]; rfl) (argsL := [(.ref y2)]) (rest := [(.int (2 : Int32)), (.ref b2)]) (lenOf pd__Ljava_lang_Object__Ljava_lang_Object_ rfl) rfl (by show 2 * 0 + _ ≤ _; exact Nat.le_of_eq rfl) (hb hby d37_19) rfl e20 (by decide) (by decide) (c' := 1) (s' := 3) rfl rfl
  obtain ⟨rfl, Nq25, eq25⟩ := hQ25
  have N25 := Fr.app Nx20 Nq25
  refine own_st (T' := T25) (g' := (mkF m 22 #[rv u, rv b2, iv (2 : Int32)] [(.ref y2), (.int (2 : Int32)), (.ref b2)])) st25 ?_
  clear st25
  obtain ⟨cl26, Ar26, q26, S26, N26, H26, G26⟩ := id V20
  have hin26 : ¬ ((2 : Int32) < 0 ∨ cl26.slots.size ≤ ((2 : Int32)).toNatClampNeg) := inb_of S26 ⟨by decide, by decide⟩
  have f27 := Ins.ext E2 I_y2
  have f28 := Ins.wr W10 f27
  have f29 := Ins.wr W20 f28
  obtain ⟨T30, h30, X30, e30, W30, st30⟩ := stR X25 hx hZ eq25 Ar26 (j := (2 : Int32)) hin26 rfl (Sto.of Ar26 (q26 ▸ OV) f29) (g := (mkF m 22 #[rv u, rv b2, iv (2 : Int32)] [(.ref y2), (.int (2 : Int32)), (.ref b2)])) rfl rfl (hb hby d37_22)
  have V30 : Arv Z h30 b2 kO (.object "java/lang/Object") (3 : Int32) [(.ref y0), (.ref y1), (.ref y2)] .null := Arv.set Ar26 q26 S26 N26 H26 G26 rfl W30 2 rfl (Nat.le_of_ble_eq_true rfl)
  have Nx30 := Fr.snoc X30 N25 fr2
  refine own_st (T' := T30) (g' := (mkF m 23 #[rv u, rv b2, iv (2 : Int32)] [])) st30 ?_
  clear hin26 G26 H26 N26 S26 q26 Ar26 cl26 st30
  refine own_st (T' := T30) (g' := (mkF m 26 #[rv u, rv b2, iv (3 : Int32)] [])) (fun _ k_ => XS.iinc X30.here hx rfl (hb hby d37_23) rfl (l' := #[rv u, rv b2, iv (3 : Int32)]) rfl k_) ?_
  refine own_st (T' := T30) (g' := (mkF m 8 #[rv u, rv b2, iv (3 : Int32)] [])) (fun _ k_ => XS.goto X30.here hx rfl (pc0 := 26) (pc' := 8) rfl (hb hby d37_26) (by decide) (by decide) k_) ?_
  refine own_st (T' := T30) (g' := (mkF m 9 #[rv u, rv b2, iv (3 : Int32)] [(.int (3 : Int32))])) (fun _ k_ => XS.iloadN X30.here hx rfl (hb hby d37_8) rfl  k_) ?_
  refine own_st (T' := T30) (g' := (mkF m 10 #[rv u, rv b2, iv (3 : Int32)] [(.ref u), (.int (3 : Int32))])) (fun _ k_ => XS.aloadN X30.here hx rfl (hb hby d37_9) rfl rfl  k_) ?_
  have f32 := f22.other W30 ne12
  obtain ⟨cl31, Ar31, -, S31, N31, -, -⟩ := id f32
  refine own_st (T' := T30) (g' := (mkF m 11 #[rv u, rv b2, iv (3 : Int32)] [(.int (3 : Int32)), (.int (3 : Int32))])) (fun t_ k_ => X30.arraylength hx (by rw [e30]; exact Ar31.1) (State.isArrayOf_alike hZ.alike Ar31.2.1) (g := (mkF m 10 #[rv u, rv b2, iv (3 : Int32)] [(.ref u), (.int (3 : Int32))])) rfl rfl (hb hby d37_10) _ (by rw [len_of S31 N31]; exact k_)) ?_
  refine own_st (T' := T30) (g' := (mkF m 29 #[rv u, rv b2, iv (3 : Int32)] [])) (fun _ k_ => XS.icmpYes X30.here hx rfl (pc0 := 11) (pc' := 29) rfl (hb hby d37_11) rfl (flt (by decide : ¬ ((3 : Int32) < (3 : Int32)))).2.1 (by decide) (by decide) k_) ?_
  have f33 := f24.wr W30 fr2
  have f34 := (Keep.refl h0 []).ext E2
  have f35 := f34.wr W10 (Or.inr sz2)
  have f36 := f35.wr W20 (Or.inr sz2)
  have f37 := f36.wr W30 (Or.inr sz2)
  obtain ⟨T38, h38, X38, e38, E38, A38, D38, -, st38⟩ := newO X30 hx hZ hown (wd hw 134 rfl) (wd hw 250 rfl) (wd hw 251 rfl) e30 (g := (mkF m 29 #[rv u, rv b2, iv (3 : Int32)] [])) rfl (hb hby d37_29) (by decide) (by decide)
  obtain ⟨b38, g38⟩ : ∃ z, z = h30.size := ⟨_, rfl⟩
  rw [← g38] at A38 D38 st38
  have fr38 : n0 ≤ b38 := Nat.le_trans (own_z f33) (Nat.le_of_eq g38.symm)
  have sz38 : h0.size ≤ b38 := Nat.le_trans f37.1 (Nat.le_of_eq g38.symm)
  have F38_elements : Fld Z h38 b38 "java/util/ImmutableCollections$ListN" "elements" "[Ljava/lang/Object;" .null := D38 (Or.inr (wd hw 261 rfl)) (ty := (.array (.object "java/lang/Object"))) (by decide)
  have F38_allowNulls : Fld Z h38 b38 "java/util/ImmutableCollections$ListN" "allowNulls" "Z" (.int (0 : Int32)) := D38 (Or.inr (wd hw 263 rfl)) (ty := .boolean) (by decide)
  refine own_st (T' := T38) (g' := (mkF m 32 #[rv u, rv b2, iv (3 : Int32)] [(.ref b38)])) st38 ?_
  clear st38
  refine own_st (T' := T38) (g' := (mkF m 33 #[rv u, rv b2, iv (3 : Int32)] [(.ref b38), (.ref b38)])) (fun _ k_ => XS.dup X38.here hx rfl (hb hby d37_32) rfl rfl k_) ?_
  refine own_st (T' := T38) (g' := (mkF m 34 #[rv u, rv b2, iv (3 : Int32)] [(.ref b2), (.ref b38), (.ref b38)])) (fun _ k_ => XS.aloadN X38.here hx rfl (hb hby d37_33) rfl rfl  k_) ?_
  refine own_st (T' := T38) (g' := (mkF m 35 #[rv u, rv b2, iv (3 : Int32)] [(.int (0 : Int32)), (.ref b2), (.ref b38), (.ref b38)])) (fun _ k_ => XS.iconst X38.here hx rfl (hb hby d37_34) k_) ?_
  have f39 := f33.ext E38
  obtain ⟨_, T40, L40, X40, hQ40, st40⟩ := own_callIN X38 hx (y := own_m22) rfl hown (Cond.methodLinkNest_wide hZ (wd hw 252 rfl)) (mvT hZ (wd hw 253 rfl)) (mvT hZ (wd hw 255 rfl)) (by decide) (backOf (W := 1) (rm_lni l Z a0 hw [] b38 b2 h38 n0 f39 A38 F38_elements F38_allowNulls fr38) hZ (wd hw 255 rfl) (wd hw 251 rfl) (by decide) (by decide)) (g := (mkF m 35 #[rv u, rv b2, iv (3 : Int32)] [(.int (0 : Int32)), (.ref b2), (.ref b38), (.ref b38)])) rfl (by rw [hml]; rfl) (a := b38) (argsL := [(.ref b2), (.int (0 : Int32))]) (rest := [(.ref b38)]) (lenOf pd___Ljava_lang_Object_Z_V rfl) rfl (by show 2 * 0 + _ ≤ _; exact Nat.le_of_eq rfl) (hb hby d37_35) rfl e38 (by decide) (by decide) (c' := 2) (s' := 5) rfl rfl
  obtain ⟨rfl, Nq40, K40, fq40_0, fq40_1, fq40_2⟩ := hQ40
  have N40 := Fr.app Nx30 Nq40
  refine own_st (T' := T40) (g' := (mkF m 38 #[rv u, rv b2, iv (3 : Int32)] [(.ref b38)])) st40 ?_
  clear st40
  have f41 := f37.ext E38
  have f42 := f41.trans K40 (allS (Or.inr sz38) all0)
  have f43 := V30.ext E38
  have ne44 : b2 ≠ b38 := Nat.ne_of_lt (Nat.lt_of_lt_of_le (Nat.lt_of_lt_of_le (Nat.lt_of_lt_of_le (Nat.lt_of_lt_of_le V2.lt (Nat.le_of_eq (Wr.size W10).symm)) (Nat.le_of_eq (Wr.size W20).symm)) (Nat.le_of_eq (Wr.size W30).symm)) (Nat.le_of_eq g38.symm))
  have f45 := f43.keep K40 (ninS ne44 nin0)
  exact own_retA X40 hx hret rfl rfl hlk (hb hby d37_38) (by decide) (by decide) ⟨b38, b2, rfl, N40, f42, fq40_0, fq40_1, fq40_2, f45, sz38, sz2⟩
theorem d27_59 : decode jdk_40_method_47_code 59 = .ok (.aload_n 0, 1) := by decide +kernel
theorem d27_60 : decode jdk_40_method_47_code 60 = .ok (.invokestatic 109, 3) := by decide +kernel
theorem d27_63 : decode jdk_40_method_47_code 63 = .ok (.areturn, 1) := by decide +kernel
theorem ef_lof_3 (m : MethodId) (x0 : Addr) : entryFrame m #[(.ref x0)] 2 = mkF m 0 #[rv x0, .unset] [] := by first | (simp [entryFrame, mkF, argsToLocals, Value.category]; done) | rfl
def Q_lof_3 (Z : State) (u : Addr) (kO : ClassId) (y0 : Addr) (y1 : Addr) (y2 : Addr) (h0 : Heap) (n0 : Nat) (v : Option Value) (h : Heap) (L : List Loc) : Prop := ∃ (x : Addr) (uu : Addr), (v = some (.ref x)) ∧ (Fr n0 L) ∧ (Keep h0 h []) ∧ (Exa Z h x "java/util/ImmutableCollections$ListN") ∧ (Fld Z h x "java/util/ImmutableCollections$ListN" "elements" "[Ljava/lang/Object;" (.ref uu)) ∧ (Fld Z h x "java/util/ImmutableCollections$ListN" "allowNulls" "Z" (.int (0 : Int32))) ∧ (Arv Z h uu kO (.object "java/lang/Object") (3 : Int32) [(.ref y0), (.ref y1), (.ref y2)] .null) ∧ (h0.size ≤ x) ∧ (h0.size ≤ uu)
set_option maxRecDepth 65536 in
set_option maxHeartbeats 40000000 in
theorem rm_lof_3 (l : Launch) (Z : State) (a0 : Array Value) (hw : ∀ d ∈ tables_1, d.before a0 Z = true) (ws : List Jvm.Cond) (u : Addr) (kO : ClassId) (y0 : Addr) (y1 : Addr) (y2 : Addr) (h0 : Heap) (n0 : Nat) (O0 : Old Z n0 h0) (V_u : Arv Z h0 u kO (.object "java/lang/Object") (3 : Int32) [(.ref y0), (.ref y1), (.ref y2)] .null) (OV : Ovr Z kO "java/lang/Object") (FC : Z.vm.findClass "[Ljava/lang/Object;" = some kO) (I_y0 : Ins Z h0 y0 "java/lang/Object" true) (I_y1 : Ins Z h0 y1 "java/lang/Object" true) (I_y2 : Ins Z h0 y2 "java/lang/Object" true) :
    own_MF l own_m26 (Jvm.Cond.code own_m26 jdk_40_method_47_code 2 (some (.object "java/util/List")) :: ws) ({ frames := 6, cells := 2, slots := 5, locals := 77 } : Room) #[(.ref u)] Z h0 (Q_lof_3 Z u kO y0 y1 y2 h0 n0) := by
  refine own_met (own := "java/util/List") (nme := "of") rfl rfl (plainFor_of_name pn_12) ?_
  intro p e s m below meth c s₁ hx hby hml hown hnm X0 e0 hret hlk hZ
  have N0 := Fr.nil n0
  rw [ef_lof_3 m u]
  refine own_st (T' := s₁) (g' := (mkF m 1 #[rv u, .unset] [(.ref u)])) (fun _ k_ => XS.aloadN X0.here hx rfl (hb hby d27_0) rfl rfl  k_) ?_
  obtain ⟨cl1, Ar1, -, S1, N1, -, -⟩ := id V_u
  refine own_st (T' := s₁) (g' := (mkF m 2 #[rv u, .unset] [(.int (3 : Int32))])) (fun t_ k_ => X0.arraylength hx (by rw [e0]; exact Ar1.1) (State.isArrayOf_alike hZ.alike Ar1.2.1) (g := (mkF m 1 #[rv u, .unset] [(.ref u)])) rfl rfl (hb hby d27_1) _ (by rw [len_of S1 N1]; exact k_)) ?_
  refine own_st (T' := s₁) (g' := (mkF m 59 #[rv u, .unset] [])) (fun t_ k_ => X0.tableswitchOut hx (g := (mkF m 2 #[rv u, .unset] [(.int (3 : Int32))])) rfl (k := (3 : Int32)) (rest := []) rfl (hb hby d27_2) (by decide) (show (0 : Int) ≤ ((2 : Nat) : Int) + 57 by decide) _ k_) ?_
  refine own_st (T' := s₁) (g' := (mkF m 60 #[rv u, .unset] [(.ref u)])) (fun _ k_ => XS.aloadN X0.here hx rfl (hb hby d27_59) rfl rfl  k_) ?_
  obtain ⟨_, T2, L2, X2, hQ2, st2⟩ := own_callS X0 hx (y := own_m31) hown (mvT hZ (wd hw 245 rfl)) (mvT hZ (wd hw 246 rfl)) (mvT hZ (wd hw 127 rfl)) (mvT hZ (wd hw 247 rfl)) (by decide) (backOf (W := 0) (rm_lfa_3 l Z a0 hw [] u kO y0 y1 y2 h0 n0 O0 V_u OV FC I_y0 I_y1 I_y2) hZ (wd hw 247 rfl) (wd hw 127 rfl) (by decide) (by decide)) (g := (mkF m 60 #[rv u, .unset] [(.ref u)])) rfl (by rw [hml]; rfl) (argsL := [(.ref u)]) (rest := []) (lenOf pd___Ljava_lang_Object__Ljava_util_List_ rfl) rfl (by show 2 * 0 + _ ≤ _; exact Nat.le_of_eq rfl) (hb hby d27_60) rfl e0 (by decide) (by decide) (c' := 2) (s' := 5) rfl rfl
  obtain ⟨x2, uu2, rfl, Nq2, K2, fq2_0, fq2_1, fq2_2, fq2_3, xq2_fresh_x, xq2_fresh_uu⟩ := hQ2
  have N2 := Fr.app N0 Nq2
  refine own_st (T' := T2) (g' := (mkF m 63 #[rv u, .unset] [(.ref x2)])) st2 ?_
  clear st2
  have f3 := (Keep.refl h0 []).trans K2 all0
  exact own_retA X2 hx hret rfl rfl hlk (hb hby d27_63) (by decide) (by decide) ⟨x2, uu2, rfl, N2, f3, fq2_0, fq2_1, fq2_2, fq2_3, (Nat.le_trans (Keep.refl h0 []).1 xq2_fresh_x), (Nat.le_trans (Keep.refl h0 []).1 xq2_fresh_uu)⟩
theorem ef_lcp_3 (m : MethodId) (x0 : Addr) : entryFrame m #[(.ref x0)] 2 = mkF m 0 #[rv x0, .unset] [] := by first | (simp [entryFrame, mkF, argsToLocals, Value.category]; done) | rfl
def Q_lcp_3 (Z : State) (a : Addr) (t : Addr) (kO : ClassId) (mir : Addr) (y0 : Addr) (y1 : Addr) (y2 : Addr) (h0 : Heap) (n0 : Nat) (v : Option Value) (h : Heap) (L : List Loc) : Prop := ∃ (x : Addr) (uu : Addr), (v = some (.ref x)) ∧ (Fr n0 L) ∧ (Keep h0 h []) ∧ (Exa Z h x "java/util/ImmutableCollections$ListN") ∧ (Fld Z h x "java/util/ImmutableCollections$ListN" "elements" "[Ljava/lang/Object;" (.ref uu)) ∧ (Fld Z h x "java/util/ImmutableCollections$ListN" "allowNulls" "Z" (.int (0 : Int32))) ∧ (Arv Z h uu kO (.object "java/lang/Object") (3 : Int32) [(.ref y0), (.ref y1), (.ref y2)] .null) ∧ (h0.size ≤ x) ∧ (h0.size ≤ uu)
set_option maxRecDepth 65536 in
set_option maxHeartbeats 40000000 in
theorem rm_lcp_3 (l : Launch) (Z : State) (a0 : Array Value) (hw : ∀ d ∈ tables_1, d.before a0 Z = true) (ws : List Jvm.Cond) (a : Addr) (t : Addr) (kO : ClassId) (mir : Addr) (y0 : Addr) (y1 : Addr) (y2 : Addr) (h0 : Heap) (n0 : Nat) (O0 : Old Z n0 h0) (E_a : Exa Z h0 a "java/util/ArrayList") (Fe : Fld Z h0 a "java/util/ArrayList" "elementData" "[Ljava/lang/Object;" (.ref t)) (Fz : Fld Z h0 a "java/util/ArrayList" "size" "I" (.int (3 : Int32))) (V_t : Arv Z h0 t kO (.object "java/lang/Object") (10 : Int32) [(.ref y0), (.ref y1), (.ref y2), .null, .null, .null, .null, .null, .null, .null] .null) (OV : Ovr Z kO "java/lang/Object") (FC : Z.vm.findClass "[Ljava/lang/Object;" = some kO) (MIR : own_Mir Z "[Ljava/lang/Object;" mir) (I_y0 : Ins Z h0 y0 "java/lang/Object" true) (I_y1 : Ins Z h0 y1 "java/lang/Object" true) (I_y2 : Ins Z h0 y2 "java/lang/Object" true) :
    own_MF l own_m29 (Jvm.Cond.code own_m29 jdk_56_method_3_code 2 (some (.object "java/util/List")) :: ws) ({ frames := 7, cells := 3, slots := 8, locals := 90 } : Room) #[(.ref a)] Z h0 (Q_lcp_3 Z a t kO mir y0 y1 y2 h0 n0) := by
  refine own_met (own := "java/util/ImmutableCollections") (nme := "listCopy") rfl rfl (plainFor_of_name pn_13) ?_
  intro p e s m below meth c s₁ hx hby hml hown hnm X0 e0 hret hlk hZ
  have N0 := Fr.nil n0
  rw [ef_lcp_3 m a]
  refine own_st (T' := s₁) (g' := (mkF m 1 #[rv a, .unset] [(.ref a)])) (fun _ k_ => XS.aloadN X0.here hx rfl (hb hby d21_0) rfl rfl  k_) ?_
  obtain ⟨T1, X1, e1, st1⟩ := instNo X0 hx hZ hown (wd hw 129 rfl) e0 E_a (own_no0 hw) (g := (mkF m 1 #[rv a, .unset] [(.ref a)])) rfl rfl (hb hby d21_1)
  refine own_st (T' := T1) (g' := (mkF m 4 #[rv a, .unset] [(.int (0 : Int32))])) st1 ?_
  clear st1
  refine own_st (T' := T1) (g' := (mkF m 7 #[rv a, .unset] [])) (fun _ k_ => XS.ifNo X1.here hx rfl (hb hby d21_4) rfl ((if0 _ _).trans (teq (rfl : (0 : Int32) = (0 : Int32))).2) k_) ?_
  refine own_st (T' := T1) (g' := (mkF m 8 #[rv a, .unset] [(.ref a)])) (fun _ k_ => XS.aloadN X1.here hx rfl (hb hby d21_7) rfl rfl  k_) ?_
  obtain ⟨T2, X2, e2, st2⟩ := instNo X1 hx hZ hown (wd hw 134 rfl) e1 E_a (own_no1 hw) (g := (mkF m 8 #[rv a, .unset] [(.ref a)])) rfl rfl (hb hby d21_8)
  refine own_st (T' := T2) (g' := (mkF m 11 #[rv a, .unset] [(.int (0 : Int32))])) st2 ?_
  clear st2
  refine own_st (T' := T2) (g' := (mkF m 31 #[rv a, .unset] [])) (fun _ k_ => XS.ifYes X2.here hx rfl (pc0 := 11) (pc' := 31) rfl (hb hby d21_11) rfl ((if0 _ _).trans (teq (rfl : (0 : Int32) = (0 : Int32))).1) (by decide) (by decide) k_) ?_
  refine own_st (T' := T2) (g' := (mkF m 32 #[rv a, .unset] [(.ref a)])) (fun _ k_ => XS.aloadN X2.here hx rfl (hb hby d21_31) rfl rfl  k_) ?_
  obtain ⟨cq3, kq3, q3a, q3b, q3c⟩ := isOf hZ e2 E_a
  obtain ⟨_, T3, L3, X3, hQ3, st3⟩ := own_callF X2 hx (xi := own_m27) (y := own_m19) hown (mvT hZ (wd hw 135 rfl)) (mvT hZ (wd hw 136 rfl)) (mvT hZ (wd hw 137 rfl)) (mvT hZ (wd hw 138 rfl)) (mvT hZ (wd hw 139 rfl)) (mvT hZ (wd hw 140 rfl)) (mvT hZ (wd hw 141 rfl)) (mvT hZ (wd hw 142 rfl)) (by decide) (backOf (W := 0) (rm_alem l Z a0 hw [] a (3 : Int32) h0 n0 O0 Fz (by decide)) hZ (wd hw 143 rfl) (wd hw 45 rfl) (by decide) (by decide)) q3a q3b q3c (g := (mkF m 32 #[rv a, .unset] [(.ref a)])) rfl (by rw [hml]; rfl) (argsL := []) (rest := []) (lenOf pd___Z rfl) rfl (by show 2 * 0 + _ ≤ _; exact Nat.le_of_eq rfl) (hb hby d21_32) rfl e2 (by decide) (by decide) (c' := 0) (s' := 0) rfl rfl
  clear q3a q3b q3c kq3 cq3
  obtain ⟨rfl, Nq3, eq3⟩ := hQ3
  have N3 := Fr.app N0 Nq3
  refine own_st (T' := T3) (g' := (mkF m 37 #[rv a, .unset] [(.int (0 : Int32))])) st3 ?_
  clear st3
  refine own_st (T' := T3) (g' := (mkF m 44 #[rv a, .unset] [])) (fun _ k_ => XS.ifYes X3.here hx rfl (pc0 := 37) (pc' := 44) rfl (hb hby d21_37) rfl ((if0 _ _).trans (teq (rfl : (0 : Int32) = (0 : Int32))).1) (by decide) (by decide) k_) ?_
  refine own_st (T' := T3) (g' := (mkF m 45 #[rv a, .unset] [(.ref a)])) (fun _ k_ => XS.aloadN X3.here hx rfl (hb hby d21_44) rfl rfl  k_) ?_
  obtain ⟨cq4, kq4, q4a, q4b, q4c⟩ := isOf hZ eq3 E_a
  obtain ⟨_, T4, L4, X4, hQ4, st4⟩ := own_callF X3 hx (xi := own_m28) (y := own_m25) hown (mvT hZ (wd hw 144 rfl)) (mvT hZ (wd hw 145 rfl)) (mvT hZ (wd hw 146 rfl)) (mvT hZ (wd hw 147 rfl)) (mvT hZ (wd hw 148 rfl)) (mvT hZ (wd hw 149 rfl)) (mvT hZ (wd hw 150 rfl)) (mvT hZ (wd hw 142 rfl)) (by decide) (backOf (W := 0) (rm_tar_3 l Z a0 hw [] a t kO mir y0 y1 y2 h0 n0 O0 Fe Fz V_t OV FC MIR I_y0 I_y1 I_y2) hZ (wd hw 151 rfl) (wd hw 45 rfl) (by decide) (by decide)) q4a q4b q4c (g := (mkF m 45 #[rv a, .unset] [(.ref a)])) rfl (by rw [hml]; rfl) (argsL := []) (rest := []) (lenOf pd____Ljava_lang_Object_ rfl) rfl (by show 2 * 0 + _ ≤ _; exact Nat.le_of_eq rfl) (hb hby d21_45) rfl eq3 (by decide) (by decide) (c' := 1) (s' := 3) rfl rfl
  clear q4a q4b q4c kq4 cq4
  obtain ⟨u4, rfl, Nq4, K4, fq4_0, xq4_fresh_u⟩ := hQ4
  have N4 := Fr.app N3 Nq4
  refine own_st (T' := T4) (g' := (mkF m 50 #[rv a, .unset] [(.ref u4)])) st4 ?_
  clear st4
  have f5 := own_insK I_y0 K4
  have f6 := own_insK I_y1 K4
  have f7 := own_insK I_y2 K4
  have f8 := O0.keep K4 all0
  have f9 := (Keep.refl h0 []).trans K4 all0
  obtain ⟨_, T10, L10, X10, hQ10, st10⟩ := own_callS X4 hx (y := own_m26) hown (mvT hZ (wd hw 174 rfl)) (mvT hZ (wd hw 175 rfl)) (mvT hZ (wd hw 123 rfl)) (mvT hZ (wd hw 176 rfl)) (by decide) (backOf (W := 0) (rm_lof_3 l Z a0 hw [] u4 kO y0 y1 y2 T4.heap n0 f8 fq4_0 OV FC f5 f6 f7) hZ (wd hw 176 rfl) (wd hw 123 rfl) (by decide) (by decide)) (g := (mkF m 50 #[rv a, .unset] [(.ref u4)])) rfl (by rw [hml]; rfl) (argsL := [(.ref u4)]) (rest := []) (lenOf pd___Ljava_lang_Object__Ljava_util_List_ rfl) rfl (by show 2 * 0 + _ ≤ _; exact Nat.le_of_eq rfl) (hb hby d21_50) rfl rfl (by decide) (by decide) (c' := 3) (s' := 8) rfl rfl
  obtain ⟨x10, uu10, rfl, Nq10, K10, fq10_0, fq10_1, fq10_2, fq10_3, xq10_fresh_x, xq10_fresh_uu⟩ := hQ10
  have N10 := Fr.app N4 Nq10
  refine own_st (T' := T10) (g' := (mkF m 53 #[rv a, .unset] [(.ref x10)])) st10 ?_
  clear st10
  have f11 := f9.trans K10 all0
  exact own_retA X10 hx hret rfl rfl hlk (hb hby d21_53) (by decide) (by decide) ⟨x10, uu10, rfl, N10, f11, fq10_0, fq10_1, fq10_2, fq10_3, (Nat.le_trans f9.1 xq10_fresh_x), (Nat.le_trans f9.1 xq10_fresh_uu)⟩
theorem ef_cpy_3 (m : MethodId) (x0 : Addr) : entryFrame m #[(.ref x0)] 1 = mkF m 0 #[rv x0] [] := by first | (simp [entryFrame, mkF, argsToLocals, Value.category]; done) | rfl
def Q_cpy_3 (Z : State) (a : Addr) (t : Addr) (kO : ClassId) (mir : Addr) (y0 : Addr) (y1 : Addr) (y2 : Addr) (h0 : Heap) (n0 : Nat) (v : Option Value) (h : Heap) (L : List Loc) : Prop := ∃ (x : Addr) (uu : Addr), (v = some (.ref x)) ∧ (Fr n0 L) ∧ (Keep h0 h []) ∧ (Exa Z h x "java/util/ImmutableCollections$ListN") ∧ (Fld Z h x "java/util/ImmutableCollections$ListN" "elements" "[Ljava/lang/Object;" (.ref uu)) ∧ (Fld Z h x "java/util/ImmutableCollections$ListN" "allowNulls" "Z" (.int (0 : Int32))) ∧ (Arv Z h uu kO (.object "java/lang/Object") (3 : Int32) [(.ref y0), (.ref y1), (.ref y2)] .null) ∧ (h0.size ≤ x) ∧ (h0.size ≤ uu)
set_option maxRecDepth 65536 in
set_option maxHeartbeats 40000000 in
theorem rm_cpy_3 (l : Launch) (Z : State) (a0 : Array Value) (hw : ∀ d ∈ tables_1, d.before a0 Z = true) (ws : List Jvm.Cond) (a : Addr) (t : Addr) (kO : ClassId) (mir : Addr) (y0 : Addr) (y1 : Addr) (y2 : Addr) (h0 : Heap) (n0 : Nat) (O0 : Old Z n0 h0) (E_a : Exa Z h0 a "java/util/ArrayList") (Fe : Fld Z h0 a "java/util/ArrayList" "elementData" "[Ljava/lang/Object;" (.ref t)) (Fz : Fld Z h0 a "java/util/ArrayList" "size" "I" (.int (3 : Int32))) (V_t : Arv Z h0 t kO (.object "java/lang/Object") (10 : Int32) [(.ref y0), (.ref y1), (.ref y2), .null, .null, .null, .null, .null, .null, .null] .null) (OV : Ovr Z kO "java/lang/Object") (FC : Z.vm.findClass "[Ljava/lang/Object;" = some kO) (MIR : own_Mir Z "[Ljava/lang/Object;" mir) (I_y0 : Ins Z h0 y0 "java/lang/Object" true) (I_y1 : Ins Z h0 y1 "java/lang/Object" true) (I_y2 : Ins Z h0 y2 "java/lang/Object" true) :
    own_MF l own_m30 (Jvm.Cond.code own_m30 jdk_40_method_48_code 1 (some (.object "java/util/List")) :: ws) ({ frames := 8, cells := 3, slots := 8, locals := 103 } : Room) #[(.ref a)] Z h0 (Q_cpy_3 Z a t kO mir y0 y1 y2 h0 n0) := by
  refine own_met (own := "java/util/List") (nme := "copyOf") rfl rfl (plainFor_of_name pn_12) ?_
  intro p e s m below meth c s₁ hx hby hml hown hnm X0 e0 hret hlk hZ
  have N0 := Fr.nil n0
  rw [ef_cpy_3 m a]
  refine own_st (T' := s₁) (g' := (mkF m 1 #[rv a] [(.ref a)])) (fun _ k_ => XS.aloadN X0.here hx rfl (hb hby d20_0) rfl rfl  k_) ?_
  obtain ⟨_, T1, L1, X1, hQ1, st1⟩ := own_callS X0 hx (y := own_m29) hown (mvT hZ (wd hw 125 rfl)) (mvT hZ (wd hw 126 rfl)) (mvT hZ (wd hw 127 rfl)) (mvT hZ (wd hw 128 rfl)) (by decide) (backOf (W := 0) (rm_lcp_3 l Z a0 hw [] a t kO mir y0 y1 y2 h0 n0 O0 E_a Fe Fz V_t OV FC MIR I_y0 I_y1 I_y2) hZ (wd hw 128 rfl) (wd hw 127 rfl) (by decide) (by decide)) (g := (mkF m 1 #[rv a] [(.ref a)])) rfl (by rw [hml]; rfl) (argsL := [(.ref a)]) (rest := []) (lenOf pd__Ljava_util_Collection__Ljava_util_List_ rfl) rfl (by show 2 * 0 + _ ≤ _; exact Nat.le_of_eq rfl) (hb hby d20_1) rfl e0 (by decide) (by decide) (c' := 3) (s' := 8) rfl rfl
  obtain ⟨x1, uu1, rfl, Nq1, K1, fq1_0, fq1_1, fq1_2, fq1_3, xq1_fresh_x, xq1_fresh_uu⟩ := hQ1
  have N1 := Fr.app N0 Nq1
  refine own_st (T' := T1) (g' := (mkF m 4 #[rv a] [(.ref x1)])) st1 ?_
  clear st1
  have f2 := (Keep.refl h0 []).trans K1 all0
  exact own_retA X1 hx hret rfl rfl hlk (hb hby d20_4) (by decide) (by decide) ⟨x1, uu1, rfl, N1, f2, fq1_0, fq1_1, fq1_2, fq1_3, (Nat.le_trans (Keep.refl h0 []).1 xq1_fresh_x), (Nat.le_trans (Keep.refl h0 []).1 xq1_fresh_uu)⟩
theorem ef_cp3_4 (m : MethodId) (x0 : Addr) (x1 : Int32) (x2 : Addr) : entryFrame m #[(.ref x0), (.int x1), (.ref x2)] 4 = mkF m 0 #[rv x0, iv x1, rv x2, .unset] [] := by first | (simp [entryFrame, mkF, argsToLocals, Value.category]; done) | rfl
def Q_cp3_4 (Z : State) (t : Addr) (kO : ClassId) (mir : Addr) (y0 : Addr) (y1 : Addr) (y2 : Addr) (y3 : Addr) (h0 : Heap) (n0 : Nat) (v : Option Value) (h : Heap) (L : List Loc) : Prop := ∃ (u : Addr), (v = some (.ref u)) ∧ (Fr n0 L) ∧ (Keep h0 h []) ∧ (Arv Z h u kO (.object "java/lang/Object") (4 : Int32) [(.ref y0), (.ref y1), (.ref y2), (.ref y3)] .null) ∧ (h0.size ≤ u)
set_option maxRecDepth 65536 in
set_option maxHeartbeats 40000000 in
theorem rm_cp3_4 (l : Launch) (Z : State) (a0 : Array Value) (hw : ∀ d ∈ tables_1, d.before a0 Z = true) (ws : List Jvm.Cond) (t : Addr) (kO : ClassId) (mir : Addr) (y0 : Addr) (y1 : Addr) (y2 : Addr) (y3 : Addr) (h0 : Heap) (n0 : Nat) (O0 : Old Z n0 h0) (V_t : Arv Z h0 t kO (.object "java/lang/Object") (10 : Int32) [(.ref y0), (.ref y1), (.ref y2), (.ref y3), .null, .null, .null, .null, .null, .null] .null) (OV : Ovr Z kO "java/lang/Object") (FC : Z.vm.findClass "[Ljava/lang/Object;" = some kO) (MIR : own_Mir Z "[Ljava/lang/Object;" mir) (I_y0 : Ins Z h0 y0 "java/lang/Object" true) (I_y1 : Ins Z h0 y1 "java/lang/Object" true) (I_y2 : Ins Z h0 y2 "java/lang/Object" true) (I_y3 : Ins Z h0 y3 "java/lang/Object" true) :
    own_MF l own_m23 (Jvm.Cond.code own_m23 jdk_65_method_120_code 4 (some (.array (.object "java/lang/Object"))) :: ws) ({ frames := 1, cells := 1, slots := 4, locals := 40 } : Room) #[(.ref t), (.int (4 : Int32)), (.ref mir)] Z h0 (Q_cp3_4 Z t kO mir y0 y1 y2 y3 h0 n0) := by
  refine own_met (own := "java/util/Arrays") (nme := "copyOf") rfl rfl (plainFor_of_name pn_11) ?_
  intro p e s m below meth c s₁ hx hby hml hown hnm X0 e0 hret hlk hZ
  have N0 := Fr.nil n0
  rw [ef_cp3_4 m t (4 : Int32) mir]
  refine own_st (T' := s₁) (g' := (mkF m 1 #[rv t, iv (4 : Int32), rv mir, .unset] [(.ref mir)])) (fun _ k_ => XS.aloadN X0.here hx rfl (hb hby d25_0) rfl rfl  k_) ?_
  obtain ⟨T1, X1, e1, st1⟩ := own_ldk X0 hx hZ hown (wd hw 165 rfl) e0 MIR (g := (mkF m 1 #[rv t, iv (4 : Int32), rv mir, .unset] [(.ref mir)])) rfl (hb hby d25_1)
  refine own_st (T' := T1) (g' := (mkF m 3 #[rv t, iv (4 : Int32), rv mir, .unset] [(.ref mir), (.ref mir)])) st1 ?_
  clear st1
  refine own_st (T' := T1) (g' := (mkF m 6 #[rv t, iv (4 : Int32), rv mir, .unset] [])) (fun _ k_ => Jvm.RoadKit.acmp (g := (mkF m 3 #[rv t, iv (4 : Int32), rv mir, .unset] [(.ref mir), (.ref mir)])) X1 hx rfl rfl rfl (pc0 := 3) (pc' := 6) (same := true) rfl (hb hby d25_3) rfl (decide_eq_true rfl) (by decide) (by decide) k_) ?_
  refine own_st (T' := T1) (g' := (mkF m 7 #[rv t, iv (4 : Int32), rv mir, .unset] [(.int (4 : Int32))])) (fun _ k_ => XS.iloadN X1.here hx rfl (hb hby d25_6) rfl  k_) ?_
  obtain ⟨T2, h2, k2, X2, e2, E2, A2, EX2, O2, st2⟩ := newRE X1 hx hZ hown (wd hw 166 rfl) (wd hw 96 rfl) e1 (g := (mkF m 7 #[rv t, iv (4 : Int32), rv mir, .unset] [(.int (4 : Int32))])) rfl (hb hby d25_7) rfl (by decide) (cap := 4) (by decide) (by decide) (by decide) (by decide) (ad := "[Ljava/lang/Object;") (by decide)
  obtain rfl : kO = k2 := own_kk EX2 A2 FC
  clear EX2 O2
  obtain ⟨b2, g2⟩ : ∃ z, z = h0.size := ⟨_, rfl⟩
  rw [← g2] at A2 st2
  have fr2 : n0 ≤ b2 := Nat.le_trans (own_z O0) (Nat.le_of_eq g2.symm)
  have sz2 : h0.size ≤ b2 := Nat.le_trans (Keep.refl h0 []).1 (Nat.le_of_eq g2.symm)
  have V2 : Arv Z h2 b2 kO (.object "java/lang/Object") (4 : Int32) [.null, .null, .null, .null] .null := (Arv.new A2 (by decide)).pad (pad_rep [] .null 4)
  refine own_st (T' := T2) (g' := (mkF m 10 #[rv t, iv (4 : Int32), rv mir, .unset] [(.ref b2)])) st2 ?_
  clear st2
  refine own_st (T' := T2) (g' := (mkF m 24 #[rv t, iv (4 : Int32), rv mir, .unset] [(.ref b2)])) (fun _ k_ => XS.goto X2.here hx rfl (pc0 := 10) (pc' := 24) rfl (hb hby d25_10) (by decide) (by decide) k_) ?_
  refine own_st (T' := T2) (g' := (mkF m 25 #[rv t, iv (4 : Int32), rv mir, rv b2] [])) (fun _ k_ => XS.astoreN X2.here hx rfl (hb hby d25_24) rfl rfl (l' := #[rv t, iv (4 : Int32), rv mir, rv b2]) rfl k_) ?_
  refine own_st (T' := T2) (g' := (mkF m 26 #[rv t, iv (4 : Int32), rv mir, rv b2] [(.ref t)])) (fun _ k_ => XS.aloadN X2.here hx rfl (hb hby d25_25) rfl rfl  k_) ?_
  refine own_st (T' := T2) (g' := (mkF m 27 #[rv t, iv (4 : Int32), rv mir, rv b2] [(.int (0 : Int32)), (.ref t)])) (fun _ k_ => XS.iconst X2.here hx rfl (hb hby d25_26) k_) ?_
  refine own_st (T' := T2) (g' := (mkF m 28 #[rv t, iv (4 : Int32), rv mir, rv b2] [(.ref b2), (.int (0 : Int32)), (.ref t)])) (fun _ k_ => XS.aloadN X2.here hx rfl (hb hby d25_27) rfl rfl  k_) ?_
  refine own_st (T' := T2) (g' := (mkF m 29 #[rv t, iv (4 : Int32), rv mir, rv b2] [(.int (0 : Int32)), (.ref b2), (.int (0 : Int32)), (.ref t)])) (fun _ k_ => XS.iconst X2.here hx rfl (hb hby d25_28) k_) ?_
  refine own_st (T' := T2) (g' := (mkF m 30 #[rv t, iv (4 : Int32), rv mir, rv b2] [(.ref t), (.int (0 : Int32)), (.ref b2), (.int (0 : Int32)), (.ref t)])) (fun _ k_ => XS.aloadN X2.here hx rfl (hb hby d25_29) rfl rfl  k_) ?_
  have f4 := V_t.ext E2
  obtain ⟨cl3, Ar3, -, S3, N3, -, -⟩ := id f4
  refine own_st (T' := T2) (g' := (mkF m 31 #[rv t, iv (4 : Int32), rv mir, rv b2] [(.int (10 : Int32)), (.int (0 : Int32)), (.ref b2), (.int (0 : Int32)), (.ref t)])) (fun t_ k_ => X2.arraylength hx (by rw [e2]; exact Ar3.1) (State.isArrayOf_alike hZ.alike Ar3.2.1) (g := (mkF m 30 #[rv t, iv (4 : Int32), rv mir, rv b2] [(.ref t), (.int (0 : Int32)), (.ref b2), (.int (0 : Int32)), (.ref t)])) rfl rfl (hb hby d25_30) _ (by rw [len_of S3 N3]; exact k_)) ?_
  refine own_st (T' := T2) (g' := (mkF m 32 #[rv t, iv (4 : Int32), rv mir, rv b2] [(.int (4 : Int32)), (.int (10 : Int32)), (.int (0 : Int32)), (.ref b2), (.int (0 : Int32)), (.ref t)])) (fun _ k_ => XS.iloadN X2.here hx rfl (hb hby d25_31) rfl  k_) ?_
  have f5 := O0.ext E2
  obtain ⟨_, T6, L6, X6, hQ6, st6⟩ := own_callS X2 hx (y := own_m18) hown (mvT hZ (wd hw 167 rfl)) (mvT hZ (wd hw 168 rfl)) (mvT hZ (wd hw 93 rfl)) (mvT hZ (wd hw 169 rfl)) (by decide) (backOf (W := 4) (rm_min l Z a0 hw [] (10 : Int32) (4 : Int32) h2 n0 f5 (by decide)) hZ (wd hw 169 rfl) (wd hw 93 rfl) (by decide) (by decide)) (g := (mkF m 32 #[rv t, iv (4 : Int32), rv mir, rv b2] [(.int (4 : Int32)), (.int (10 : Int32)), (.int (0 : Int32)), (.ref b2), (.int (0 : Int32)), (.ref t)])) rfl (by rw [hml]; rfl) (argsL := [(.int (10 : Int32)), (.int (4 : Int32))]) (rest := [(.int (0 : Int32)), (.ref b2), (.int (0 : Int32)), (.ref t)]) (lenOf pd__II_I rfl) rfl (by show 2 * 0 + _ ≤ _; exact Nat.le_of_eq rfl) (hb hby d25_32) rfl e2 (by decide) (by decide) (c' := 1) (s' := 4) rfl rfl
  obtain ⟨rfl, Nq6, eq6⟩ := hQ6
  have N6 := Fr.app N0 Nq6
  refine own_st (T' := T6) (g' := (mkF m 35 #[rv t, iv (4 : Int32), rv mir, rv b2] [(.int (4 : Int32)), (.int (0 : Int32)), (.ref b2), (.int (0 : Int32)), (.ref t)])) st6 ?_
  clear st6
  obtain ⟨cl7, Ar7, q7, -⟩ := id V2
  have f8 := Ins.ext E2 I_y3
  have f9 := Ins.ext E2 I_y2
  have f10 := Ins.ext E2 I_y1
  have f11 := Ins.ext E2 I_y0
  obtain ⟨T7, h7, L7, X7, e7, N7, K7, Va7, st7⟩ := cpA X6 hx hZ hown (wd hw 170 rfl) (wd hw 173 rfl) (wd hw 171 rfl) (wd hw 172 rfl) eq6 f4 V2 (sp := (0 : Int32)) (dp := (0 : Int32)) (nn := (4 : Int32)) (us := [(.ref y0), (.ref y1), (.ref y2), (.ref y3)]) (Or.inr ⟨rfl, rfl, ⟨Sto.ofV Ar7 q7 OV f11, ⟨Sto.ofV Ar7 q7 OV f10, ⟨Sto.ofV Ar7 q7 OV f9, ⟨Sto.ofV Ar7 q7 OV f8, trivial⟩⟩⟩⟩⟩) (by decide) (by decide) (by decide) (by decide) (by decide) rfl (Nat.le_of_ble_eq_true rfl) N6 fr2 (g := (mkF m 35 #[rv t, iv (4 : Int32), rv mir, rv b2] [(.int (4 : Int32)), (.int (0 : Int32)), (.ref b2), (.int (0 : Int32)), (.ref t)])) rfl (by rw [hml]; rfl) (rest := []) rfl (hb hby d25_35) (by decide) (W := 0) (by show 2 * 0 + _ ≤ _; exact Nat.le_of_eq rfl) (by decide)
  clear Ar7 q7 cl7
  have V7 : Arv Z h7 b2 kO (.object "java/lang/Object") (4 : Int32) [(.ref y0), (.ref y1), (.ref y2), (.ref y3)] .null := Va7
  refine own_st (T' := T7) (g' := (mkF m 38 #[rv t, iv (4 : Int32), rv mir, rv b2] [])) st7 ?_
  clear st7
  refine own_st (T' := T7) (g' := (mkF m 39 #[rv t, iv (4 : Int32), rv mir, rv b2] [(.ref b2)])) (fun _ k_ => XS.aloadN X7.here hx rfl (hb hby d25_38) rfl rfl  k_) ?_
  have f12 := (Keep.refl h0 []).ext E2
  have f13 := f12.trans K7 (allS (Or.inr sz2) all0)
  exact own_retA X7 hx hret rfl rfl hlk (hb hby d25_39) (by decide) (by decide) (by rw [e7]; exact ⟨b2, rfl, N7, f13, V7, sz2⟩)
theorem ef_cp2_4 (m : MethodId) (x0 : Addr) (x1 : Int32) : entryFrame m #[(.ref x0), (.int x1)] 2 = mkF m 0 #[rv x0, iv x1] [] := by first | (simp [entryFrame, mkF, argsToLocals, Value.category]; done) | rfl
def Q_cp2_4 (Z : State) (t : Addr) (kO : ClassId) (mir : Addr) (y0 : Addr) (y1 : Addr) (y2 : Addr) (y3 : Addr) (h0 : Heap) (n0 : Nat) (v : Option Value) (h : Heap) (L : List Loc) : Prop := ∃ (u : Addr), (v = some (.ref u)) ∧ (Fr n0 L) ∧ (Keep h0 h []) ∧ (Arv Z h u kO (.object "java/lang/Object") (4 : Int32) [(.ref y0), (.ref y1), (.ref y2), (.ref y3)] .null) ∧ (h0.size ≤ u)
set_option maxRecDepth 65536 in
set_option maxHeartbeats 40000000 in
theorem rm_cp2_4 (l : Launch) (Z : State) (a0 : Array Value) (hw : ∀ d ∈ tables_1, d.before a0 Z = true) (ws : List Jvm.Cond) (t : Addr) (kO : ClassId) (mir : Addr) (y0 : Addr) (y1 : Addr) (y2 : Addr) (y3 : Addr) (h0 : Heap) (n0 : Nat) (O0 : Old Z n0 h0) (V_t : Arv Z h0 t kO (.object "java/lang/Object") (10 : Int32) [(.ref y0), (.ref y1), (.ref y2), (.ref y3), .null, .null, .null, .null, .null, .null] .null) (OV : Ovr Z kO "java/lang/Object") (FC : Z.vm.findClass "[Ljava/lang/Object;" = some kO) (MIR : own_Mir Z "[Ljava/lang/Object;" mir) (I_y0 : Ins Z h0 y0 "java/lang/Object" true) (I_y1 : Ins Z h0 y1 "java/lang/Object" true) (I_y2 : Ins Z h0 y2 "java/lang/Object" true) (I_y3 : Ins Z h0 y3 "java/lang/Object" true) :
    own_MF l own_m24 (Jvm.Cond.code own_m24 jdk_65_method_119_code 2 (some (.array (.object "java/lang/Object"))) :: ws) ({ frames := 2, cells := 1, slots := 4, locals := 55 } : Room) #[(.ref t), (.int (4 : Int32))] Z h0 (Q_cp2_4 Z t kO mir y0 y1 y2 y3 h0 n0) := by
  refine own_met (own := "java/util/Arrays") (nme := "copyOf") rfl rfl (plainFor_of_name pn_11) ?_
  intro p e s m below meth c s₁ hx hby hml hown hnm X0 e0 hret hlk hZ
  have N0 := Fr.nil n0
  rw [ef_cp2_4 m t (4 : Int32)]
  refine own_st (T' := s₁) (g' := (mkF m 1 #[rv t, iv (4 : Int32)] [(.ref t)])) (fun _ k_ => XS.aloadN X0.here hx rfl (hb hby d24_0) rfl rfl  k_) ?_
  refine own_st (T' := s₁) (g' := (mkF m 2 #[rv t, iv (4 : Int32)] [(.int (4 : Int32)), (.ref t)])) (fun _ k_ => XS.iloadN X0.here hx rfl (hb hby d24_1) rfl  k_) ?_
  refine own_st (T' := s₁) (g' := (mkF m 3 #[rv t, iv (4 : Int32)] [(.ref t), (.int (4 : Int32)), (.ref t)])) (fun _ k_ => XS.aloadN X0.here hx rfl (hb hby d24_2) rfl rfl  k_) ?_
  obtain ⟨T1, X1, e1, st1⟩ := own_gcls X0 hx hZ hown (wd hw 156 rfl) (wd hw 157 rfl) (wd hw 133 rfl) (wd hw 159 rfl) (wd hw 158 rfl) (wd hw 160 rfl) e0 (own_exaArv V_t FC) MIR (g := (mkF m 3 #[rv t, iv (4 : Int32)] [(.ref t), (.int (4 : Int32)), (.ref t)])) rfl (by rw [hml]; rfl) (rest := [(.int (4 : Int32)), (.ref t)]) rfl (hb hby d24_3) (by decide) (W := 2) (by show 2 * 0 + _ ≤ _; exact Nat.le_of_eq rfl) (by decide)
  refine own_st (T' := T1) (g' := (mkF m 6 #[rv t, iv (4 : Int32)] [(.ref mir), (.int (4 : Int32)), (.ref t)])) st1 ?_
  clear st1
  obtain ⟨_, T2, L2, X2, hQ2, st2⟩ := own_callS X1 hx (y := own_m23) hown (mvT hZ (wd hw 162 rfl)) (mvT hZ (wd hw 163 rfl)) (mvT hZ (wd hw 154 rfl)) (mvT hZ (wd hw 164 rfl)) (by decide) (backOf (W := 0) (rm_cp3_4 l Z a0 hw [] t kO mir y0 y1 y2 y3 h0 n0 O0 V_t OV FC MIR I_y0 I_y1 I_y2 I_y3) hZ (wd hw 164 rfl) (wd hw 154 rfl) (by decide) (by decide)) (g := (mkF m 6 #[rv t, iv (4 : Int32)] [(.ref mir), (.int (4 : Int32)), (.ref t)])) rfl (by rw [hml]; rfl) (argsL := [(.ref t), (.int (4 : Int32)), (.ref mir)]) (rest := []) (lenOf pd___Ljava_lang_Object_ILjava_lang_Class___Ljava_lang_Object_ rfl) rfl (by show 2 * 0 + _ ≤ _; exact Nat.le_of_eq rfl) (hb hby d24_6) rfl e1 (by decide) (by decide) (c' := 1) (s' := 4) rfl rfl
  obtain ⟨u2, rfl, Nq2, K2, fq2_0, xq2_fresh_u⟩ := hQ2
  have N2 := Fr.app N0 Nq2
  refine own_st (T' := T2) (g' := (mkF m 9 #[rv t, iv (4 : Int32)] [(.ref u2)])) st2 ?_
  clear st2
  have f3 := (Keep.refl h0 []).trans K2 all0
  exact own_retA X2 hx hret rfl rfl hlk (hb hby d24_9) (by decide) (by decide) ⟨u2, rfl, N2, f3, fq2_0, (Nat.le_trans (Keep.refl h0 []).1 xq2_fresh_u)⟩
theorem ef_tar_4 (m : MethodId) (x0 : Addr) : entryFrame m #[(.ref x0)] 1 = mkF m 0 #[rv x0] [] := by first | (simp [entryFrame, mkF, argsToLocals, Value.category]; done) | rfl
def Q_tar_4 (Z : State) (a : Addr) (t : Addr) (kO : ClassId) (mir : Addr) (y0 : Addr) (y1 : Addr) (y2 : Addr) (y3 : Addr) (h0 : Heap) (n0 : Nat) (v : Option Value) (h : Heap) (L : List Loc) : Prop := ∃ (u : Addr), (v = some (.ref u)) ∧ (Fr n0 L) ∧ (Keep h0 h []) ∧ (Arv Z h u kO (.object "java/lang/Object") (4 : Int32) [(.ref y0), (.ref y1), (.ref y2), (.ref y3)] .null) ∧ (h0.size ≤ u)
set_option maxRecDepth 65536 in
set_option maxHeartbeats 40000000 in
theorem rm_tar_4 (l : Launch) (Z : State) (a0 : Array Value) (hw : ∀ d ∈ tables_1, d.before a0 Z = true) (ws : List Jvm.Cond) (a : Addr) (t : Addr) (kO : ClassId) (mir : Addr) (y0 : Addr) (y1 : Addr) (y2 : Addr) (y3 : Addr) (h0 : Heap) (n0 : Nat) (O0 : Old Z n0 h0) (Fe : Fld Z h0 a "java/util/ArrayList" "elementData" "[Ljava/lang/Object;" (.ref t)) (Fz : Fld Z h0 a "java/util/ArrayList" "size" "I" (.int (4 : Int32))) (V_t : Arv Z h0 t kO (.object "java/lang/Object") (10 : Int32) [(.ref y0), (.ref y1), (.ref y2), (.ref y3), .null, .null, .null, .null, .null, .null] .null) (OV : Ovr Z kO "java/lang/Object") (FC : Z.vm.findClass "[Ljava/lang/Object;" = some kO) (MIR : own_Mir Z "[Ljava/lang/Object;" mir) (I_y0 : Ins Z h0 y0 "java/lang/Object" true) (I_y1 : Ins Z h0 y1 "java/lang/Object" true) (I_y2 : Ins Z h0 y2 "java/lang/Object" true) (I_y3 : Ins Z h0 y3 "java/lang/Object" true) :
    own_MF l own_m25 (Jvm.Cond.code own_m25 jdk_38_method_16_code 1 (some (.array (.object "java/lang/Object"))) :: ws) ({ frames := 3, cells := 1, slots := 4, locals := 68 } : Room) #[(.ref a)] Z h0 (Q_tar_4 Z a t kO mir y0 y1 y2 y3 h0 n0) := by
  refine own_met (own := "java/util/ArrayList") (nme := "toArray") rfl rfl (plainFor_of_name pn_5) ?_
  intro p e s m below meth c s₁ hx hby hml hown hnm X0 e0 hret hlk hZ
  have N0 := Fr.nil n0
  rw [ef_tar_4 m a]
  refine own_st (T' := s₁) (g' := (mkF m 1 #[rv a] [(.ref a)])) (fun _ k_ => XS.aloadN X0.here hx rfl (hb hby d23_0) rfl rfl  k_) ?_
  obtain ⟨T1, X1, e1, st1⟩ := getF X0 hx hZ hown (host := "") (Or.inl (wd hw 65 rfl)) Via.refl e0 Fe (g := (mkF m 1 #[rv a] [(.ref a)])) rfl rfl (hb hby d23_1)
  refine own_st (T' := T1) (g' := (mkF m 4 #[rv a] [(.ref t)])) st1 ?_
  clear st1
  refine own_st (T' := T1) (g' := (mkF m 5 #[rv a] [(.ref a), (.ref t)])) (fun _ k_ => XS.aloadN X1.here hx rfl (hb hby d23_4) rfl rfl  k_) ?_
  obtain ⟨T2, X2, e2, st2⟩ := getF X1 hx hZ hown (host := "") (Or.inl (wd hw 74 rfl)) Via.refl e1 Fz (g := (mkF m 5 #[rv a] [(.ref a), (.ref t)])) rfl rfl (hb hby d23_5)
  refine own_st (T' := T2) (g' := (mkF m 8 #[rv a] [(.int (4 : Int32)), (.ref t)])) st2 ?_
  clear st2
  obtain ⟨_, T3, L3, X3, hQ3, st3⟩ := own_callS X2 hx (y := own_m24) hown (mvT hZ (wd hw 152 rfl)) (mvT hZ (wd hw 153 rfl)) (mvT hZ (wd hw 154 rfl)) (mvT hZ (wd hw 155 rfl)) (by decide) (backOf (W := 0) (rm_cp2_4 l Z a0 hw [] t kO mir y0 y1 y2 y3 h0 n0 O0 V_t OV FC MIR I_y0 I_y1 I_y2 I_y3) hZ (wd hw 155 rfl) (wd hw 154 rfl) (by decide) (by decide)) (g := (mkF m 8 #[rv a] [(.int (4 : Int32)), (.ref t)])) rfl (by rw [hml]; rfl) (argsL := [(.ref t), (.int (4 : Int32))]) (rest := []) (lenOf pd___Ljava_lang_Object_I__Ljava_lang_Object_ rfl) rfl (by show 2 * 0 + _ ≤ _; exact Nat.le_of_eq rfl) (hb hby d23_8) rfl e2 (by decide) (by decide) (c' := 1) (s' := 4) rfl rfl
  obtain ⟨u3, rfl, Nq3, K3, fq3_0, xq3_fresh_u⟩ := hQ3
  have N3 := Fr.app N0 Nq3
  refine own_st (T' := T3) (g' := (mkF m 11 #[rv a] [(.ref u3)])) st3 ?_
  clear st3
  have f4 := (Keep.refl h0 []).trans K3 all0
  exact own_retA X3 hx hret rfl rfl hlk (hb hby d23_11) (by decide) (by decide) ⟨u3, rfl, N3, f4, fq3_0, (Nat.le_trans (Keep.refl h0 []).1 xq3_fresh_u)⟩
theorem ef_lfa_4 (m : MethodId) (x0 : Addr) : entryFrame m #[(.ref x0)] 3 = mkF m 0 #[rv x0, .unset, .unset] [] := by first | (simp [entryFrame, mkF, argsToLocals, Value.category]; done) | rfl
def Q_lfa_4 (Z : State) (u : Addr) (kO : ClassId) (y0 : Addr) (y1 : Addr) (y2 : Addr) (y3 : Addr) (h0 : Heap) (n0 : Nat) (v : Option Value) (h : Heap) (L : List Loc) : Prop := ∃ (x : Addr) (uu : Addr), (v = some (.ref x)) ∧ (Fr n0 L) ∧ (Keep h0 h []) ∧ (Exa Z h x "java/util/ImmutableCollections$ListN") ∧ (Fld Z h x "java/util/ImmutableCollections$ListN" "elements" "[Ljava/lang/Object;" (.ref uu)) ∧ (Fld Z h x "java/util/ImmutableCollections$ListN" "allowNulls" "Z" (.int (0 : Int32))) ∧ (Arv Z h uu kO (.object "java/lang/Object") (4 : Int32) [(.ref y0), (.ref y1), (.ref y2), (.ref y3)] .null) ∧ (h0.size ≤ x) ∧ (h0.size ≤ uu)
set_option maxRecDepth 65536 in
set_option maxHeartbeats 40000000 in
theorem rm_lfa_4 (l : Launch) (Z : State) (a0 : Array Value) (hw : ∀ d ∈ tables_1, d.before a0 Z = true) (ws : List Jvm.Cond) (u : Addr) (kO : ClassId) (y0 : Addr) (y1 : Addr) (y2 : Addr) (y3 : Addr) (h0 : Heap) (n0 : Nat) (O0 : Old Z n0 h0) (V_u : Arv Z h0 u kO (.object "java/lang/Object") (4 : Int32) [(.ref y0), (.ref y1), (.ref y2), (.ref y3)] .null) (OV : Ovr Z kO "java/lang/Object") (FC : Z.vm.findClass "[Ljava/lang/Object;" = some kO) (I_y0 : Ins Z h0 y0 "java/lang/Object" true) (I_y1 : Ins Z h0 y1 "java/lang/Object" true) (I_y2 : Ins Z h0 y2 "java/lang/Object" true) (I_y3 : Ins Z h0 y3 "java/lang/Object" true) :
    own_MF l own_m31 (Jvm.Cond.code own_m31 jdk_56_method_4_code 3 (some (.object "java/util/List")) :: ws) ({ frames := 5, cells := 2, slots := 6, locals := 63 } : Room) #[(.ref u)] Z h0 (Q_lfa_4 Z u kO y0 y1 y2 y3 h0 n0) := by
  refine own_met (own := "java/util/ImmutableCollections") (nme := "listFromArray") rfl rfl (plainFor_of_name pn_13) ?_
  intro p e s m below meth c s₁ hx hby hml hown hnm X0 e0 hret hlk hZ
  have N0 := Fr.nil n0
  rw [ef_lfa_4 m u]
  refine own_st (T' := s₁) (g' := (mkF m 1 #[rv u, .unset, .unset] [(.ref u)])) (fun _ k_ => XS.aloadN X0.here hx rfl (hb hby d37_0) rfl rfl  k_) ?_
  obtain ⟨cl1, Ar1, -, S1, N1, -, -⟩ := id V_u
  refine own_st (T' := s₁) (g' := (mkF m 2 #[rv u, .unset, .unset] [(.int (4 : Int32))])) (fun t_ k_ => X0.arraylength hx (by rw [e0]; exact Ar1.1) (State.isArrayOf_alike hZ.alike Ar1.2.1) (g := (mkF m 1 #[rv u, .unset, .unset] [(.ref u)])) rfl rfl (hb hby d37_1) _ (by rw [len_of S1 N1]; exact k_)) ?_
  obtain ⟨T2, h2, k2, X2, e2, E2, A2, EX2, O2, st2⟩ := newRE X0 hx hZ hown (wd hw 248 rfl) (wd hw 96 rfl) e0 (g := (mkF m 2 #[rv u, .unset, .unset] [(.int (4 : Int32))])) rfl (hb hby d37_2) rfl (by decide) (cap := 4) (by decide) (by decide) (by decide) (by decide) (ad := "[Ljava/lang/Object;") (by decide)
  obtain rfl : kO = k2 := own_kk EX2 A2 FC
  clear EX2 O2
  obtain ⟨b2, g2⟩ : ∃ z, z = h0.size := ⟨_, rfl⟩
  rw [← g2] at A2 st2
  have fr2 : n0 ≤ b2 := Nat.le_trans (own_z O0) (Nat.le_of_eq g2.symm)
  have sz2 : h0.size ≤ b2 := Nat.le_trans (Keep.refl h0 []).1 (Nat.le_of_eq g2.symm)
  have V2 : Arv Z h2 b2 kO (.object "java/lang/Object") (4 : Int32) [.null, .null, .null, .null] .null := (Arv.new A2 (by decide)).pad (pad_rep [] .null 4)
  refine own_st (T' := T2) (g' := (mkF m 5 #[rv u, .unset, .unset] [(.ref b2)])) st2 ?_
  clear st2
  refine own_st (T' := T2) (g' := (mkF m 6 #[rv u, rv b2, .unset] [])) (fun _ k_ => XS.astoreN X2.here hx rfl (hb hby d37_5) rfl rfl (l' := #[rv u, rv b2, .unset]) rfl k_) ?_
  refine own_st (T' := T2) (g' := (mkF m 7 #[rv u, rv b2, .unset] [(.int (0 : Int32))])) (fun _ k_ => XS.iconst X2.here hx rfl (hb hby d37_6) k_) ?_
  refine own_st (T' := T2) (g' := (mkF m 8 #[rv u, rv b2, iv (0 : Int32)] [])) (fun _ k_ => XS.istoreN X2.here hx rfl (hb hby d37_7) rfl (l' := #[rv u, rv b2, iv (0 : Int32)]) rfl k_) ?_
  refine own_st (T' := T2) (g' := (mkF m 9 #[rv u, rv b2, iv (0 : Int32)] [(.int (0 : Int32))])) (fun _ k_ => XS.iloadN X2.here hx rfl (hb hby d37_8) rfl  k_) ?_
  refine own_st (T' := T2) (g' := (mkF m 10 #[rv u, rv b2, iv (0 : Int32)] [(.ref u), (.int (0 : Int32))])) (fun _ k_ => XS.aloadN X2.here hx rfl (hb hby d37_9) rfl rfl  k_) ?_
  have f4 := V_u.ext E2
  obtain ⟨cl3, Ar3, -, S3, N3, -, -⟩ := id f4
  refine own_st (T' := T2) (g' := (mkF m 11 #[rv u, rv b2, iv (0 : Int32)] [(.int (4 : Int32)), (.int (0 : Int32))])) (fun t_ k_ => X2.arraylength hx (by rw [e2]; exact Ar3.1) (State.isArrayOf_alike hZ.alike Ar3.2.1) (g := (mkF m 10 #[rv u, rv b2, iv (0 : Int32)] [(.ref u), (.int (0 : Int32))])) rfl rfl (hb hby d37_10) _ (by rw [len_of S3 N3]; exact k_)) ?_
  refine own_st (T' := T2) (g' := (mkF m 14 #[rv u, rv b2, iv (0 : Int32)] [])) (fun _ k_ => XS.icmpNo X2.here hx rfl (hb hby d37_11) rfl (tlt (by decide : (0 : Int32) < (4 : Int32))).2.1 k_) ?_
  refine own_st (T' := T2) (g' := (mkF m 15 #[rv u, rv b2, iv (0 : Int32)] [(.ref b2)])) (fun _ k_ => XS.aloadN X2.here hx rfl (hb hby d37_14) rfl rfl  k_) ?_
  refine own_st (T' := T2) (g' := (mkF m 16 #[rv u, rv b2, iv (0 : Int32)] [(.int (0 : Int32)), (.ref b2)])) (fun _ k_ => XS.iloadN X2.here hx rfl (hb hby d37_15) rfl  k_) ?_
  refine own_st (T' := T2) (g' := (mkF m 17 #[rv u, rv b2, iv (0 : Int32)] [(.ref u), (.int (0 : Int32)), (.ref b2)])) (fun _ k_ => XS.aloadN X2.here hx rfl (hb hby d37_16) rfl rfl  k_) ?_
  refine own_st (T' := T2) (g' := (mkF m 18 #[rv u, rv b2, iv (0 : Int32)] [(.int (0 : Int32)), (.ref u), (.int (0 : Int32)), (.ref b2)])) (fun _ k_ => XS.iloadN X2.here hx rfl (hb hby d37_17) rfl  k_) ?_
  obtain ⟨cl5, Ar5, q5, S5, N5, H5, G5⟩ := id f4
  have hin5 : ¬ ((0 : Int32) < 0 ∨ cl5.slots.size ≤ ((0 : Int32)).toNatClampNeg) := inb_of S5 ⟨by decide, by decide⟩
  refine own_st (T' := T2) (g' := (mkF m 19 #[rv u, rv b2, iv (0 : Int32)] [(.ref y0), (.int (0 : Int32)), (.ref b2)])) (X2.aaload hx (j := (0 : Int32)) (v := (.ref y0)) (by rw [e2]; exact Ar5.1) (State.isArrayOf_alike hZ.alike Ar5.2.1) rfl Ar5.2.2 hin5 (H5.at hin5 rfl) (g := (mkF m 18 #[rv u, rv b2, iv (0 : Int32)] [(.int (0 : Int32)), (.ref u), (.int (0 : Int32)), (.ref b2)])) rfl rfl (hb hby d37_18)) ?_
  clear hin5 G5 H5 N5 S5 q5 Ar5 cl5
  have f6 := O0.ext E2
  obtain ⟨_, T7, L7, X7, hQ7, st7⟩ := own_callS X2 hx (y := own_m17) hown (mvT hZ (wd hw 249 rfl)) (mvT hZ (wd hw 199 rfl)) (mvT hZ (wd hw 200 rfl)) (mvT hZ (wd hw 201 rfl)) (by decide) (backOf (W := 2) (rm_rnn l Z a0 hw [] y0 h2 n0 f6) hZ (wd hw 201 rfl) (wd hw 200 rfl) (by decide) (by decide)) (g := (mkF m 19 #[rv u, rv b2, iv (0 : Int32)] [(.ref y0), (.int (0 : Int32)), (.ref b2)])) rfl (by rw [hml]; rfl) (argsL := [(.ref y0)]) (rest := [(.int (0 : Int32)), (.ref b2)]) (lenOf pd__Ljava_lang_Object__Ljava_lang_Object_ rfl) rfl (by show 2 * 0 + _ ≤ _; exact Nat.le_of_eq rfl) (hb hby d37_19) rfl e2 (by decide) (by decide) (c' := 1) (s' := 4) rfl rfl
  obtain ⟨rfl, Nq7, eq7⟩ := hQ7
  have N7 := Fr.app N0 Nq7
  refine own_st (T' := T7) (g' := (mkF m 22 #[rv u, rv b2, iv (0 : Int32)] [(.ref y0), (.int (0 : Int32)), (.ref b2)])) st7 ?_
  clear st7
  obtain ⟨cl8, Ar8, q8, S8, N8, H8, G8⟩ := id V2
  have hin8 : ¬ ((0 : Int32) < 0 ∨ cl8.slots.size ≤ ((0 : Int32)).toNatClampNeg) := inb_of S8 ⟨by decide, by decide⟩
  have f9 := Ins.ext E2 I_y0
  obtain ⟨T10, h10, X10, e10, W10, st10⟩ := stR X7 hx hZ eq7 Ar8 (j := (0 : Int32)) hin8 rfl (Sto.of Ar8 (q8 ▸ OV) f9) (g := (mkF m 22 #[rv u, rv b2, iv (0 : Int32)] [(.ref y0), (.int (0 : Int32)), (.ref b2)])) rfl rfl (hb hby d37_22)
  have V10 : Arv Z h10 b2 kO (.object "java/lang/Object") (4 : Int32) [(.ref y0), .null, .null, .null] .null := Arv.set Ar8 q8 S8 N8 H8 G8 rfl W10 0 rfl (Nat.le_of_ble_eq_true rfl)
  have Nx10 := Fr.snoc X10 N7 fr2
  refine own_st (T' := T10) (g' := (mkF m 23 #[rv u, rv b2, iv (0 : Int32)] [])) st10 ?_
  clear hin8 G8 H8 N8 S8 q8 Ar8 cl8 st10
  refine own_st (T' := T10) (g' := (mkF m 26 #[rv u, rv b2, iv (1 : Int32)] [])) (fun _ k_ => XS.iinc X10.here hx rfl (hb hby d37_23) rfl (l' := #[rv u, rv b2, iv (1 : Int32)]) rfl k_) ?_
  refine own_st (T' := T10) (g' := (mkF m 8 #[rv u, rv b2, iv (1 : Int32)] [])) (fun _ k_ => XS.goto X10.here hx rfl (pc0 := 26) (pc' := 8) rfl (hb hby d37_26) (by decide) (by decide) k_) ?_
  refine own_st (T' := T10) (g' := (mkF m 9 #[rv u, rv b2, iv (1 : Int32)] [(.int (1 : Int32))])) (fun _ k_ => XS.iloadN X10.here hx rfl (hb hby d37_8) rfl  k_) ?_
  refine own_st (T' := T10) (g' := (mkF m 10 #[rv u, rv b2, iv (1 : Int32)] [(.ref u), (.int (1 : Int32))])) (fun _ k_ => XS.aloadN X10.here hx rfl (hb hby d37_9) rfl rfl  k_) ?_
  have ne12 : u ≠ b2 := Nat.ne_of_lt (Nat.lt_of_lt_of_le V_u.lt (Nat.le_of_eq g2.symm))
  have f13 := f4.other W10 ne12
  obtain ⟨cl11, Ar11, -, S11, N11, -, -⟩ := id f13
  refine own_st (T' := T10) (g' := (mkF m 11 #[rv u, rv b2, iv (1 : Int32)] [(.int (4 : Int32)), (.int (1 : Int32))])) (fun t_ k_ => X10.arraylength hx (by rw [e10]; exact Ar11.1) (State.isArrayOf_alike hZ.alike Ar11.2.1) (g := (mkF m 10 #[rv u, rv b2, iv (1 : Int32)] [(.ref u), (.int (1 : Int32))])) rfl rfl (hb hby d37_10) _ (by rw [len_of S11 N11]; exact k_)) ?_
  refine own_st (T' := T10) (g' := (mkF m 14 #[rv u, rv b2, iv (1 : Int32)] [])) (fun _ k_ => XS.icmpNo X10.here hx rfl (hb hby d37_11) rfl (tlt (by decide : (1 : Int32) < (4 : Int32))).2.1 k_) ?_
  refine own_st (T' := T10) (g' := (mkF m 15 #[rv u, rv b2, iv (1 : Int32)] [(.ref b2)])) (fun _ k_ => XS.aloadN X10.here hx rfl (hb hby d37_14) rfl rfl  k_) ?_
  refine own_st (T' := T10) (g' := (mkF m 16 #[rv u, rv b2, iv (1 : Int32)] [(.int (1 : Int32)), (.ref b2)])) (fun _ k_ => XS.iloadN X10.here hx rfl (hb hby d37_15) rfl  k_) ?_
  refine own_st (T' := T10) (g' := (mkF m 17 #[rv u, rv b2, iv (1 : Int32)] [(.ref u), (.int (1 : Int32)), (.ref b2)])) (fun _ k_ => XS.aloadN X10.here hx rfl (hb hby d37_16) rfl rfl  k_) ?_
  refine own_st (T' := T10) (g' := (mkF m 18 #[rv u, rv b2, iv (1 : Int32)] [(.int (1 : Int32)), (.ref u), (.int (1 : Int32)), (.ref b2)])) (fun _ k_ => XS.iloadN X10.here hx rfl (hb hby d37_17) rfl  k_) ?_
  obtain ⟨cl14, Ar14, q14, S14, N14, H14, G14⟩ := id f13
  have hin14 : ¬ ((1 : Int32) < 0 ∨ cl14.slots.size ≤ ((1 : Int32)).toNatClampNeg) := inb_of S14 ⟨by decide, by decide⟩
  refine own_st (T' := T10) (g' := (mkF m 19 #[rv u, rv b2, iv (1 : Int32)] [(.ref y1), (.int (1 : Int32)), (.ref b2)])) (X10.aaload hx (j := (1 : Int32)) (v := (.ref y1)) (by rw [e10]; exact Ar14.1) (State.isArrayOf_alike hZ.alike Ar14.2.1) rfl Ar14.2.2 hin14 (H14.at hin14 rfl) (g := (mkF m 18 #[rv u, rv b2, iv (1 : Int32)] [(.int (1 : Int32)), (.ref u), (.int (1 : Int32)), (.ref b2)])) rfl rfl (hb hby d37_18)) ?_
  clear hin14 G14 H14 N14 S14 q14 Ar14 cl14
  have f15 := f6.wr W10 fr2
  obtain ⟨_, T16, L16, X16, hQ16, st16⟩ := own_callS X10 hx (y := own_m17) hown (mvT hZ (wd hw 249 rfl)) (mvT hZ (wd hw 199 rfl)) (mvT hZ (wd hw 200 rfl)) (mvT hZ (wd hw 201 rfl)) (by decide) (backOf (W := 2) (rm_rnn l Z a0 hw [] y1 h10 n0 f15) hZ (wd hw 201 rfl) (wd hw 200 rfl) (by decide) (by decide)) (g := (mkF m 19 #[rv u, rv b2, iv (1 : Int32)] [(.ref y1), (.int (1 : Int32)), (.ref b2)])) rfl (by rw [hml]; rfl) (argsL := [(.ref y1)]) (rest := [(.int (1 : Int32)), (.ref b2)]) (lenOf pd__Ljava_lang_Object__Ljava_lang_Object_ rfl) rfl (by show 2 * 0 + _ ≤ _; exact Nat.le_of_eq rfl) (hb hby d37_19) rfl e10 (by decide) (by decide) (c' := 1) (s' := 4) rfl rfl
  obtain ⟨rfl, Nq16, eq16⟩ := hQ16
  have N16 := Fr.app Nx10 Nq16
  refine own_st (T' := T16) (g' := (mkF m 22 #[rv u, rv b2, iv (1 : Int32)] [(.ref y1), (.int (1 : Int32)), (.ref b2)])) st16 ?_
  clear st16
  obtain ⟨cl17, Ar17, q17, S17, N17, H17, G17⟩ := id V10
  have hin17 : ¬ ((1 : Int32) < 0 ∨ cl17.slots.size ≤ ((1 : Int32)).toNatClampNeg) := inb_of S17 ⟨by decide, by decide⟩
  have f18 := Ins.ext E2 I_y1
  have f19 := Ins.wr W10 f18
  obtain ⟨T20, h20, X20, e20, W20, st20⟩ := stR X16 hx hZ eq16 Ar17 (j := (1 : Int32)) hin17 rfl (Sto.of Ar17 (q17 ▸ OV) f19) (g := (mkF m 22 #[rv u, rv b2, iv (1 : Int32)] [(.ref y1), (.int (1 : Int32)), (.ref b2)])) rfl rfl (hb hby d37_22)
  have V20 : Arv Z h20 b2 kO (.object "java/lang/Object") (4 : Int32) [(.ref y0), (.ref y1), .null, .null] .null := Arv.set Ar17 q17 S17 N17 H17 G17 rfl W20 1 rfl (Nat.le_of_ble_eq_true rfl)
  have Nx20 := Fr.snoc X20 N16 fr2
  refine own_st (T' := T20) (g' := (mkF m 23 #[rv u, rv b2, iv (1 : Int32)] [])) st20 ?_
  clear hin17 G17 H17 N17 S17 q17 Ar17 cl17 st20
  refine own_st (T' := T20) (g' := (mkF m 26 #[rv u, rv b2, iv (2 : Int32)] [])) (fun _ k_ => XS.iinc X20.here hx rfl (hb hby d37_23) rfl (l' := #[rv u, rv b2, iv (2 : Int32)]) rfl k_) ?_
  refine own_st (T' := T20) (g' := (mkF m 8 #[rv u, rv b2, iv (2 : Int32)] [])) (fun _ k_ => XS.goto X20.here hx rfl (pc0 := 26) (pc' := 8) rfl (hb hby d37_26) (by decide) (by decide) k_) ?_
  refine own_st (T' := T20) (g' := (mkF m 9 #[rv u, rv b2, iv (2 : Int32)] [(.int (2 : Int32))])) (fun _ k_ => XS.iloadN X20.here hx rfl (hb hby d37_8) rfl  k_) ?_
  refine own_st (T' := T20) (g' := (mkF m 10 #[rv u, rv b2, iv (2 : Int32)] [(.ref u), (.int (2 : Int32))])) (fun _ k_ => XS.aloadN X20.here hx rfl (hb hby d37_9) rfl rfl  k_) ?_
  have f22 := f13.other W20 ne12
  obtain ⟨cl21, Ar21, -, S21, N21, -, -⟩ := id f22
  refine own_st (T' := T20) (g' := (mkF m 11 #[rv u, rv b2, iv (2 : Int32)] [(.int (4 : Int32)), (.int (2 : Int32))])) (fun t_ k_ => X20.arraylength hx (by rw [e20]; exact Ar21.1) (State.isArrayOf_alike hZ.alike Ar21.2.1) (g := (mkF m 10 #[rv u, rv b2, iv (2 : Int32)] [(.ref u), (.int (2 : Int32))])) rfl rfl (hb hby d37_10) _ (by rw [len_of S21 N21]; exact k_)) ?_
  refine own_st (T' := T20) (g' := (mkF m 14 #[rv u, rv b2, iv (2 : Int32)] [])) (fun _ k_ => XS.icmpNo X20.here hx rfl (hb hby d37_11) rfl (tlt (by decide : (2 : Int32) < (4 : Int32))).2.1 k_) ?_
  refine own_st (T' := T20) (g' := (mkF m 15 #[rv u, rv b2, iv (2 : Int32)] [(.ref b2)])) (fun _ k_ => XS.aloadN X20.here hx rfl (hb hby d37_14) rfl rfl  k_) ?_
  refine own_st (T' := T20) (g' := (mkF m 16 #[rv u, rv b2, iv (2 : Int32)] [(.int (2 : Int32)), (.ref b2)])) (fun _ k_ => XS.iloadN X20.here hx rfl (hb hby d37_15) rfl  k_) ?_
  refine own_st (T' := T20) (g' := (mkF m 17 #[rv u, rv b2, iv (2 : Int32)] [(.ref u), (.int (2 : Int32)), (.ref b2)])) (fun _ k_ => XS.aloadN X20.here hx rfl (hb hby d37_16) rfl rfl  k_) ?_
  refine own_st (T' := T20) (g' := (mkF m 18 #[rv u, rv b2, iv (2 : Int32)] [(.int (2 : Int32)), (.ref u), (.int (2 : Int32)), (.ref b2)])) (fun _ k_ => XS.iloadN X20.here hx rfl (hb hby d37_17) rfl  k_) ?_
  obtain ⟨cl23, Ar23, q23, S23, N23, H23, G23⟩ := id f22
  have hin23 : ¬ ((2 : Int32) < 0 ∨ cl23.slots.size ≤ ((2 : Int32)).toNatClampNeg) := inb_of S23 ⟨by decide, by decide⟩
  refine own_st (T' := T20) (g' := (mkF m 19 #[rv u, rv b2, iv (2 : Int32)] [(.ref y2), (.int (2 : Int32)), (.ref b2)])) (X20.aaload hx (j := (2 : Int32)) (v := (.ref y2)) (by rw [e20]; exact Ar23.1) (State.isArrayOf_alike hZ.alike Ar23.2.1) rfl Ar23.2.2 hin23 (H23.at hin23 rfl) (g := (mkF m 18 #[rv u, rv b2, iv (2 : Int32)] [(.int (2 : Int32)), (.ref u), (.int (2 : Int32)), (.ref b2)])) rfl rfl (hb hby d37_18)) ?_
  clear hin23 G23 H23 N23 S23 q23 Ar23 cl23
  have f24 := f15.wr W20 fr2
  obtain ⟨_, T25, L25, X25, hQ25, st25⟩ := own_callS X20 hx (y := own_m17) hown (mvT hZ (wd hw 249 rfl)) (mvT hZ (wd hw 199 rfl)) (mvT hZ (wd hw 200 rfl)) (mvT hZ (wd hw 201 rfl)) (by decide) (backOf (W := 2) (rm_rnn l Z a0 hw [] y2 h20 n0 f24) hZ (wd hw 201 rfl) (wd hw 200 rfl) (by decide) (by decide)) (g := (mkF m 19 #[rv u, rv b2, iv (2 : Int32)] [(.ref y2), (.int (2 : Int32)), (.ref b2)])) rfl (by rw [hml]; rfl) (argsL := [(.ref y2)]) (rest := [(.int (2 : Int32)), (.ref b2)]) (lenOf pd__Ljava_lang_Object__Ljava_lang_Object_ rfl) rfl (by show 2 * 0 + _ ≤ _; exact Nat.le_of_eq rfl) (hb hby d37_19) rfl e20 (by decide) (by decide) (c' := 1) (s' := 4) rfl rfl
  obtain ⟨rfl, Nq25, eq25⟩ := hQ25
  have N25 := Fr.app Nx20 Nq25
  refine own_st (T' := T25) (g' := (mkF m 22 #[rv u, rv b2, iv (2 : Int32)] [(.ref y2), (.int (2 : Int32)), (.ref b2)])) st25 ?_
  clear st25
  obtain ⟨cl26, Ar26, q26, S26, N26, H26, G26⟩ := id V20
  have hin26 : ¬ ((2 : Int32) < 0 ∨ cl26.slots.size ≤ ((2 : Int32)).toNatClampNeg) := inb_of S26 ⟨by decide, by decide⟩
  have f27 := Ins.ext E2 I_y2
  have f28 := Ins.wr W10 f27
  have f29 := Ins.wr W20 f28
  obtain ⟨T30, h30, X30, e30, W30, st30⟩ := stR X25 hx hZ eq25 Ar26 (j := (2 : Int32)) hin26 rfl (Sto.of Ar26 (q26 ▸ OV) f29) (g := (mkF m 22 #[rv u, rv b2, iv (2 : Int32)] [(.ref y2), (.int (2 : Int32)), (.ref b2)])) rfl rfl (hb hby d37_22)
  have V30 : Arv Z h30 b2 kO (.object "java/lang/Object") (4 : Int32) [(.ref y0), (.ref y1), (.ref y2), .null] .null := Arv.set Ar26 q26 S26 N26 H26 G26 rfl W30 2 rfl (Nat.le_of_ble_eq_true rfl)
  have Nx30 := Fr.snoc X30 N25 fr2
  refine own_st (T' := T30) (g' := (mkF m 23 #[rv u, rv b2, iv (2 : Int32)] [])) st30 ?_
  clear hin26 G26 H26 N26 S26 q26 Ar26 cl26 st30
  refine own_st (T' := T30) (g' := (mkF m 26 #[rv u, rv b2, iv (3 : Int32)] [])) (fun _ k_ => XS.iinc X30.here hx rfl (hb hby d37_23) rfl (l' := #[rv u, rv b2, iv (3 : Int32)]) rfl k_) ?_
  refine own_st (T' := T30) (g' := (mkF m 8 #[rv u, rv b2, iv (3 : Int32)] [])) (fun _ k_ => XS.goto X30.here hx rfl (pc0 := 26) (pc' := 8) rfl (hb hby d37_26) (by decide) (by decide) k_) ?_
  refine own_st (T' := T30) (g' := (mkF m 9 #[rv u, rv b2, iv (3 : Int32)] [(.int (3 : Int32))])) (fun _ k_ => XS.iloadN X30.here hx rfl (hb hby d37_8) rfl  k_) ?_
  refine own_st (T' := T30) (g' := (mkF m 10 #[rv u, rv b2, iv (3 : Int32)] [(.ref u), (.int (3 : Int32))])) (fun _ k_ => XS.aloadN X30.here hx rfl (hb hby d37_9) rfl rfl  k_) ?_
  have f32 := f22.other W30 ne12
  obtain ⟨cl31, Ar31, -, S31, N31, -, -⟩ := id f32
  refine own_st (T' := T30) (g' := (mkF m 11 #[rv u, rv b2, iv (3 : Int32)] [(.int (4 : Int32)), (.int (3 : Int32))])) (fun t_ k_ => X30.arraylength hx (by rw [e30]; exact Ar31.1) (State.isArrayOf_alike hZ.alike Ar31.2.1) (g := (mkF m 10 #[rv u, rv b2, iv (3 : Int32)] [(.ref u), (.int (3 : Int32))])) rfl rfl (hb hby d37_10) _ (by rw [len_of S31 N31]; exact k_)) ?_
  refine own_st (T' := T30) (g' := (mkF m 14 #[rv u, rv b2, iv (3 : Int32)] [])) (fun _ k_ => XS.icmpNo X30.here hx rfl (hb hby d37_11) rfl (tlt (by decide : (3 : Int32) < (4 : Int32))).2.1 k_) ?_
  refine own_st (T' := T30) (g' := (mkF m 15 #[rv u, rv b2, iv (3 : Int32)] [(.ref b2)])) (fun _ k_ => XS.aloadN X30.here hx rfl (hb hby d37_14) rfl rfl  k_) ?_
  refine own_st (T' := T30) (g' := (mkF m 16 #[rv u, rv b2, iv (3 : Int32)] [(.int (3 : Int32)), (.ref b2)])) (fun _ k_ => XS.iloadN X30.here hx rfl (hb hby d37_15) rfl  k_) ?_
  refine own_st (T' := T30) (g' := (mkF m 17 #[rv u, rv b2, iv (3 : Int32)] [(.ref u), (.int (3 : Int32)), (.ref b2)])) (fun _ k_ => XS.aloadN X30.here hx rfl (hb hby d37_16) rfl rfl  k_) ?_
  refine own_st (T' := T30) (g' := (mkF m 18 #[rv u, rv b2, iv (3 : Int32)] [(.int (3 : Int32)), (.ref u), (.int (3 : Int32)), (.ref b2)])) (fun _ k_ => XS.iloadN X30.here hx rfl (hb hby d37_17) rfl  k_) ?_
  obtain ⟨cl33, Ar33, q33, S33, N33, H33, G33⟩ := id f32
  have hin33 : ¬ ((3 : Int32) < 0 ∨ cl33.slots.size ≤ ((3 : Int32)).toNatClampNeg) := inb_of S33 ⟨by decide, by decide⟩
  refine own_st (T' := T30) (g' := (mkF m 19 #[rv u, rv b2, iv (3 : Int32)] [(.ref y3), (.int (3 : Int32)), (.ref b2)])) (X30.aaload hx (j := (3 : Int32)) (v := (.ref y3)) (by rw [e30]; exact Ar33.1) (State.isArrayOf_alike hZ.alike Ar33.2.1) rfl Ar33.2.2 hin33 (H33.at hin33 rfl) (g := (mkF m 18 #[rv u, rv b2, iv (3 : Int32)] [(.int (3 : Int32)), (.ref u), (.int (3 : Int32)), (.ref b2)])) rfl rfl (hb hby d37_18)) ?_
  clear hin33 G33 H33 N33 S33 q33 Ar33 cl33
  have f34 := f24.wr W30 fr2
  obtain ⟨_, T35, L35, X35, hQ35, st35⟩ := own_callS X30 hx (y := own_m17) hown (mvT hZ (wd hw 249 rfl)) (mvT hZ (wd hw 199 rfl)) (mvT hZ (wd hw 200 rfl)) (mvT hZ (wd hw 201 rfl)) (by decide) (backOf (W := 2) (rm_rnn l Z a0 hw [] y3 h30 n0 f34) hZ (wd hw 201 rfl) (wd hw 200 rfl) (by decide) (by decide)) (g := (mkF m 19 #[rv u, rv b2, iv (3 : Int32)] [(.ref y3), (.int (3 : Int32)), (.ref b2)])) rfl (by rw [hml]; rfl) (argsL := [(.ref y3)]) (rest := [(.int (3 : Int32)), (.ref b2)]) (lenOf pd__Ljava_lang_Object__Ljava_lang_Object_ rfl) rfl (by show 2 * 0 + _ ≤ _; exact Nat.le_of_eq rfl) (hb hby d37_19) rfl e30 (by decide) (by decide) (c' := 1) (s' := 4) rfl rfl
  obtain ⟨rfl, Nq35, eq35⟩ := hQ35
  have N35 := Fr.app Nx30 Nq35
  refine own_st (T' := T35) (g' := (mkF m 22 #[rv u, rv b2, iv (3 : Int32)] [(.ref y3), (.int (3 : Int32)), (.ref b2)])) st35 ?_
  clear st35
  obtain ⟨cl36, Ar36, q36, S36, N36, H36, G36⟩ := id V30
  have hin36 : ¬ ((3 : Int32) < 0 ∨ cl36.slots.size ≤ ((3 : Int32)).toNatClampNeg) := inb_of S36 ⟨by decide, by decide⟩
  have f37 := Ins.ext E2 I_y3
  have f38 := Ins.wr W10 f37
  have f39 := Ins.wr W20 f38
  have f40 := Ins.wr W30 f39
  obtain ⟨T41, h41, X41, e41, W41, st41⟩ := stR X35 hx hZ eq35 Ar36 (j := (3 : Int32)) hin36 rfl (Sto.of Ar36 (q36 ▸ OV) f40) (g := (mkF m 22 #[rv u, rv b2, iv (3 : Int32)] [(.ref y3), (.int (3 : Int32)), (.ref b2)])) rfl rfl (hb hby d37_22)
  have V41 : Arv Z h41 b2 kO (.object "java/lang/Object") (4 : Int32) [(.ref y0), (.ref y1), (.ref y2), (.ref y3)] .null := Arv.set Ar36 q36 S36 N36 H36 G36 rfl W41 3 rfl (Nat.le_of_ble_eq_true rfl)
  have Nx41 := Fr.snoc X41 N35 fr2
  refine own_st (T' := T41) (g' := (mkF m 23 #[rv u, rv b2, iv (3 : Int32)] [])) st41 ?_
  clear hin36 G36 H36 N36 S36 q36 Ar36 cl36 st41
  refine own_st (T' := T41) (g' := (mkF m 26 #[rv u, rv b2, iv (4 : Int32)] [])) (fun _ k_ => XS.iinc X41.here hx rfl (hb hby d37_23) rfl (l' := #[rv u, rv b2, iv (4 : Int32)]) rfl k_) ?_
  refine own_st (T' := T41) (g' := (mkF m 8 #[rv u, rv b2, iv (4 : Int32)] [])) (fun _ k_ => XS.goto X41.here hx rfl (pc0 := 26) (pc' := 8) rfl (hb hby d37_26) (by decide) (by decide) k_) ?_
  refine own_st (T' := T41) (g' := (mkF m 9 #[rv u, rv b2, iv (4 : Int32)] [(.int (4 : Int32))])) (fun _ k_ => XS.iloadN X41.here hx rfl (hb hby d37_8) rfl  k_) ?_
  refine own_st (T' := T41) (g' := (mkF m 10 #[rv u, rv b2, iv (4 : Int32)] [(.ref u), (.int (4 : Int32))])) (fun _ k_ => XS.aloadN X41.here hx rfl (hb hby d37_9) rfl rfl  k_) ?_
  have f43 := f32.other W41 ne12
  obtain ⟨cl42, Ar42, -, S42, N42, -, -⟩ := id f43
  refine own_st (T' := T41) (g' := (mkF m 11 #[rv u, rv b2, iv (4 : Int32)] [(.int (4 : Int32)), (.int (4 : Int32))])) (fun t_ k_ => X41.arraylength hx (by rw [e41]; exact Ar42.1) (State.isArrayOf_alike hZ.alike Ar42.2.1) (g := (mkF m 10 #[rv u, rv b2, iv (4 : Int32)] [(.ref u), (.int (4 : Int32))])) rfl rfl (hb hby d37_10) _ (by rw [len_of S42 N42]; exact k_)) ?_
  refine own_st (T' := T41) (g' := (mkF m 29 #[rv u, rv b2, iv (4 : Int32)] [])) (fun _ k_ => XS.icmpYes X41.here hx rfl (pc0 := 11) (pc' := 29) rfl (hb hby d37_11) rfl (flt (by decide : ¬ ((4 : Int32) < (4 : Int32)))).2.1 (by decide) (by decide) k_) ?_
  have f44 := f34.wr W41 fr2
  have f45 := (Keep.refl h0 []).ext E2
  have f46 := f45.wr W10 (Or.inr sz2)
  have f47 := f46.wr W20 (Or.inr sz2)
  have f48 := f47.wr W30 (Or.inr sz2)
  have f49 := f48.wr W41 (Or.inr sz2)
  obtain ⟨T50, h50, X50, e50, E50, A50, D50, -, st50⟩ := newO X41 hx hZ hown (wd hw 134 rfl) (wd hw 250 rfl) (wd hw 251 rfl) e41 (g := (mkF m 29 #[rv u, rv b2, iv (4 : Int32)] [])) rfl (hb hby d37_29) (by decide) (by decide)
  obtain ⟨b50, g50⟩ : ∃ z, z = h41.size := ⟨_, rfl⟩
  rw [← g50] at A50 D50 st50
  have fr50 : n0 ≤ b50 := Nat.le_trans (own_z f44) (Nat.le_of_eq g50.symm)
  have sz50 : h0.size ≤ b50 := Nat.le_trans f49.1 (Nat.le_of_eq g50.symm)
  have F50_elements : Fld Z h50 b50 "java/util/ImmutableCollections$ListN" "elements" "[Ljava/lang/Object;" .null := D50 (Or.inr (wd hw 261 rfl)) (ty := (.array (.object "java/lang/Object"))) (by decide)
  have F50_allowNulls : Fld Z h50 b50 "java/util/ImmutableCollections$ListN" "allowNulls" "Z" (.int (0 : Int32)) := D50 (Or.inr (wd hw 263 rfl)) (ty := .boolean) (by decide)
  refine own_st (T' := T50) (g' := (mkF m 32 #[rv u, rv b2, iv (4 : Int32)] [(.ref b50)])) st50 ?_
  clear st50
  refine own_st (T' := T50) (g' := (mkF m 33 #[rv u, rv b2, iv (4 : Int32)] [(.ref b50), (.ref b50)])) (fun _ k_ => XS.dup X50.here hx rfl (hb hby d37_32) rfl rfl k_) ?_
  refine own_st (T' := T50) (g' := (mkF m 34 #[rv u, rv b2, iv (4 : Int32)] [(.ref b2), (.ref b50), (.ref b50)])) (fun _ k_ => XS.aloadN X50.here hx rfl (hb hby d37_33) rfl rfl  k_) ?_
  refine own_st (T' := T50) (g' := (mkF m 35 #[rv u, rv b2, iv (4 : Int32)] [(.int (0 : Int32)), (.ref b2), (.ref b50), (.ref b50)])) (fun _ k_ => XS.iconst X50.here hx rfl (hb hby d37_34) k_) ?_
  have f51 := f44.ext E50
  obtain ⟨_, T52, L52, X52, hQ52, st52⟩ := own_callIN X50 hx (y := own_m22) rfl hown (Cond.methodLinkNest_wide hZ (wd hw 252 rfl)) (mvT hZ (wd hw 253 rfl)) (mvT hZ (wd hw 255 rfl)) (by decide) (backOf (W := 1) (rm_lni l Z a0 hw [] b50 b2 h50 n0 f51 A50 F50_elements F50_allowNulls fr50) hZ (wd hw 255 rfl) (wd hw 251 rfl) (by decide) (by decide)) (g := (mkF m 35 #[rv u, rv b2, iv (4 : Int32)] [(.int (0 : Int32)), (.ref b2), (.ref b50), (.ref b50)])) rfl (by rw [hml]; rfl) (a := b50) (argsL := [(.ref b2), (.int (0 : Int32))]) (rest := [(.ref b50)]) (lenOf pd___Ljava_lang_Object_Z_V rfl) rfl (by show 2 * 0 + _ ≤ _; exact Nat.le_of_eq rfl) (hb hby d37_35) rfl e50 (by decide) (by decide) (c' := 2) (s' := 6) rfl rfl
  obtain ⟨rfl, Nq52, K52, fq52_0, fq52_1, fq52_2⟩ := hQ52
  have N52 := Fr.app Nx41 Nq52
  refine own_st (T' := T52) (g' := (mkF m 38 #[rv u, rv b2, iv (4 : Int32)] [(.ref b50)])) st52 ?_
  clear st52
  have f53 := f49.ext E50
  have f54 := f53.trans K52 (allS (Or.inr sz50) all0)
  have f55 := V41.ext E50
  have ne56 : b2 ≠ b50 := Nat.ne_of_lt (Nat.lt_of_lt_of_le (Nat.lt_of_lt_of_le (Nat.lt_of_lt_of_le (Nat.lt_of_lt_of_le (Nat.lt_of_lt_of_le V2.lt (Nat.le_of_eq (Wr.size W10).symm)) (Nat.le_of_eq (Wr.size W20).symm)) (Nat.le_of_eq (Wr.size W30).symm)) (Nat.le_of_eq (Wr.size W41).symm)) (Nat.le_of_eq g50.symm))
  have f57 := f55.keep K52 (ninS ne56 nin0)
  exact own_retA X52 hx hret rfl rfl hlk (hb hby d37_38) (by decide) (by decide) ⟨b50, b2, rfl, N52, f54, fq52_0, fq52_1, fq52_2, f57, sz50, sz2⟩
theorem ef_lof_4 (m : MethodId) (x0 : Addr) : entryFrame m #[(.ref x0)] 2 = mkF m 0 #[rv x0, .unset] [] := by first | (simp [entryFrame, mkF, argsToLocals, Value.category]; done) | rfl
def Q_lof_4 (Z : State) (u : Addr) (kO : ClassId) (y0 : Addr) (y1 : Addr) (y2 : Addr) (y3 : Addr) (h0 : Heap) (n0 : Nat) (v : Option Value) (h : Heap) (L : List Loc) : Prop := ∃ (x : Addr) (uu : Addr), (v = some (.ref x)) ∧ (Fr n0 L) ∧ (Keep h0 h []) ∧ (Exa Z h x "java/util/ImmutableCollections$ListN") ∧ (Fld Z h x "java/util/ImmutableCollections$ListN" "elements" "[Ljava/lang/Object;" (.ref uu)) ∧ (Fld Z h x "java/util/ImmutableCollections$ListN" "allowNulls" "Z" (.int (0 : Int32))) ∧ (Arv Z h uu kO (.object "java/lang/Object") (4 : Int32) [(.ref y0), (.ref y1), (.ref y2), (.ref y3)] .null) ∧ (h0.size ≤ x) ∧ (h0.size ≤ uu)
set_option maxRecDepth 65536 in
set_option maxHeartbeats 40000000 in
theorem rm_lof_4 (l : Launch) (Z : State) (a0 : Array Value) (hw : ∀ d ∈ tables_1, d.before a0 Z = true) (ws : List Jvm.Cond) (u : Addr) (kO : ClassId) (y0 : Addr) (y1 : Addr) (y2 : Addr) (y3 : Addr) (h0 : Heap) (n0 : Nat) (O0 : Old Z n0 h0) (V_u : Arv Z h0 u kO (.object "java/lang/Object") (4 : Int32) [(.ref y0), (.ref y1), (.ref y2), (.ref y3)] .null) (OV : Ovr Z kO "java/lang/Object") (FC : Z.vm.findClass "[Ljava/lang/Object;" = some kO) (I_y0 : Ins Z h0 y0 "java/lang/Object" true) (I_y1 : Ins Z h0 y1 "java/lang/Object" true) (I_y2 : Ins Z h0 y2 "java/lang/Object" true) (I_y3 : Ins Z h0 y3 "java/lang/Object" true) :
    own_MF l own_m26 (Jvm.Cond.code own_m26 jdk_40_method_47_code 2 (some (.object "java/util/List")) :: ws) ({ frames := 6, cells := 2, slots := 6, locals := 77 } : Room) #[(.ref u)] Z h0 (Q_lof_4 Z u kO y0 y1 y2 y3 h0 n0) := by
  refine own_met (own := "java/util/List") (nme := "of") rfl rfl (plainFor_of_name pn_12) ?_
  intro p e s m below meth c s₁ hx hby hml hown hnm X0 e0 hret hlk hZ
  have N0 := Fr.nil n0
  rw [ef_lof_4 m u]
  refine own_st (T' := s₁) (g' := (mkF m 1 #[rv u, .unset] [(.ref u)])) (fun _ k_ => XS.aloadN X0.here hx rfl (hb hby d27_0) rfl rfl  k_) ?_
  obtain ⟨cl1, Ar1, -, S1, N1, -, -⟩ := id V_u
  refine own_st (T' := s₁) (g' := (mkF m 2 #[rv u, .unset] [(.int (4 : Int32))])) (fun t_ k_ => X0.arraylength hx (by rw [e0]; exact Ar1.1) (State.isArrayOf_alike hZ.alike Ar1.2.1) (g := (mkF m 1 #[rv u, .unset] [(.ref u)])) rfl rfl (hb hby d27_1) _ (by rw [len_of S1 N1]; exact k_)) ?_
  refine own_st (T' := s₁) (g' := (mkF m 59 #[rv u, .unset] [])) (fun t_ k_ => X0.tableswitchOut hx (g := (mkF m 2 #[rv u, .unset] [(.int (4 : Int32))])) rfl (k := (4 : Int32)) (rest := []) rfl (hb hby d27_2) (by decide) (show (0 : Int) ≤ ((2 : Nat) : Int) + 57 by decide) _ k_) ?_
  refine own_st (T' := s₁) (g' := (mkF m 60 #[rv u, .unset] [(.ref u)])) (fun _ k_ => XS.aloadN X0.here hx rfl (hb hby d27_59) rfl rfl  k_) ?_
  obtain ⟨_, T2, L2, X2, hQ2, st2⟩ := own_callS X0 hx (y := own_m31) hown (mvT hZ (wd hw 245 rfl)) (mvT hZ (wd hw 246 rfl)) (mvT hZ (wd hw 127 rfl)) (mvT hZ (wd hw 247 rfl)) (by decide) (backOf (W := 0) (rm_lfa_4 l Z a0 hw [] u kO y0 y1 y2 y3 h0 n0 O0 V_u OV FC I_y0 I_y1 I_y2 I_y3) hZ (wd hw 247 rfl) (wd hw 127 rfl) (by decide) (by decide)) (g := (mkF m 60 #[rv u, .unset] [(.ref u)])) rfl (by rw [hml]; rfl) (argsL := [(.ref u)]) (rest := []) (lenOf pd___Ljava_lang_Object__Ljava_util_List_ rfl) rfl (by show 2 * 0 + _ ≤ _; exact Nat.le_of_eq rfl) (hb hby d27_60) rfl e0 (by decide) (by decide) (c' := 2) (s' := 6) rfl rfl
  obtain ⟨x2, uu2, rfl, Nq2, K2, fq2_0, fq2_1, fq2_2, fq2_3, xq2_fresh_x, xq2_fresh_uu⟩ := hQ2
  have N2 := Fr.app N0 Nq2
  refine own_st (T' := T2) (g' := (mkF m 63 #[rv u, .unset] [(.ref x2)])) st2 ?_
  clear st2
  have f3 := (Keep.refl h0 []).trans K2 all0
  exact own_retA X2 hx hret rfl rfl hlk (hb hby d27_63) (by decide) (by decide) ⟨x2, uu2, rfl, N2, f3, fq2_0, fq2_1, fq2_2, fq2_3, (Nat.le_trans (Keep.refl h0 []).1 xq2_fresh_x), (Nat.le_trans (Keep.refl h0 []).1 xq2_fresh_uu)⟩
theorem ef_lcp_4 (m : MethodId) (x0 : Addr) : entryFrame m #[(.ref x0)] 2 = mkF m 0 #[rv x0, .unset] [] := by first | (simp [entryFrame, mkF, argsToLocals, Value.category]; done) | rfl
def Q_lcp_4 (Z : State) (a : Addr) (t : Addr) (kO : ClassId) (mir : Addr) (y0 : Addr) (y1 : Addr) (y2 : Addr) (y3 : Addr) (h0 : Heap) (n0 : Nat) (v : Option Value) (h : Heap) (L : List Loc) : Prop := ∃ (x : Addr) (uu : Addr), (v = some (.ref x)) ∧ (Fr n0 L) ∧ (Keep h0 h []) ∧ (Exa Z h x "java/util/ImmutableCollections$ListN") ∧ (Fld Z h x "java/util/ImmutableCollections$ListN" "elements" "[Ljava/lang/Object;" (.ref uu)) ∧ (Fld Z h x "java/util/ImmutableCollections$ListN" "allowNulls" "Z" (.int (0 : Int32))) ∧ (Arv Z h uu kO (.object "java/lang/Object") (4 : Int32) [(.ref y0), (.ref y1), (.ref y2), (.ref y3)] .null) ∧ (h0.size ≤ x) ∧ (h0.size ≤ uu)
set_option maxRecDepth 65536 in
set_option maxHeartbeats 40000000 in
theorem rm_lcp_4 (l : Launch) (Z : State) (a0 : Array Value) (hw : ∀ d ∈ tables_1, d.before a0 Z = true) (ws : List Jvm.Cond) (a : Addr) (t : Addr) (kO : ClassId) (mir : Addr) (y0 : Addr) (y1 : Addr) (y2 : Addr) (y3 : Addr) (h0 : Heap) (n0 : Nat) (O0 : Old Z n0 h0) (E_a : Exa Z h0 a "java/util/ArrayList") (Fe : Fld Z h0 a "java/util/ArrayList" "elementData" "[Ljava/lang/Object;" (.ref t)) (Fz : Fld Z h0 a "java/util/ArrayList" "size" "I" (.int (4 : Int32))) (V_t : Arv Z h0 t kO (.object "java/lang/Object") (10 : Int32) [(.ref y0), (.ref y1), (.ref y2), (.ref y3), .null, .null, .null, .null, .null, .null] .null) (OV : Ovr Z kO "java/lang/Object") (FC : Z.vm.findClass "[Ljava/lang/Object;" = some kO) (MIR : own_Mir Z "[Ljava/lang/Object;" mir) (I_y0 : Ins Z h0 y0 "java/lang/Object" true) (I_y1 : Ins Z h0 y1 "java/lang/Object" true) (I_y2 : Ins Z h0 y2 "java/lang/Object" true) (I_y3 : Ins Z h0 y3 "java/lang/Object" true) :
    own_MF l own_m29 (Jvm.Cond.code own_m29 jdk_56_method_3_code 2 (some (.object "java/util/List")) :: ws) ({ frames := 7, cells := 3, slots := 10, locals := 90 } : Room) #[(.ref a)] Z h0 (Q_lcp_4 Z a t kO mir y0 y1 y2 y3 h0 n0) := by
  refine own_met (own := "java/util/ImmutableCollections") (nme := "listCopy") rfl rfl (plainFor_of_name pn_13) ?_
  intro p e s m below meth c s₁ hx hby hml hown hnm X0 e0 hret hlk hZ
  have N0 := Fr.nil n0
  rw [ef_lcp_4 m a]
  refine own_st (T' := s₁) (g' := (mkF m 1 #[rv a, .unset] [(.ref a)])) (fun _ k_ => XS.aloadN X0.here hx rfl (hb hby d21_0) rfl rfl  k_) ?_
  obtain ⟨T1, X1, e1, st1⟩ := instNo X0 hx hZ hown (wd hw 129 rfl) e0 E_a (own_no0 hw) (g := (mkF m 1 #[rv a, .unset] [(.ref a)])) rfl rfl (hb hby d21_1)
  refine own_st (T' := T1) (g' := (mkF m 4 #[rv a, .unset] [(.int (0 : Int32))])) st1 ?_
  clear st1
  refine own_st (T' := T1) (g' := (mkF m 7 #[rv a, .unset] [])) (fun _ k_ => XS.ifNo X1.here hx rfl (hb hby d21_4) rfl ((if0 _ _).trans (teq (rfl : (0 : Int32) = (0 : Int32))).2) k_) ?_
  refine own_st (T' := T1) (g' := (mkF m 8 #[rv a, .unset] [(.ref a)])) (fun _ k_ => XS.aloadN X1.here hx rfl (hb hby d21_7) rfl rfl  k_) ?_
  obtain ⟨T2, X2, e2, st2⟩ := instNo X1 hx hZ hown (wd hw 134 rfl) e1 E_a (own_no1 hw) (g := (mkF m 8 #[rv a, .unset] [(.ref a)])) rfl rfl (hb hby d21_8)
  refine own_st (T' := T2) (g' := (mkF m 11 #[rv a, .unset] [(.int (0 : Int32))])) st2 ?_
  clear st2
  refine own_st (T' := T2) (g' := (mkF m 31 #[rv a, .unset] [])) (fun _ k_ => XS.ifYes X2.here hx rfl (pc0 := 11) (pc' := 31) rfl (hb hby d21_11) rfl ((if0 _ _).trans (teq (rfl : (0 : Int32) = (0 : Int32))).1) (by decide) (by decide) k_) ?_
  refine own_st (T' := T2) (g' := (mkF m 32 #[rv a, .unset] [(.ref a)])) (fun _ k_ => XS.aloadN X2.here hx rfl (hb hby d21_31) rfl rfl  k_) ?_
  obtain ⟨cq3, kq3, q3a, q3b, q3c⟩ := isOf hZ e2 E_a
  obtain ⟨_, T3, L3, X3, hQ3, st3⟩ := own_callF X2 hx (xi := own_m27) (y := own_m19) hown (mvT hZ (wd hw 135 rfl)) (mvT hZ (wd hw 136 rfl)) (mvT hZ (wd hw 137 rfl)) (mvT hZ (wd hw 138 rfl)) (mvT hZ (wd hw 139 rfl)) (mvT hZ (wd hw 140 rfl)) (mvT hZ (wd hw 141 rfl)) (mvT hZ (wd hw 142 rfl)) (by decide) (backOf (W := 0) (rm_alem l Z a0 hw [] a (4 : Int32) h0 n0 O0 Fz (by decide)) hZ (wd hw 143 rfl) (wd hw 45 rfl) (by decide) (by decide)) q3a q3b q3c (g := (mkF m 32 #[rv a, .unset] [(.ref a)])) rfl (by rw [hml]; rfl) (argsL := []) (rest := []) (lenOf pd___Z rfl) rfl (by show 2 * 0 + _ ≤ _; exact Nat.le_of_eq rfl) (hb hby d21_32) rfl e2 (by decide) (by decide) (c' := 0) (s' := 0) rfl rfl
  clear q3a q3b q3c kq3 cq3
  obtain ⟨rfl, Nq3, eq3⟩ := hQ3
  have N3 := Fr.app N0 Nq3
  refine own_st (T' := T3) (g' := (mkF m 37 #[rv a, .unset] [(.int (0 : Int32))])) st3 ?_
  clear st3
  refine own_st (T' := T3) (g' := (mkF m 44 #[rv a, .unset] [])) (fun _ k_ => XS.ifYes X3.here hx rfl (pc0 := 37) (pc' := 44) rfl (hb hby d21_37) rfl ((if0 _ _).trans (teq (rfl : (0 : Int32) = (0 : Int32))).1) (by decide) (by decide) k_) ?_
  refine own_st (T' := T3) (g' := (mkF m 45 #[rv a, .unset] [(.ref a)])) (fun _ k_ => XS.aloadN X3.here hx rfl (hb hby d21_44) rfl rfl  k_) ?_
  obtain ⟨cq4, kq4, q4a, q4b, q4c⟩ := isOf hZ eq3 E_a
  obtain ⟨_, T4, L4, X4, hQ4, st4⟩ := own_callF X3 hx (xi := own_m28) (y := own_m25) hown (mvT hZ (wd hw 144 rfl)) (mvT hZ (wd hw 145 rfl)) (mvT hZ (wd hw 146 rfl)) (mvT hZ (wd hw 147 rfl)) (mvT hZ (wd hw 148 rfl)) (mvT hZ (wd hw 149 rfl)) (mvT hZ (wd hw 150 rfl)) (mvT hZ (wd hw 142 rfl)) (by decide) (backOf (W := 0) (rm_tar_4 l Z a0 hw [] a t kO mir y0 y1 y2 y3 h0 n0 O0 Fe Fz V_t OV FC MIR I_y0 I_y1 I_y2 I_y3) hZ (wd hw 151 rfl) (wd hw 45 rfl) (by decide) (by decide)) q4a q4b q4c (g := (mkF m 45 #[rv a, .unset] [(.ref a)])) rfl (by rw [hml]; rfl) (argsL := []) (rest := []) (lenOf pd____Ljava_lang_Object_ rfl) rfl (by show 2 * 0 + _ ≤ _; exact Nat.le_of_eq rfl) (hb hby d21_45) rfl eq3 (by decide) (by decide) (c' := 1) (s' := 4) rfl rfl
  clear q4a q4b q4c kq4 cq4
  obtain ⟨u4, rfl, Nq4, K4, fq4_0, xq4_fresh_u⟩ := hQ4
  have N4 := Fr.app N3 Nq4
  refine own_st (T' := T4) (g' := (mkF m 50 #[rv a, .unset] [(.ref u4)])) st4 ?_
  clear st4
  have f5 := own_insK I_y0 K4
  have f6 := own_insK I_y1 K4
  have f7 := own_insK I_y2 K4
  have f8 := own_insK I_y3 K4
  have f9 := O0.keep K4 all0
  have f10 := (Keep.refl h0 []).trans K4 all0
  obtain ⟨_, T11, L11, X11, hQ11, st11⟩ := own_callS X4 hx (y := own_m26) hown (mvT hZ (wd hw 174 rfl)) (mvT hZ (wd hw 175 rfl)) (mvT hZ (wd hw 123 rfl)) (mvT hZ (wd hw 176 rfl)) (by decide) (backOf (W := 0) (rm_lof_4 l Z a0 hw [] u4 kO y0 y1 y2 y3 T4.heap n0 f9 fq4_0 OV FC f5 f6 f7 f8) hZ (wd hw 176 rfl) (wd hw 123 rfl) (by decide) (by decide)) (g := (mkF m 50 #[rv a, .unset] [(.ref u4)])) rfl (by rw [hml]; rfl) (argsL := [(.ref u4)]) (rest := []) (lenOf pd___Ljava_lang_Object__Ljava_util_List_ rfl) rfl (by show 2 * 0 + _ ≤ _; exact Nat.le_of_eq rfl) (hb hby d21_50) rfl rfl (by decide) (by decide) (c' := 3) (s' := 10) rfl rfl
  obtain ⟨x11, uu11, rfl, Nq11, K11, fq11_0, fq11_1, fq11_2, fq11_3, xq11_fresh_x, xq11_fresh_uu⟩ := hQ11
  have N11 := Fr.app N4 Nq11
  refine own_st (T' := T11) (g' := (mkF m 53 #[rv a, .unset] [(.ref x11)])) st11 ?_
  clear st11
  have f12 := f10.trans K11 all0
  exact own_retA X11 hx hret rfl rfl hlk (hb hby d21_53) (by decide) (by decide) ⟨x11, uu11, rfl, N11, f12, fq11_0, fq11_1, fq11_2, fq11_3, (Nat.le_trans f10.1 xq11_fresh_x), (Nat.le_trans f10.1 xq11_fresh_uu)⟩
theorem ef_cpy_4 (m : MethodId) (x0 : Addr) : entryFrame m #[(.ref x0)] 1 = mkF m 0 #[rv x0] [] := by first | (simp [entryFrame, mkF, argsToLocals, Value.category]; done) | rfl
def Q_cpy_4 (Z : State) (a : Addr) (t : Addr) (kO : ClassId) (mir : Addr) (y0 : Addr) (y1 : Addr) (y2 : Addr) (y3 : Addr) (h0 : Heap) (n0 : Nat) (v : Option Value) (h : Heap) (L : List Loc) : Prop := ∃ (x : Addr) (uu : Addr), (v = some (.ref x)) ∧ (Fr n0 L) ∧ (Keep h0 h []) ∧ (Exa Z h x "java/util/ImmutableCollections$ListN") ∧ (Fld Z h x "java/util/ImmutableCollections$ListN" "elements" "[Ljava/lang/Object;" (.ref uu)) ∧ (Fld Z h x "java/util/ImmutableCollections$ListN" "allowNulls" "Z" (.int (0 : Int32))) ∧ (Arv Z h uu kO (.object "java/lang/Object") (4 : Int32) [(.ref y0), (.ref y1), (.ref y2), (.ref y3)] .null) ∧ (h0.size ≤ x) ∧ (h0.size ≤ uu)
set_option maxRecDepth 65536 in
set_option maxHeartbeats 40000000 in
theorem rm_cpy_4 (l : Launch) (Z : State) (a0 : Array Value) (hw : ∀ d ∈ tables_1, d.before a0 Z = true) (ws : List Jvm.Cond) (a : Addr) (t : Addr) (kO : ClassId) (mir : Addr) (y0 : Addr) (y1 : Addr) (y2 : Addr) (y3 : Addr) (h0 : Heap) (n0 : Nat) (O0 : Old Z n0 h0) (E_a : Exa Z h0 a "java/util/ArrayList") (Fe : Fld Z h0 a "java/util/ArrayList" "elementData" "[Ljava/lang/Object;" (.ref t)) (Fz : Fld Z h0 a "java/util/ArrayList" "size" "I" (.int (4 : Int32))) (V_t : Arv Z h0 t kO (.object "java/lang/Object") (10 : Int32) [(.ref y0), (.ref y1), (.ref y2), (.ref y3), .null, .null, .null, .null, .null, .null] .null) (OV : Ovr Z kO "java/lang/Object") (FC : Z.vm.findClass "[Ljava/lang/Object;" = some kO) (MIR : own_Mir Z "[Ljava/lang/Object;" mir) (I_y0 : Ins Z h0 y0 "java/lang/Object" true) (I_y1 : Ins Z h0 y1 "java/lang/Object" true) (I_y2 : Ins Z h0 y2 "java/lang/Object" true) (I_y3 : Ins Z h0 y3 "java/lang/Object" true) :
    own_MF l own_m30 (Jvm.Cond.code own_m30 jdk_40_method_48_code 1 (some (.object "java/util/List")) :: ws) ({ frames := 8, cells := 3, slots := 10, locals := 103 } : Room) #[(.ref a)] Z h0 (Q_cpy_4 Z a t kO mir y0 y1 y2 y3 h0 n0) := by
  refine own_met (own := "java/util/List") (nme := "copyOf") rfl rfl (plainFor_of_name pn_12) ?_
  intro p e s m below meth c s₁ hx hby hml hown hnm X0 e0 hret hlk hZ
  have N0 := Fr.nil n0
  rw [ef_cpy_4 m a]
  refine own_st (T' := s₁) (g' := (mkF m 1 #[rv a] [(.ref a)])) (fun _ k_ => XS.aloadN X0.here hx rfl (hb hby d20_0) rfl rfl  k_) ?_
  obtain ⟨_, T1, L1, X1, hQ1, st1⟩ := own_callS X0 hx (y := own_m29) hown (mvT hZ (wd hw 125 rfl)) (mvT hZ (wd hw 126 rfl)) (mvT hZ (wd hw 127 rfl)) (mvT hZ (wd hw 128 rfl)) (by decide) (backOf (W := 0) (rm_lcp_4 l Z a0 hw [] a t kO mir y0 y1 y2 y3 h0 n0 O0 E_a Fe Fz V_t OV FC MIR I_y0 I_y1 I_y2 I_y3) hZ (wd hw 128 rfl) (wd hw 127 rfl) (by decide) (by decide)) (g := (mkF m 1 #[rv a] [(.ref a)])) rfl (by rw [hml]; rfl) (argsL := [(.ref a)]) (rest := []) (lenOf pd__Ljava_util_Collection__Ljava_util_List_ rfl) rfl (by show 2 * 0 + _ ≤ _; exact Nat.le_of_eq rfl) (hb hby d20_1) rfl e0 (by decide) (by decide) (c' := 3) (s' := 10) rfl rfl
  obtain ⟨x1, uu1, rfl, Nq1, K1, fq1_0, fq1_1, fq1_2, fq1_3, xq1_fresh_x, xq1_fresh_uu⟩ := hQ1
  have N1 := Fr.app N0 Nq1
  refine own_st (T' := T1) (g' := (mkF m 4 #[rv a] [(.ref x1)])) st1 ?_
  clear st1
  have f2 := (Keep.refl h0 []).trans K1 all0
  exact own_retA X1 hx hret rfl rfl hlk (hb hby d20_4) (by decide) (by decide) ⟨x1, uu1, rfl, N1, f2, fq1_0, fq1_1, fq1_2, fq1_3, (Nat.le_trans (Keep.refl h0 []).1 xq1_fresh_x), (Nat.le_trans (Keep.refl h0 []).1 xq1_fresh_uu)⟩
theorem ef_cp3_5 (m : MethodId) (x0 : Addr) (x1 : Int32) (x2 : Addr) : entryFrame m #[(.ref x0), (.int x1), (.ref x2)] 4 = mkF m 0 #[rv x0, iv x1, rv x2, .unset] [] := by first | (simp [entryFrame, mkF, argsToLocals, Value.category]; done) | rfl
def Q_cp3_5 (Z : State) (t : Addr) (kO : ClassId) (mir : Addr) (y0 : Addr) (y1 : Addr) (y2 : Addr) (y3 : Addr) (y4 : Addr) (h0 : Heap) (n0 : Nat) (v : Option Value) (h : Heap) (L : List Loc) : Prop := ∃ (u : Addr), (v = some (.ref u)) ∧ (Fr n0 L) ∧ (Keep h0 h []) ∧ (Arv Z h u kO (.object "java/lang/Object") (5 : Int32) [(.ref y0), (.ref y1), (.ref y2), (.ref y3), (.ref y4)] .null) ∧ (h0.size ≤ u)
set_option maxRecDepth 65536 in
set_option maxHeartbeats 40000000 in
theorem rm_cp3_5 (l : Launch) (Z : State) (a0 : Array Value) (hw : ∀ d ∈ tables_1, d.before a0 Z = true) (ws : List Jvm.Cond) (t : Addr) (kO : ClassId) (mir : Addr) (y0 : Addr) (y1 : Addr) (y2 : Addr) (y3 : Addr) (y4 : Addr) (h0 : Heap) (n0 : Nat) (O0 : Old Z n0 h0) (V_t : Arv Z h0 t kO (.object "java/lang/Object") (10 : Int32) [(.ref y0), (.ref y1), (.ref y2), (.ref y3), (.ref y4), .null, .null, .null, .null, .null] .null) (OV : Ovr Z kO "java/lang/Object") (FC : Z.vm.findClass "[Ljava/lang/Object;" = some kO) (MIR : own_Mir Z "[Ljava/lang/Object;" mir) (I_y0 : Ins Z h0 y0 "java/lang/Object" true) (I_y1 : Ins Z h0 y1 "java/lang/Object" true) (I_y2 : Ins Z h0 y2 "java/lang/Object" true) (I_y3 : Ins Z h0 y3 "java/lang/Object" true) (I_y4 : Ins Z h0 y4 "java/lang/Object" true) :
    own_MF l own_m23 (Jvm.Cond.code own_m23 jdk_65_method_120_code 4 (some (.array (.object "java/lang/Object"))) :: ws) ({ frames := 1, cells := 1, slots := 5, locals := 40 } : Room) #[(.ref t), (.int (5 : Int32)), (.ref mir)] Z h0 (Q_cp3_5 Z t kO mir y0 y1 y2 y3 y4 h0 n0) := by
  refine own_met (own := "java/util/Arrays") (nme := "copyOf") rfl rfl (plainFor_of_name pn_11) ?_
  intro p e s m below meth c s₁ hx hby hml hown hnm X0 e0 hret hlk hZ
  have N0 := Fr.nil n0
  rw [ef_cp3_5 m t (5 : Int32) mir]
  refine own_st (T' := s₁) (g' := (mkF m 1 #[rv t, iv (5 : Int32), rv mir, .unset] [(.ref mir)])) (fun _ k_ => XS.aloadN X0.here hx rfl (hb hby d25_0) rfl rfl  k_) ?_
  obtain ⟨T1, X1, e1, st1⟩ := own_ldk X0 hx hZ hown (wd hw 165 rfl) e0 MIR (g := (mkF m 1 #[rv t, iv (5 : Int32), rv mir, .unset] [(.ref mir)])) rfl (hb hby d25_1)
  refine own_st (T' := T1) (g' := (mkF m 3 #[rv t, iv (5 : Int32), rv mir, .unset] [(.ref mir), (.ref mir)])) st1 ?_
  clear st1
  refine own_st (T' := T1) (g' := (mkF m 6 #[rv t, iv (5 : Int32), rv mir, .unset] [])) (fun _ k_ => Jvm.RoadKit.acmp (g := (mkF m 3 #[rv t, iv (5 : Int32), rv mir, .unset] [(.ref mir), (.ref mir)])) X1 hx rfl rfl rfl (pc0 := 3) (pc' := 6) (same := true) rfl (hb hby d25_3) rfl (decide_eq_true rfl) (by decide) (by decide) k_) ?_
  refine own_st (T' := T1) (g' := (mkF m 7 #[rv t, iv (5 : Int32), rv mir, .unset] [(.int (5 : Int32))])) (fun _ k_ => XS.iloadN X1.here hx rfl (hb hby d25_6) rfl  k_) ?_
  obtain ⟨T2, h2, k2, X2, e2, E2, A2, EX2, O2, st2⟩ := newRE X1 hx hZ hown (wd hw 166 rfl) (wd hw 96 rfl) e1 (g := (mkF m 7 #[rv t, iv (5 : Int32), rv mir, .unset] [(.int (5 : Int32))])) rfl (hb hby d25_7) rfl (by decide) (cap := 5) (by decide) (by decide) (by decide) (by decide) (ad := "[Ljava/lang/Object;") (by decide)
  obtain rfl : kO = k2 := own_kk EX2 A2 FC
  clear EX2 O2
  obtain ⟨b2, g2⟩ : ∃ z, z = h0.size := ⟨_, rfl⟩
  rw [← g2] at A2 st2
  have fr2 : n0 ≤ b2 := Nat.le_trans (own_z O0) (Nat.le_of_eq g2.symm)
  have sz2 : h0.size ≤ b2 := Nat.le_trans (Keep.refl h0 []).1 (Nat.le_of_eq g2.symm)
  have V2 : Arv Z h2 b2 kO (.object "java/lang/Object") (5 : Int32) [.null, .null, .null, .null, .null] .null := (Arv.new A2 (by decide)).pad (pad_rep [] .null 5)
  refine own_st (T' := T2) (g' := (mkF m 10 #[rv t, iv (5 : Int32), rv mir, .unset] [(.ref b2)])) st2 ?_
  clear st2
  refine own_st (T' := T2) (g' := (mkF m 24 #[rv t, iv (5 : Int32), rv mir, .unset] [(.ref b2)])) (fun _ k_ => XS.goto X2.here hx rfl (pc0 := 10) (pc' := 24) rfl (hb hby d25_10) (by decide) (by decide) k_) ?_
  refine own_st (T' := T2) (g' := (mkF m 25 #[rv t, iv (5 : Int32), rv mir, rv b2] [])) (fun _ k_ => XS.astoreN X2.here hx rfl (hb hby d25_24) rfl rfl (l' := #[rv t, iv (5 : Int32), rv mir, rv b2]) rfl k_) ?_
  refine own_st (T' := T2) (g' := (mkF m 26 #[rv t, iv (5 : Int32), rv mir, rv b2] [(.ref t)])) (fun _ k_ => XS.aloadN X2.here hx rfl (hb hby d25_25) rfl rfl  k_) ?_
  refine own_st (T' := T2) (g' := (mkF m 27 #[rv t, iv (5 : Int32), rv mir, rv b2] [(.int (0 : Int32)), (.ref t)])) (fun _ k_ => XS.iconst X2.here hx rfl (hb hby d25_26) k_) ?_
  refine own_st (T' := T2) (g' := (mkF m 28 #[rv t, iv (5 : Int32), rv mir, rv b2] [(.ref b2), (.int (0 : Int32)), (.ref t)])) (fun _ k_ => XS.aloadN X2.here hx rfl (hb hby d25_27) rfl rfl  k_) ?_
  refine own_st (T' := T2) (g' := (mkF m 29 #[rv t, iv (5 : Int32), rv mir, rv b2] [(.int (0 : Int32)), (.ref b2), (.int (0 : Int32)), (.ref t)])) (fun _ k_ => XS.iconst X2.here hx rfl (hb hby d25_28) k_) ?_
  refine own_st (T' := T2) (g' := (mkF m 30 #[rv t, iv (5 : Int32), rv mir, rv b2] [(.ref t), (.int (0 : Int32)), (.ref b2), (.int (0 : Int32)), (.ref t)])) (fun _ k_ => XS.aloadN X2.here hx rfl (hb hby d25_29) rfl rfl  k_) ?_
  have f4 := V_t.ext E2
  obtain ⟨cl3, Ar3, -, S3, N3, -, -⟩ := id f4
  refine own_st (T' := T2) (g' := (mkF m 31 #[rv t, iv (5 : Int32), rv mir, rv b2] [(.int (10 : Int32)), (.int (0 : Int32)), (.ref b2), (.int (0 : Int32)), (.ref t)])) (fun t_ k_ => X2.arraylength hx (by rw [e2]; exact Ar3.1) (State.isArrayOf_alike hZ.alike Ar3.2.1) (g := (mkF m 30 #[rv t, iv (5 : Int32), rv mir, rv b2] [(.ref t), (.int (0 : Int32)), (.ref b2), (.int (0 : Int32)), (.ref t)])) rfl rfl (hb hby d25_30) _ (by rw [len_of S3 N3]; exact k_)) ?_
  refine own_st (T' := T2) (g' := (mkF m 32 #[rv t, iv (5 : Int32), rv mir, rv b2] [(.int (5 : Int32)), (.int (10 : Int32)), (.int (0 : Int32)), (.ref b2), (.int (0 : Int32)), (.ref t)])) (fun _ k_ => XS.iloadN X2.here hx rfl (hb hby d25_31) rfl  k_) ?_
  have f5 := O0.ext E2
  obtain ⟨_, T6, L6, X6, hQ6, st6⟩ := own_callS X2 hx (y := own_m18) hown (mvT hZ (wd hw 167 rfl)) (mvT hZ (wd hw 168 rfl)) (mvT hZ (wd hw 93 rfl)) (mvT hZ (wd hw 169 rfl)) (by decide) (backOf (W := 4) (rm_min l Z a0 hw [] (10 : Int32) (5 : Int32) h2 n0 f5 (by decide)) hZ (wd hw 169 rfl) (wd hw 93 rfl) (by decide) (by decide)) (g := (mkF m 32 #[rv t, iv (5 : Int32), rv mir, rv b2] [(.int (5 : Int32)), (.int (10 : Int32)), (.int (0 : Int32)), (.ref b2), (.int (0 : Int32)), (.ref t)])) rfl (by rw [hml]; rfl) (argsL := [(.int (10 : Int32)), (.int (5 : Int32))]) (rest := [(.int (0 : Int32)), (.ref b2), (.int (0 : Int32)), (.ref t)]) (lenOf pd__II_I rfl) rfl (by show 2 * 0 + _ ≤ _; exact Nat.le_of_eq rfl) (hb hby d25_32) rfl e2 (by decide) (by decide) (c' := 1) (s' := 5) rfl rfl
  obtain ⟨rfl, Nq6, eq6⟩ := hQ6
  have N6 := Fr.app N0 Nq6
  refine own_st (T' := T6) (g' := (mkF m 35 #[rv t, iv (5 : Int32), rv mir, rv b2] [(.int (5 : Int32)), (.int (0 : Int32)), (.ref b2), (.int (0 : Int32)), (.ref t)])) st6 ?_
  clear st6
  obtain ⟨cl7, Ar7, q7, -⟩ := id V2
  have f8 := Ins.ext E2 I_y4
  have f9 := Ins.ext E2 I_y3
  have f10 := Ins.ext E2 I_y2
  have f11 := Ins.ext E2 I_y1
  have f12 := Ins.ext E2 I_y0
  obtain ⟨T7, h7, L7, X7, e7, N7, K7, Va7, st7⟩ := cpA X6 hx hZ hown (wd hw 170 rfl) (wd hw 173 rfl) (wd hw 171 rfl) (wd hw 172 rfl) eq6 f4 V2 (sp := (0 : Int32)) (dp := (0 : Int32)) (nn := (5 : Int32)) (us := [(.ref y0), (.ref y1), (.ref y2), (.ref y3), (.ref y4)]) (Or.inr ⟨rfl, rfl, ⟨Sto.ofV Ar7 q7 OV f12, ⟨Sto.ofV Ar7 q7 OV f11, ⟨Sto.ofV Ar7 q7 OV f10, ⟨Sto.ofV Ar7 q7 OV f9, ⟨Sto.ofV Ar7 q7 OV f8, trivial⟩⟩⟩⟩⟩⟩) (by decide) (by decide) (by decide) (by decide) (by decide) rfl (Nat.le_of_ble_eq_true rfl) N6 fr2 (g := (mkF m 35 #[rv t, iv (5 : Int32), rv mir, rv b2] [(.int (5 : Int32)), (.int (0 : Int32)), (.ref b2), (.int (0 : Int32)), (.ref t)])) rfl (by rw [hml]; rfl) (rest := []) rfl (hb hby d25_35) (by decide) (W := 0) (by show 2 * 0 + _ ≤ _; exact Nat.le_of_eq rfl) (by decide)
  clear Ar7 q7 cl7
  have V7 : Arv Z h7 b2 kO (.object "java/lang/Object") (5 : Int32) [(.ref y0), (.ref y1), (.ref y2), (.ref y3), (.ref y4)] .null := Va7
  refine own_st (T' := T7) (g' := (mkF m 38 #[rv t, iv (5 : Int32), rv mir, rv b2] [])) st7 ?_
  clear st7
  refine own_st (T' := T7) (g' := (mkF m 39 #[rv t, iv (5 : Int32), rv mir, rv b2] [(.ref b2)])) (fun _ k_ => XS.aloadN X7.here hx rfl (hb hby d25_38) rfl rfl  k_) ?_
  have f13 := (Keep.refl h0 []).ext E2
  have f14 := f13.trans K7 (allS (Or.inr sz2) all0)
  exact own_retA X7 hx hret rfl rfl hlk (hb hby d25_39) (by decide) (by decide) (by rw [e7]; exact ⟨b2, rfl, N7, f14, V7, sz2⟩)
theorem ef_cp2_5 (m : MethodId) (x0 : Addr) (x1 : Int32) : entryFrame m #[(.ref x0), (.int x1)] 2 = mkF m 0 #[rv x0, iv x1] [] := by first | (simp [entryFrame, mkF, argsToLocals, Value.category]; done) | rfl
def Q_cp2_5 (Z : State) (t : Addr) (kO : ClassId) (mir : Addr) (y0 : Addr) (y1 : Addr) (y2 : Addr) (y3 : Addr) (y4 : Addr) (h0 : Heap) (n0 : Nat) (v : Option Value) (h : Heap) (L : List Loc) : Prop := ∃ (u : Addr), (v = some (.ref u)) ∧ (Fr n0 L) ∧ (Keep h0 h []) ∧ (Arv Z h u kO (.object "java/lang/Object") (5 : Int32) [(.ref y0), (.ref y1), (.ref y2), (.ref y3), (.ref y4)] .null) ∧ (h0.size ≤ u)
set_option maxRecDepth 65536 in
set_option maxHeartbeats 40000000 in
theorem rm_cp2_5 (l : Launch) (Z : State) (a0 : Array Value) (hw : ∀ d ∈ tables_1, d.before a0 Z = true) (ws : List Jvm.Cond) (t : Addr) (kO : ClassId) (mir : Addr) (y0 : Addr) (y1 : Addr) (y2 : Addr) (y3 : Addr) (y4 : Addr) (h0 : Heap) (n0 : Nat) (O0 : Old Z n0 h0) (V_t : Arv Z h0 t kO (.object "java/lang/Object") (10 : Int32) [(.ref y0), (.ref y1), (.ref y2), (.ref y3), (.ref y4), .null, .null, .null, .null, .null] .null) (OV : Ovr Z kO "java/lang/Object") (FC : Z.vm.findClass "[Ljava/lang/Object;" = some kO) (MIR : own_Mir Z "[Ljava/lang/Object;" mir) (I_y0 : Ins Z h0 y0 "java/lang/Object" true) (I_y1 : Ins Z h0 y1 "java/lang/Object" true) (I_y2 : Ins Z h0 y2 "java/lang/Object" true) (I_y3 : Ins Z h0 y3 "java/lang/Object" true) (I_y4 : Ins Z h0 y4 "java/lang/Object" true) :
    own_MF l own_m24 (Jvm.Cond.code own_m24 jdk_65_method_119_code 2 (some (.array (.object "java/lang/Object"))) :: ws) ({ frames := 2, cells := 1, slots := 5, locals := 55 } : Room) #[(.ref t), (.int (5 : Int32))] Z h0 (Q_cp2_5 Z t kO mir y0 y1 y2 y3 y4 h0 n0) := by
  refine own_met (own := "java/util/Arrays") (nme := "copyOf") rfl rfl (plainFor_of_name pn_11) ?_
  intro p e s m below meth c s₁ hx hby hml hown hnm X0 e0 hret hlk hZ
  have N0 := Fr.nil n0
  rw [ef_cp2_5 m t (5 : Int32)]
  refine own_st (T' := s₁) (g' := (mkF m 1 #[rv t, iv (5 : Int32)] [(.ref t)])) (fun _ k_ => XS.aloadN X0.here hx rfl (hb hby d24_0) rfl rfl  k_) ?_
  refine own_st (T' := s₁) (g' := (mkF m 2 #[rv t, iv (5 : Int32)] [(.int (5 : Int32)), (.ref t)])) (fun _ k_ => XS.iloadN X0.here hx rfl (hb hby d24_1) rfl  k_) ?_
  refine own_st (T' := s₁) (g' := (mkF m 3 #[rv t, iv (5 : Int32)] [(.ref t), (.int (5 : Int32)), (.ref t)])) (fun _ k_ => XS.aloadN X0.here hx rfl (hb hby d24_2) rfl rfl  k_) ?_
  obtain ⟨T1, X1, e1, st1⟩ := own_gcls X0 hx hZ hown (wd hw 156 rfl) (wd hw 157 rfl) (wd hw 133 rfl) (wd hw 159 rfl) (wd hw 158 rfl) (wd hw 160 rfl) e0 (own_exaArv V_t FC) MIR (g := (mkF m 3 #[rv t, iv (5 : Int32)] [(.ref t), (.int (5 : Int32)), (.ref t)])) rfl (by rw [hml]; rfl) (rest := [(.int (5 : Int32)), (.ref t)]) rfl (hb hby d24_3) (by decide) (W := 2) (by show 2 * 0 + _ ≤ _; exact Nat.le_of_eq rfl) (by decide)
  refine own_st (T' := T1) (g' := (mkF m 6 #[rv t, iv (5 : Int32)] [(.ref mir), (.int (5 : Int32)), (.ref t)])) st1 ?_
  clear st1
  obtain ⟨_, T2, L2, X2, hQ2, st2⟩ := own_callS X1 hx (y := own_m23) hown (mvT hZ (wd hw 162 rfl)) (mvT hZ (wd hw 163 rfl)) (mvT hZ (wd hw 154 rfl)) (mvT hZ (wd hw 164 rfl)) (by decide) (backOf (W := 0) (rm_cp3_5 l Z a0 hw [] t kO mir y0 y1 y2 y3 y4 h0 n0 O0 V_t OV FC MIR I_y0 I_y1 I_y2 I_y3 I_y4) hZ (wd hw 164 rfl) (wd hw 154 rfl) (by decide) (by decide)) (g := (mkF m 6 #[rv t, iv (5 : Int32)] [(.ref mir), (.int (5 : Int32)), (.ref t)])) rfl (by rw [hml]; rfl) (argsL := [(.ref t), (.int (5 : Int32)), (.ref mir)]) (rest := []) (lenOf pd___Ljava_lang_Object_ILjava_lang_Class___Ljava_lang_Object_ rfl) rfl (by show 2 * 0 + _ ≤ _; exact Nat.le_of_eq rfl) (hb hby d24_6) rfl e1 (by decide) (by decide) (c' := 1) (s' := 5) rfl rfl
  obtain ⟨u2, rfl, Nq2, K2, fq2_0, xq2_fresh_u⟩ := hQ2
  have N2 := Fr.app N0 Nq2
  refine own_st (T' := T2) (g' := (mkF m 9 #[rv t, iv (5 : Int32)] [(.ref u2)])) st2 ?_
  clear st2
  have f3 := (Keep.refl h0 []).trans K2 all0
  exact own_retA X2 hx hret rfl rfl hlk (hb hby d24_9) (by decide) (by decide) ⟨u2, rfl, N2, f3, fq2_0, (Nat.le_trans (Keep.refl h0 []).1 xq2_fresh_u)⟩
theorem ef_tar_5 (m : MethodId) (x0 : Addr) : entryFrame m #[(.ref x0)] 1 = mkF m 0 #[rv x0] [] := by first | (simp [entryFrame, mkF, argsToLocals, Value.category]; done) | rfl
def Q_tar_5 (Z : State) (a : Addr) (t : Addr) (kO : ClassId) (mir : Addr) (y0 : Addr) (y1 : Addr) (y2 : Addr) (y3 : Addr) (y4 : Addr) (h0 : Heap) (n0 : Nat) (v : Option Value) (h : Heap) (L : List Loc) : Prop := ∃ (u : Addr), (v = some (.ref u)) ∧ (Fr n0 L) ∧ (Keep h0 h []) ∧ (Arv Z h u kO (.object "java/lang/Object") (5 : Int32) [(.ref y0), (.ref y1), (.ref y2), (.ref y3), (.ref y4)] .null) ∧ (h0.size ≤ u)
set_option maxRecDepth 65536 in
set_option maxHeartbeats 40000000 in
theorem rm_tar_5 (l : Launch) (Z : State) (a0 : Array Value) (hw : ∀ d ∈ tables_1, d.before a0 Z = true) (ws : List Jvm.Cond) (a : Addr) (t : Addr) (kO : ClassId) (mir : Addr) (y0 : Addr) (y1 : Addr) (y2 : Addr) (y3 : Addr) (y4 : Addr) (h0 : Heap) (n0 : Nat) (O0 : Old Z n0 h0) (Fe : Fld Z h0 a "java/util/ArrayList" "elementData" "[Ljava/lang/Object;" (.ref t)) (Fz : Fld Z h0 a "java/util/ArrayList" "size" "I" (.int (5 : Int32))) (V_t : Arv Z h0 t kO (.object "java/lang/Object") (10 : Int32) [(.ref y0), (.ref y1), (.ref y2), (.ref y3), (.ref y4), .null, .null, .null, .null, .null] .null) (OV : Ovr Z kO "java/lang/Object") (FC : Z.vm.findClass "[Ljava/lang/Object;" = some kO) (MIR : own_Mir Z "[Ljava/lang/Object;" mir) (I_y0 : Ins Z h0 y0 "java/lang/Object" true) (I_y1 : Ins Z h0 y1 "java/lang/Object" true) (I_y2 : Ins Z h0 y2 "java/lang/Object" true) (I_y3 : Ins Z h0 y3 "java/lang/Object" true) (I_y4 : Ins Z h0 y4 "java/lang/Object" true) :
    own_MF l own_m25 (Jvm.Cond.code own_m25 jdk_38_method_16_code 1 (some (.array (.object "java/lang/Object"))) :: ws) ({ frames := 3, cells := 1, slots := 5, locals := 68 } : Room) #[(.ref a)] Z h0 (Q_tar_5 Z a t kO mir y0 y1 y2 y3 y4 h0 n0) := by
  refine own_met (own := "java/util/ArrayList") (nme := "toArray") rfl rfl (plainFor_of_name pn_5) ?_
  intro p e s m below meth c s₁ hx hby hml hown hnm X0 e0 hret hlk hZ
  have N0 := Fr.nil n0
  rw [ef_tar_5 m a]
  refine own_st (T' := s₁) (g' := (mkF m 1 #[rv a] [(.ref a)])) (fun _ k_ => XS.aloadN X0.here hx rfl (hb hby d23_0) rfl rfl  k_) ?_
  obtain ⟨T1, X1, e1, st1⟩ := getF X0 hx hZ hown (host := "") (Or.inl (wd hw 65 rfl)) Via.refl e0 Fe (g := (mkF m 1 #[rv a] [(.ref a)])) rfl rfl (hb hby d23_1)
  refine own_st (T' := T1) (g' := (mkF m 4 #[rv a] [(.ref t)])) st1 ?_
  clear st1
  refine own_st (T' := T1) (g' := (mkF m 5 #[rv a] [(.ref a), (.ref t)])) (fun _ k_ => XS.aloadN X1.here hx rfl (hb hby d23_4) rfl rfl  k_) ?_
  obtain ⟨T2, X2, e2, st2⟩ := getF X1 hx hZ hown (host := "") (Or.inl (wd hw 74 rfl)) Via.refl e1 Fz (g := (mkF m 5 #[rv a] [(.ref a), (.ref t)])) rfl rfl (hb hby d23_5)
  refine own_st (T' := T2) (g' := (mkF m 8 #[rv a] [(.int (5 : Int32)), (.ref t)])) st2 ?_
  clear st2
  obtain ⟨_, T3, L3, X3, hQ3, st3⟩ := own_callS X2 hx (y := own_m24) hown (mvT hZ (wd hw 152 rfl)) (mvT hZ (wd hw 153 rfl)) (mvT hZ (wd hw 154 rfl)) (mvT hZ (wd hw 155 rfl)) (by decide) (backOf (W := 0) (rm_cp2_5 l Z a0 hw [] t kO mir y0 y1 y2 y3 y4 h0 n0 O0 V_t OV FC MIR I_y0 I_y1 I_y2 I_y3 I_y4) hZ (wd hw 155 rfl) (wd hw 154 rfl) (by decide) (by decide)) (g := (mkF m 8 #[rv a] [(.int (5 : Int32)), (.ref t)])) rfl (by rw [hml]; rfl) (argsL := [(.ref t), (.int (5 : Int32))]) (rest := []) (lenOf pd___Ljava_lang_Object_I__Ljava_lang_Object_ rfl) rfl (by show 2 * 0 + _ ≤ _; exact Nat.le_of_eq rfl) (hb hby d23_8) rfl e2 (by decide) (by decide) (c' := 1) (s' := 5) rfl rfl
  obtain ⟨u3, rfl, Nq3, K3, fq3_0, xq3_fresh_u⟩ := hQ3
  have N3 := Fr.app N0 Nq3
  refine own_st (T' := T3) (g' := (mkF m 11 #[rv a] [(.ref u3)])) st3 ?_
  clear st3
  have f4 := (Keep.refl h0 []).trans K3 all0
  exact own_retA X3 hx hret rfl rfl hlk (hb hby d23_11) (by decide) (by decide) ⟨u3, rfl, N3, f4, fq3_0, (Nat.le_trans (Keep.refl h0 []).1 xq3_fresh_u)⟩
theorem ef_lfa_5 (m : MethodId) (x0 : Addr) : entryFrame m #[(.ref x0)] 3 = mkF m 0 #[rv x0, .unset, .unset] [] := by first | (simp [entryFrame, mkF, argsToLocals, Value.category]; done) | rfl
def Q_lfa_5 (Z : State) (u : Addr) (kO : ClassId) (y0 : Addr) (y1 : Addr) (y2 : Addr) (y3 : Addr) (y4 : Addr) (h0 : Heap) (n0 : Nat) (v : Option Value) (h : Heap) (L : List Loc) : Prop := ∃ (x : Addr) (uu : Addr), (v = some (.ref x)) ∧ (Fr n0 L) ∧ (Keep h0 h []) ∧ (Exa Z h x "java/util/ImmutableCollections$ListN") ∧ (Fld Z h x "java/util/ImmutableCollections$ListN" "elements" "[Ljava/lang/Object;" (.ref uu)) ∧ (Fld Z h x "java/util/ImmutableCollections$ListN" "allowNulls" "Z" (.int (0 : Int32))) ∧ (Arv Z h uu kO (.object "java/lang/Object") (5 : Int32) [(.ref y0), (.ref y1), (.ref y2), (.ref y3), (.ref y4)] .null) ∧ (h0.size ≤ x) ∧ (h0.size ≤ uu)
set_option maxRecDepth 65536 in
set_option maxHeartbeats 40000000 in
theorem rm_lfa_5 (l : Launch) (Z : State) (a0 : Array Value) (hw : ∀ d ∈ tables_1, d.before a0 Z = true) (ws : List Jvm.Cond) (u : Addr) (kO : ClassId) (y0 : Addr) (y1 : Addr) (y2 : Addr) (y3 : Addr) (y4 : Addr) (h0 : Heap) (n0 : Nat) (O0 : Old Z n0 h0) (V_u : Arv Z h0 u kO (.object "java/lang/Object") (5 : Int32) [(.ref y0), (.ref y1), (.ref y2), (.ref y3), (.ref y4)] .null) (OV : Ovr Z kO "java/lang/Object") (FC : Z.vm.findClass "[Ljava/lang/Object;" = some kO) (I_y0 : Ins Z h0 y0 "java/lang/Object" true) (I_y1 : Ins Z h0 y1 "java/lang/Object" true) (I_y2 : Ins Z h0 y2 "java/lang/Object" true) (I_y3 : Ins Z h0 y3 "java/lang/Object" true) (I_y4 : Ins Z h0 y4 "java/lang/Object" true) :
    own_MF l own_m31 (Jvm.Cond.code own_m31 jdk_56_method_4_code 3 (some (.object "java/util/List")) :: ws) ({ frames := 5, cells := 2, slots := 7, locals := 63 } : Room) #[(.ref u)] Z h0 (Q_lfa_5 Z u kO y0 y1 y2 y3 y4 h0 n0) := by
  refine own_met (own := "java/util/ImmutableCollections") (nme := "listFromArray") rfl rfl (plainFor_of_name pn_13) ?_
  intro p e s m below meth c s₁ hx hby hml hown hnm X0 e0 hret hlk hZ
  have N0 := Fr.nil n0
  rw [ef_lfa_5 m u]
  refine own_st (T' := s₁) (g' := (mkF m 1 #[rv u, .unset, .unset] [(.ref u)])) (fun _ k_ => XS.aloadN X0.here hx rfl (hb hby d37_0) rfl rfl  k_) ?_
  obtain ⟨cl1, Ar1, -, S1, N1, -, -⟩ := id V_u
  refine own_st (T' := s₁) (g' := (mkF m 2 #[rv u, .unset, .unset] [(.int (5 : Int32))])) (fun t_ k_ => X0.arraylength hx (by rw [e0]; exact Ar1.1) (State.isArrayOf_alike hZ.alike Ar1.2.1) (g := (mkF m 1 #[rv u, .unset, .unset] [(.ref u)])) rfl rfl (hb hby d37_1) _ (by rw [len_of S1 N1]; exact k_)) ?_
  obtain ⟨T2, h2, k2, X2, e2, E2, A2, EX2, O2, st2⟩ := newRE X0 hx hZ hown (wd hw 248 rfl) (wd hw 96 rfl) e0 (g := (mkF m 2 #[rv u, .unset, .unset] [(.int (5 : Int32))])) rfl (hb hby d37_2) rfl (by decide) (cap := 5) (by decide) (by decide) (by decide) (by decide) (ad := "[Ljava/lang/Object;") (by decide)
  obtain rfl : kO = k2 := own_kk EX2 A2 FC
  clear EX2 O2
  obtain ⟨b2, g2⟩ : ∃ z, z = h0.size := ⟨_, rfl⟩
  rw [← g2] at A2 st2
  have fr2 : n0 ≤ b2 := Nat.le_trans (own_z O0) (Nat.le_of_eq g2.symm)
  have sz2 : h0.size ≤ b2 := Nat.le_trans (Keep.refl h0 []).1 (Nat.le_of_eq g2.symm)
  have V2 : Arv Z h2 b2 kO (.object "java/lang/Object") (5 : Int32) [.null, .null, .null, .null, .null] .null := (Arv.new A2 (by decide)).pad (pad_rep [] .null 5)
  refine own_st (T' := T2) (g' := (mkF m 5 #[rv u, .unset, .unset] [(.ref b2)])) st2 ?_
  clear st2
  refine own_st (T' := T2) (g' := (mkF m 6 #[rv u, rv b2, .unset] [])) (fun _ k_ => XS.astoreN X2.here hx rfl (hb hby d37_5) rfl rfl (l' := #[rv u, rv b2, .unset]) rfl k_) ?_
  refine own_st (T' := T2) (g' := (mkF m 7 #[rv u, rv b2, .unset] [(.int (0 : Int32))])) (fun _ k_ => XS.iconst X2.here hx rfl (hb hby d37_6) k_) ?_
  refine own_st (T' := T2) (g' := (mkF m 8 #[rv u, rv b2, iv (0 : Int32)] [])) (fun _ k_ => XS.istoreN X2.here hx rfl (hb hby d37_7) rfl (l' := #[rv u, rv b2, iv (0 : Int32)]) rfl k_) ?_
  refine own_st (T' := T2) (g' := (mkF m 9 #[rv u, rv b2, iv (0 : Int32)] [(.int (0 : Int32))])) (fun _ k_ => XS.iloadN X2.here hx rfl (hb hby d37_8) rfl  k_) ?_
  refine own_st (T' := T2) (g' := (mkF m 10 #[rv u, rv b2, iv (0 : Int32)] [(.ref u), (.int (0 : Int32))])) (fun _ k_ => XS.aloadN X2.here hx rfl (hb hby d37_9) rfl rfl  k_) ?_
  have f4 := V_u.ext E2
  obtain ⟨cl3, Ar3, -, S3, N3, -, -⟩ := id f4
  refine own_st (T' := T2) (g' := (mkF m 11 #[rv u, rv b2, iv (0 : Int32)] [(.int (5 : Int32)), (.int (0 : Int32))])) (fun t_ k_ => X2.arraylength hx (by rw [e2]; exact Ar3.1) (State.isArrayOf_alike hZ.alike Ar3.2.1) (g := (mkF m 10 #[rv u, rv b2, iv (0 : Int32)] [(.ref u), (.int (0 : Int32))])) rfl rfl (hb hby d37_10) _ (by rw [len_of S3 N3]; exact k_)) ?_
  refine own_st (T' := T2) (g' := (mkF m 14 #[rv u, rv b2, iv (0 : Int32)] [])) (fun _ k_ => XS.icmpNo X2.here hx rfl (hb hby d37_11) rfl (tlt (by decide : (0 : Int32) < (5 : Int32))).2.1 k_) ?_
  refine own_st (T' := T2) (g' := (mkF m 15 #[rv u, rv b2, iv (0 : Int32)] [(.ref b2)])) (fun _ k_ => XS.aloadN X2.here hx rfl (hb hby d37_14) rfl rfl  k_) ?_
  refine own_st (T' := T2) (g' := (mkF m 16 #[rv u, rv b2, iv (0 : Int32)] [(.int (0 : Int32)), (.ref b2)])) (fun _ k_ => XS.iloadN X2.here hx rfl (hb hby d37_15) rfl  k_) ?_
  refine own_st (T' := T2) (g' := (mkF m 17 #[rv u, rv b2, iv (0 : Int32)] [(.ref u), (.int (0 : Int32)), (.ref b2)])) (fun _ k_ => XS.aloadN X2.here hx rfl (hb hby d37_16) rfl rfl  k_) ?_
  refine own_st (T' := T2) (g' := (mkF m 18 #[rv u, rv b2, iv (0 : Int32)] [(.int (0 : Int32)), (.ref u), (.int (0 : Int32)), (.ref b2)])) (fun _ k_ => XS.iloadN X2.here hx rfl (hb hby d37_17) rfl  k_) ?_
  obtain ⟨cl5, Ar5, q5, S5, N5, H5, G5⟩ := id f4
  have hin5 : ¬ ((0 : Int32) < 0 ∨ cl5.slots.size ≤ ((0 : Int32)).toNatClampNeg) := inb_of S5 ⟨by decide, by decide⟩
  refine own_st (T' := T2) (g' := (mkF m 19 #[rv u, rv b2, iv (0 : Int32)] [(.ref y0), (.int (0 : Int32)), (.ref b2)])) (X2.aaload hx (j := (0 : Int32)) (v := (.ref y0)) (by rw [e2]; exact Ar5.1) (State.isArrayOf_alike hZ.alike Ar5.2.1) rfl Ar5.2.2 hin5 (H5.at hin5 rfl) (g := (mkF m 18 #[rv u, rv b2, iv (0 : Int32)] [(.int (0 : Int32)), (.ref u), (.int (0 : Int32)), (.ref b2)])) rfl rfl (hb hby d37_18)) ?_
  clear hin5 G5 H5 N5 S5 q5 Ar5 cl5
  have f6 := O0.ext E2
  obtain ⟨_, T7, L7, X7, hQ7, st7⟩ := own_callS X2 hx (y := own_m17) hown (mvT hZ (wd hw 249 rfl)) (mvT hZ (wd hw 199 rfl)) (mvT hZ (wd hw 200 rfl)) (mvT hZ (wd hw 201 rfl)) (by decide) (backOf (W := 2) (rm_rnn l Z a0 hw [] y0 h2 n0 f6) hZ (wd hw 201 rfl) (wd hw 200 rfl) (by decide) (by decide)) (g := (mkF m 19 #[rv u, rv b2, iv (0 : Int32)] [(.ref y0), (.int (0 : Int32)), (.ref b2)])) rfl (by rw [hml]; rfl) (argsL := [(.ref y0)]) (rest := [(.int (0 : Int32)), (.ref b2)]) (lenOf pd__Ljava_lang_Object__Ljava_lang_Object_ rfl) rfl (by show 2 * 0 + _ ≤ _; exact Nat.le_of_eq rfl) (hb hby d37_19) rfl e2 (by decide) (by decide) (c' := 1) (s' := 5) rfl rfl
  obtain ⟨rfl, Nq7, eq7⟩ := hQ7
  have N7 := Fr.app N0 Nq7
  refine own_st (T' := T7) (g' := (mkF m 22 #[rv u, rv b2, iv (0 : Int32)] [(.ref y0), (.int (0 : Int32)), (.ref b2)])) st7 ?_
  clear st7
  obtain ⟨cl8, Ar8, q8, S8, N8, H8, G8⟩ := id V2
  have hin8 : ¬ ((0 : Int32) < 0 ∨ cl8.slots.size ≤ ((0 : Int32)).toNatClampNeg) := inb_of S8 ⟨by decide, by decide⟩
  have f9 := Ins.ext E2 I_y0
  obtain ⟨T10, h10, X10, e10, W10, st10⟩ := stR X7 hx hZ eq7 Ar8 (j := (0 : Int32)) hin8 rfl (Sto.of Ar8 (q8 ▸ OV) f9) (g := (mkF m 22 #[rv u, rv b2, iv (0 : Int32)] [(.ref y0), (.int (0 : Int32)), (.ref b2)])) rfl rfl (hb hby d37_22)
  have V10 : Arv Z h10 b2 kO (.object "java/lang/Object") (5 : Int32) [(.ref y0), .null, .null, .null, .null] .null := Arv.set Ar8 q8 S8 N8 H8 G8 rfl W10 0 rfl (Nat.le_of_ble_eq_true rfl)
  have Nx10 := Fr.snoc X10 N7 fr2
  refine own_st (T' := T10) (g' := (mkF m 23 #[rv u, rv b2, iv (0 : Int32)] [])) st10 ?_
  clear hin8 G8 H8 N8 S8 q8 Ar8 cl8 st10
  refine own_st (T' := T10) (g' := (mkF m 26 #[rv u, rv b2, iv (1 : Int32)] [])) (fun _ k_ => XS.iinc X10.here hx rfl (hb hby d37_23) rfl (l' := #[rv u, rv b2, iv (1 : Int32)]) rfl k_) ?_
  refine own_st (T' := T10) (g' := (mkF m 8 #[rv u, rv b2, iv (1 : Int32)] [])) (fun _ k_ => XS.goto X10.here hx rfl (pc0 := 26) (pc' := 8) rfl (hb hby d37_26) (by decide) (by decide) k_) ?_
  refine own_st (T' := T10) (g' := (mkF m 9 #[rv u, rv b2, iv (1 : Int32)] [(.int (1 : Int32))])) (fun _ k_ => XS.iloadN X10.here hx rfl (hb hby d37_8) rfl  k_) ?_
  refine own_st (T' := T10) (g' := (mkF m 10 #[rv u, rv b2, iv (1 : Int32)] [(.ref u), (.int (1 : Int32))])) (fun _ k_ => XS.aloadN X10.here hx rfl (hb hby d37_9) rfl rfl  k_) ?_
  have ne12 : u ≠ b2 := Nat.ne_of_lt (Nat.lt_of_lt_of_le V_u.lt (Nat.le_of_eq g2.symm))
  have f13 := f4.other W10 ne12
  obtain ⟨cl11, Ar11, -, S11, N11, -, -⟩ := id f13
  refine own_st (T' := T10) (g' := (mkF m 11 #[rv u, rv b2, iv (1 : Int32)] [(.int (5 : Int32)), (.int (1 : Int32))])) (fun t_ k_ => X10.arraylength hx (by rw [e10]; exact Ar11.1) (State.isArrayOf_alike hZ.alike Ar11.2.1) (g := (mkF m 10 #[rv u, rv b2, iv (1 : Int32)] [(.ref u), (.int (1 : Int32))])) rfl rfl (hb hby d37_10) _ (by rw [len_of S11 N11]; exact k_)) ?_
  refine own_st (T' := T10) (g' := (mkF m 14 #[rv u, rv b2, iv (1 : Int32)] [])) (fun _ k_ => XS.icmpNo X10.here hx rfl (hb hby d37_11) rfl (tlt (by decide : (1 : Int32) < (5 : Int32))).2.1 k_) ?_
  refine own_st (T' := T10) (g' := (mkF m 15 #[rv u, rv b2, iv (1 : Int32)] [(.ref b2)])) (fun _ k_ => XS.aloadN X10.here hx rfl (hb hby d37_14) rfl rfl  k_) ?_
  refine own_st (T' := T10) (g' := (mkF m 16 #[rv u, rv b2, iv (1 : Int32)] [(.int (1 : Int32)), (.ref b2)])) (fun _ k_ => XS.iloadN X10.here hx rfl (hb hby d37_15) rfl  k_) ?_
  refine own_st (T' := T10) (g' := (mkF m 17 #[rv u, rv b2, iv (1 : Int32)] [(.ref u), (.int (1 : Int32)), (.ref b2)])) (fun _ k_ => XS.aloadN X10.here hx rfl (hb hby d37_16) rfl rfl  k_) ?_
  refine own_st (T' := T10) (g' := (mkF m 18 #[rv u, rv b2, iv (1 : Int32)] [(.int (1 : Int32)), (.ref u), (.int (1 : Int32)), (.ref b2)])) (fun _ k_ => XS.iloadN X10.here hx rfl (hb hby d37_17) rfl  k_) ?_
  obtain ⟨cl14, Ar14, q14, S14, N14, H14, G14⟩ := id f13
  have hin14 : ¬ ((1 : Int32) < 0 ∨ cl14.slots.size ≤ ((1 : Int32)).toNatClampNeg) := inb_of S14 ⟨by decide, by decide⟩
  refine own_st (T' := T10) (g' := (mkF m 19 #[rv u, rv b2, iv (1 : Int32)] [(.ref y1), (.int (1 : Int32)), (.ref b2)])) (X10.aaload hx (j := (1 : Int32)) (v := (.ref y1)) (by rw [e10]; exact Ar14.1) (State.isArrayOf_alike hZ.alike Ar14.2.1) rfl Ar14.2.2 hin14 (H14.at hin14 rfl) (g := (mkF m 18 #[rv u, rv b2, iv (1 : Int32)] [(.int (1 : Int32)), (.ref u), (.int (1 : Int32)), (.ref b2)])) rfl rfl (hb hby d37_18)) ?_
  clear hin14 G14 H14 N14 S14 q14 Ar14 cl14
  have f15 := f6.wr W10 fr2
  obtain ⟨_, T16, L16, X16, hQ16, st16⟩ := own_callS X10 hx (y := own_m17) hown (mvT hZ (wd hw 249 rfl)) (mvT hZ (wd hw 199 rfl)) (mvT hZ (wd hw 200 rfl)) (mvT hZ (wd hw 201 rfl)) (by decide) (backOf (W := 2) (rm_rnn l Z a0 hw [] y1 h10 n0 f15) hZ (wd hw 201 rfl) (wd hw 200 rfl) (by decide) (by decide)) (g := (mkF m 19 #[rv u, rv b2, iv (1 : Int32)] [(.ref y1), (.int (1 : Int32)), (.ref b2)])) rfl (by rw [hml]; rfl) (argsL := [(.ref y1)]) (rest := [(.int (1 : Int32)), (.ref b2)]) (lenOf pd__Ljava_lang_Object__Ljava_lang_Object_ rfl) rfl (by show 2 * 0 + _ ≤ _; exact Nat.le_of_eq rfl) (hb hby d37_19) rfl e10 (by decide) (by decide) (c' := 1) (s' := 5) rfl rfl
  obtain ⟨rfl, Nq16, eq16⟩ := hQ16
  have N16 := Fr.app Nx10 Nq16
  refine own_st (T' := T16) (g' := (mkF m 22 #[rv u, rv b2, iv (1 : Int32)] [(.ref y1), (.int (1 : Int32)), (.ref b2)])) st16 ?_
  clear st16
  obtain ⟨cl17, Ar17, q17, S17, N17, H17, G17⟩ := id V10
  have hin17 : ¬ ((1 : Int32) < 0 ∨ cl17.slots.size ≤ ((1 : Int32)).toNatClampNeg) := inb_of S17 ⟨by decide, by decide⟩
  have f18 := Ins.ext E2 I_y1
  have f19 := Ins.wr W10 f18
  obtain ⟨T20, h20, X20, e20, W20, st20⟩ := stR X16 hx hZ eq16 Ar17 (j := (1 : Int32)) hin17 rfl (Sto.of Ar17 (q17 ▸ OV) f19) (g := (mkF m 22 #[rv u, rv b2, iv (1 : Int32)] [(.ref y1), (.int (1 : Int32)), (.ref b2)])) rfl rfl (hb hby d37_22)
  have V20 : Arv Z h20 b2 kO (.object "java/lang/Object") (5 : Int32) [(.ref y0), (.ref y1), .null, .null, .null] .null := Arv.set Ar17 q17 S17 N17 H17 G17 rfl W20 1 rfl (Nat.le_of_ble_eq_true rfl)
  have Nx20 := Fr.snoc X20 N16 fr2
  refine own_st (T' := T20) (g' := (mkF m 23 #[rv u, rv b2, iv (1 : Int32)] [])) st20 ?_
  clear hin17 G17 H17 N17 S17 q17 Ar17 cl17 st20
  refine own_st (T' := T20) (g' := (mkF m 26 #[rv u, rv b2, iv (2 : Int32)] [])) (fun _ k_ => XS.iinc X20.here hx rfl (hb hby d37_23) rfl (l' := #[rv u, rv b2, iv (2 : Int32)]) rfl k_) ?_
  refine own_st (T' := T20) (g' := (mkF m 8 #[rv u, rv b2, iv (2 : Int32)] [])) (fun _ k_ => XS.goto X20.here hx rfl (pc0 := 26) (pc' := 8) rfl (hb hby d37_26) (by decide) (by decide) k_) ?_
  refine own_st (T' := T20) (g' := (mkF m 9 #[rv u, rv b2, iv (2 : Int32)] [(.int (2 : Int32))])) (fun _ k_ => XS.iloadN X20.here hx rfl (hb hby d37_8) rfl  k_) ?_
  refine own_st (T' := T20) (g' := (mkF m 10 #[rv u, rv b2, iv (2 : Int32)] [(.ref u), (.int (2 : Int32))])) (fun _ k_ => XS.aloadN X20.here hx rfl (hb hby d37_9) rfl rfl  k_) ?_
  have f22 := f13.other W20 ne12
  obtain ⟨cl21, Ar21, -, S21, N21, -, -⟩ := id f22
  refine own_st (T' := T20) (g' := (mkF m 11 #[rv u, rv b2, iv (2 : Int32)] [(.int (5 : Int32)), (.int (2 : Int32))])) (fun t_ k_ => X20.arraylength hx (by rw [e20]; exact Ar21.1) (State.isArrayOf_alike hZ.alike Ar21.2.1) (g := (mkF m 10 #[rv u, rv b2, iv (2 : Int32)] [(.ref u), (.int (2 : Int32))])) rfl rfl (hb hby d37_10) _ (by rw [len_of S21 N21]; exact k_)) ?_
  refine own_st (T' := T20) (g' := (mkF m 14 #[rv u, rv b2, iv (2 : Int32)] [])) (fun _ k_ => XS.icmpNo X20.here hx rfl (hb hby d37_11) rfl (tlt (by decide : (2 : Int32) < (5 : Int32))).2.1 k_) ?_
  refine own_st (T' := T20) (g' := (mkF m 15 #[rv u, rv b2, iv (2 : Int32)] [(.ref b2)])) (fun _ k_ => XS.aloadN X20.here hx rfl (hb hby d37_14) rfl rfl  k_) ?_
  refine own_st (T' := T20) (g' := (mkF m 16 #[rv u, rv b2, iv (2 : Int32)] [(.int (2 : Int32)), (.ref b2)])) (fun _ k_ => XS.iloadN X20.here hx rfl (hb hby d37_15) rfl  k_) ?_
  refine own_st (T' := T20) (g' := (mkF m 17 #[rv u, rv b2, iv (2 : Int32)] [(.ref u), (.int (2 : Int32)), (.ref b2)])) (fun _ k_ => XS.aloadN X20.here hx rfl (hb hby d37_16) rfl rfl  k_) ?_
  refine own_st (T' := T20) (g' := (mkF m 18 #[rv u, rv b2, iv (2 : Int32)] [(.int (2 : Int32)), (.ref u), (.int (2 : Int32)), (.ref b2)])) (fun _ k_ => XS.iloadN X20.here hx rfl (hb hby d37_17) rfl  k_) ?_
  obtain ⟨cl23, Ar23, q23, S23, N23, H23, G23⟩ := id f22
  have hin23 : ¬ ((2 : Int32) < 0 ∨ cl23.slots.size ≤ ((2 : Int32)).toNatClampNeg) := inb_of S23 ⟨by decide, by decide⟩
  refine own_st (T' := T20) (g' := (mkF m 19 #[rv u, rv b2, iv (2 : Int32)] [(.ref y2), (.int (2 : Int32)), (.ref b2)])) (X20.aaload hx (j := (2 : Int32)) (v := (.ref y2)) (by rw [e20]; exact Ar23.1) (State.isArrayOf_alike hZ.alike Ar23.2.1) rfl Ar23.2.2 hin23 (H23.at hin23 rfl) (g := (mkF m 18 #[rv u, rv b2, iv (2 : Int32)] [(.int (2 : Int32)), (.ref u), (.int (2 : Int32)), (.ref b2)])) rfl rfl (hb hby d37_18)) ?_
  clear hin23 G23 H23 N23 S23 q23 Ar23 cl23
  have f24 := f15.wr W20 fr2
  obtain ⟨_, T25, L25, X25, hQ25, st25⟩ := own_callS X20 hx (y := own_m17) hown (mvT hZ (wd hw 249 rfl)) (mvT hZ (wd hw 199 rfl)) (mvT hZ (wd hw 200 rfl)) (mvT hZ (wd hw 201 rfl)) (by decide) (backOf (W := 2) (rm_rnn l Z a0 hw [] y2 h20 n0 f24) hZ (wd hw 201 rfl) (wd hw 200 rfl) (by decide) (by decide)) (g := (mkF m 19 #[rv u, rv b2, iv (2 : Int32)] [(.ref y2), (.int (2 : Int32)), (.ref b2)])) rfl (by rw [hml]; rfl) (argsL := [(.ref y2)]) (rest := [(.int (2 : Int32)), (.ref b2)]) (lenOf pd__Ljava_lang_Object__Ljava_lang_Object_ rfl) rfl (by show 2 * 0 + _ ≤ _; exact Nat.le_of_eq rfl) (hb hby d37_19) rfl e20 (by decide) (by decide) (c' := 1) (s' := 5) rfl rfl
  obtain ⟨rfl, Nq25, eq25⟩ := hQ25
  have N25 := Fr.app Nx20 Nq25
  refine own_st (T' := T25) (g' := (mkF m 22 #[rv u, rv b2, iv (2 : Int32)] [(.ref y2), (.int (2 : Int32)), (.ref b2)])) st25 ?_
  clear st25
  obtain ⟨cl26, Ar26, q26, S26, N26, H26, G26⟩ := id V20
  have hin26 : ¬ ((2 : Int32) < 0 ∨ cl26.slots.size ≤ ((2 : Int32)).toNatClampNeg) := inb_of S26 ⟨by decide, by decide⟩
  have f27 := Ins.ext E2 I_y2
  have f28 := Ins.wr W10 f27
  have f29 := Ins.wr W20 f28
  obtain ⟨T30, h30, X30, e30, W30, st30⟩ := stR X25 hx hZ eq25 Ar26 (j := (2 : Int32)) hin26 rfl (Sto.of Ar26 (q26 ▸ OV) f29) (g := (mkF m 22 #[rv u, rv b2, iv (2 : Int32)] [(.ref y2), (.int (2 : Int32)), (.ref b2)])) rfl rfl (hb hby d37_22)
  have V30 : Arv Z h30 b2 kO (.object "java/lang/Object") (5 : Int32) [(.ref y0), (.ref y1), (.ref y2), .null, .null] .null := Arv.set Ar26 q26 S26 N26 H26 G26 rfl W30 2 rfl (Nat.le_of_ble_eq_true rfl)
  have Nx30 := Fr.snoc X30 N25 fr2
  refine own_st (T' := T30) (g' := (mkF m 23 #[rv u, rv b2, iv (2 : Int32)] [])) st30 ?_
  clear hin26 G26 H26 N26 S26 q26 Ar26 cl26 st30
  refine own_st (T' := T30) (g' := (mkF m 26 #[rv u, rv b2, iv (3 : Int32)] [])) (fun _ k_ => XS.iinc X30.here hx rfl (hb hby d37_23) rfl (l' := #[rv u, rv b2, iv (3 : Int32)]) rfl k_) ?_
  refine own_st (T' := T30) (g' := (mkF m 8 #[rv u, rv b2, iv (3 : Int32)] [])) (fun _ k_ => XS.goto X30.here hx rfl (pc0 := 26) (pc' := 8) rfl (hb hby d37_26) (by decide) (by decide) k_) ?_
  refine own_st (T' := T30) (g' := (mkF m 9 #[rv u, rv b2, iv (3 : Int32)] [(.int (3 : Int32))])) (fun _ k_ => XS.iloadN X30.here hx rfl (hb hby d37_8) rfl  k_) ?_
  refine own_st (T' := T30) (g' := (mkF m 10 #[rv u, rv b2, iv (3 : Int32)] [(.ref u), (.int (3 : Int32))])) (fun _ k_ => XS.aloadN X30.here hx rfl (hb hby d37_9) rfl rfl  k_) ?_
  have f32 := f22.other W30 ne12
  obtain ⟨cl31, Ar31, -, S31, N31, -, -⟩ := id f32
  refine own_st (T' := T30) (g' := (mkF m 11 #[rv u, rv b2, iv (3 : Int32)] [(.int (5 : Int32)), (.int (3 : Int32))])) (fun t_ k_ => X30.arraylength hx (by rw [e30]; exact Ar31.1) (State.isArrayOf_alike hZ.alike Ar31.2.1) (g := (mkF m 10 #[rv u, rv b2, iv (3 : Int32)] [(.ref u), (.int (3 : Int32))])) rfl rfl (hb hby d37_10) _ (by rw [len_of S31 N31]; exact k_)) ?_
  refine own_st (T' := T30) (g' := (mkF m 14 #[rv u, rv b2, iv (3 : Int32)] [])) (fun _ k_ => XS.icmpNo X30.here hx rfl (hb hby d37_11) rfl (tlt (by decide : (3 : Int32) < (5 : Int32))).2.1 k_) ?_
  refine own_st (T' := T30) (g' := (mkF m 15 #[rv u, rv b2, iv (3 : Int32)] [(.ref b2)])) (fun _ k_ => XS.aloadN X30.here hx rfl (hb hby d37_14) rfl rfl  k_) ?_
  refine own_st (T' := T30) (g' := (mkF m 16 #[rv u, rv b2, iv (3 : Int32)] [(.int (3 : Int32)), (.ref b2)])) (fun _ k_ => XS.iloadN X30.here hx rfl (hb hby d37_15) rfl  k_) ?_
  refine own_st (T' := T30) (g' := (mkF m 17 #[rv u, rv b2, iv (3 : Int32)] [(.ref u), (.int (3 : Int32)), (.ref b2)])) (fun _ k_ => XS.aloadN X30.here hx rfl (hb hby d37_16) rfl rfl  k_) ?_
  refine own_st (T' := T30) (g' := (mkF m 18 #[rv u, rv b2, iv (3 : Int32)] [(.int (3 : Int32)), (.ref u), (.int (3 : Int32)), (.ref b2)])) (fun _ k_ => XS.iloadN X30.here hx rfl (hb hby d37_17) rfl  k_) ?_
  obtain ⟨cl33, Ar33, q33, S33, N33, H33, G33⟩ := id f32
  have hin33 : ¬ ((3 : Int32) < 0 ∨ cl33.slots.size ≤ ((3 : Int32)).toNatClampNeg) := inb_of S33 ⟨by decide, by decide⟩
  refine own_st (T' := T30) (g' := (mkF m 19 #[rv u, rv b2, iv (3 : Int32)] [(.ref y3), (.int (3 : Int32)), (.ref b2)])) (X30.aaload hx (j := (3 : Int32)) (v := (.ref y3)) (by rw [e30]; exact Ar33.1) (State.isArrayOf_alike hZ.alike Ar33.2.1) rfl Ar33.2.2 hin33 (H33.at hin33 rfl) (g := (mkF m 18 #[rv u, rv b2, iv (3 : Int32)] [(.int (3 : Int32)), (.ref u), (.int (3 : Int32)), (.ref b2)])) rfl rfl (hb hby d37_18)) ?_
  clear hin33 G33 H33 N33 S33 q33 Ar33 cl33
  have f34 := f24.wr W30 fr2
  obtain ⟨_, T35, L35, X35, hQ35, st35⟩ := own_callS X30 hx (y := own_m17) hown (mvT hZ (wd hw 249 rfl)) (mvT hZ (wd hw 199 rfl)) (mvT hZ (wd hw 200 rfl)) (mvT hZ (wd hw 201 rfl)) (by decide) (backOf (W := 2) (rm_rnn l Z a0 hw [] y3 h30 n0 f34) hZ (wd hw 201 rfl) (wd hw 200 rfl) (by decide) (by decide)) (g := (mkF m 19 #[rv u, rv b2, iv (3 : Int32)] [(.ref y3), (.int (3 : Int32)), (.ref b2)])) rfl (by rw [hml]; rfl) (argsL := [(.ref y3)]) (rest := [(.int (3 : Int32)), (.ref b2)]) (lenOf pd__Ljava_lang_Object__Ljava_lang_Object_ rfl) rfl (by show 2 * 0 + _ ≤ _; exact Nat.le_of_eq rfl) (hb hby d37_19) rfl e30 (by decide) (by decide) (c' := 1) (s' := 5) rfl rfl
  obtain ⟨rfl, Nq35, eq35⟩ := hQ35
  have N35 := Fr.app Nx30 Nq35
  refine own_st (T' := T35) (g' := (mkF m 22 #[rv u, rv b2, iv (3 : Int32)] [(.ref y3), (.int (3 : Int32)), (.ref b2)])) st35 ?_
  clear st35
  obtain ⟨cl36, Ar36, q36, S36, N36, H36, G36⟩ := id V30
  have hin36 : ¬ ((3 : Int32) < 0 ∨ cl36.slots.size ≤ ((3 : Int32)).toNatClampNeg) := inb_of S36 ⟨by decide, by decide⟩
  have f37 := Ins.ext E2 I_y3
  have f38 := Ins.wr W10 f37
  have f39 := Ins.wr W20 f38
  have f40 := Ins.wr W30 f39
  obtain ⟨T41, h41, X41, e41, W41, st41⟩ := stR X35 hx hZ eq35 Ar36 (j := (3 : Int32)) hin36 rfl (Sto.of Ar36 (q36 ▸ OV) f40) (g := (mkF m 22 #[rv u, rv b2, iv (3 : Int32)] [(.ref y3), (.int (3 : Int32)), (.ref b2)])) rfl rfl (hb hby d37_22)
  have V41 : Arv Z h41 b2 kO (.object "java/lang/Object") (5 : Int32) [(.ref y0), (.ref y1), (.ref y2), (.ref y3), .null] .null := Arv.set Ar36 q36 S36 N36 H36 G36 rfl W41 3 rfl (Nat.le_of_ble_eq_true rfl)
  have Nx41 := Fr.snoc X41 N35 fr2
  refine own_st (T' := T41) (g' := (mkF m 23 #[rv u, rv b2, iv (3 : Int32)] [])) st41 ?_
  clear hin36 G36 H36 N36 S36 q36 Ar36 cl36 st41
  refine own_st (T' := T41) (g' := (mkF m 26 #[rv u, rv b2, iv (4 : Int32)] [])) (fun _ k_ => XS.iinc X41.here hx rfl (hb hby d37_23) rfl (l' := #[rv u, rv b2, iv (4 : Int32)]) rfl k_) ?_
  refine own_st (T' := T41) (g' := (mkF m 8 #[rv u, rv b2, iv (4 : Int32)] [])) (fun _ k_ => XS.goto X41.here hx rfl (pc0 := 26) (pc' := 8) rfl (hb hby d37_26) (by decide) (by decide) k_) ?_
  refine own_st (T' := T41) (g' := (mkF m 9 #[rv u, rv b2, iv (4 : Int32)] [(.int (4 : Int32))])) (fun _ k_ => XS.iloadN X41.here hx rfl (hb hby d37_8) rfl  k_) ?_
  refine own_st (T' := T41) (g' := (mkF m 10 #[rv u, rv b2, iv (4 : Int32)] [(.ref u), (.int (4 : Int32))])) (fun _ k_ => XS.aloadN X41.here hx rfl (hb hby d37_9) rfl rfl  k_) ?_
  have f43 := f32.other W41 ne12
  obtain ⟨cl42, Ar42, -, S42, N42, -, -⟩ := id f43
  refine own_st (T' := T41) (g' := (mkF m 11 #[rv u, rv b2, iv (4 : Int32)] [(.int (5 : Int32)), (.int (4 : Int32))])) (fun t_ k_ => X41.arraylength hx (by rw [e41]; exact Ar42.1) (State.isArrayOf_alike hZ.alike Ar42.2.1) (g := (mkF m 10 #[rv u, rv b2, iv (4 : Int32)] [(.ref u), (.int (4 : Int32))])) rfl rfl (hb hby d37_10) _ (by rw [len_of S42 N42]; exact k_)) ?_
  refine own_st (T' := T41) (g' := (mkF m 14 #[rv u, rv b2, iv (4 : Int32)] [])) (fun _ k_ => XS.icmpNo X41.here hx rfl (hb hby d37_11) rfl (tlt (by decide : (4 : Int32) < (5 : Int32))).2.1 k_) ?_
  refine own_st (T' := T41) (g' := (mkF m 15 #[rv u, rv b2, iv (4 : Int32)] [(.ref b2)])) (fun _ k_ => XS.aloadN X41.here hx rfl (hb hby d37_14) rfl rfl  k_) ?_
  refine own_st (T' := T41) (g' := (mkF m 16 #[rv u, rv b2, iv (4 : Int32)] [(.int (4 : Int32)), (.ref b2)])) (fun _ k_ => XS.iloadN X41.here hx rfl (hb hby d37_15) rfl  k_) ?_
  refine own_st (T' := T41) (g' := (mkF m 17 #[rv u, rv b2, iv (4 : Int32)] [(.ref u), (.int (4 : Int32)), (.ref b2)])) (fun _ k_ => XS.aloadN X41.here hx rfl (hb hby d37_16) rfl rfl  k_) ?_
  refine own_st (T' := T41) (g' := (mkF m 18 #[rv u, rv b2, iv (4 : Int32)] [(.int (4 : Int32)), (.ref u), (.int (4 : Int32)), (.ref b2)])) (fun _ k_ => XS.iloadN X41.here hx rfl (hb hby d37_17) rfl  k_) ?_
  obtain ⟨cl44, Ar44, q44, S44, N44, H44, G44⟩ := id f43
  have hin44 : ¬ ((4 : Int32) < 0 ∨ cl44.slots.size ≤ ((4 : Int32)).toNatClampNeg) := inb_of S44 ⟨by decide, by decide⟩
  refine own_st (T' := T41) (g' := (mkF m 19 #[rv u, rv b2, iv (4 : Int32)] [(.ref y4), (.int (4 : Int32)), (.ref b2)])) (X41.aaload hx (j := (4 : Int32)) (v := (.ref y4)) (by rw [e41]; exact Ar44.1) (State.isArrayOf_alike hZ.alike Ar44.2.1) rfl Ar44.2.2 hin44 (H44.at hin44 rfl) (g := (mkF m 18 #[rv u, rv b2, iv (4 : Int32)] [(.int (4 : Int32)), (.ref u), (.int (4 : Int32)), (.ref b2)])) rfl rfl (hb hby d37_18)) ?_
  clear hin44 G44 H44 N44 S44 q44 Ar44 cl44
  have f45 := f34.wr W41 fr2
  obtain ⟨_, T46, L46, X46, hQ46, st46⟩ := own_callS X41 hx (y := own_m17) hown (mvT hZ (wd hw 249 rfl)) (mvT hZ (wd hw 199 rfl)) (mvT hZ (wd hw 200 rfl)) (mvT hZ (wd hw 201 rfl)) (by decide) (backOf (W := 2) (rm_rnn l Z a0 hw [] y4 h41 n0 f45) hZ (wd hw 201 rfl) (wd hw 200 rfl) (by decide) (by decide)) (g := (mkF m 19 #[rv u, rv b2, iv (4 : Int32)] [(.ref y4), (.int (4 : Int32)), (.ref b2)])) rfl (by rw [hml]; rfl) (argsL := [(.ref y4)]) (rest := [(.int (4 : Int32)), (.ref b2)]) (lenOf pd__Ljava_lang_Object__Ljava_lang_Object_ rfl) rfl (by show 2 * 0 + _ ≤ _; exact Nat.le_of_eq rfl) (hb hby d37_19) rfl e41 (by decide) (by decide) (c' := 1) (s' := 5) rfl rfl
  obtain ⟨rfl, Nq46, eq46⟩ := hQ46
  have N46 := Fr.app Nx41 Nq46
  refine own_st (T' := T46) (g' := (mkF m 22 #[rv u, rv b2, iv (4 : Int32)] [(.ref y4), (.int (4 : Int32)), (.ref b2)])) st46 ?_
  clear st46
  obtain ⟨cl47, Ar47, q47, S47, N47, H47, G47⟩ := id V41
  have hin47 : ¬ ((4 : Int32) < 0 ∨ cl47.slots.size ≤ ((4 : Int32)).toNatClampNeg) := inb_of S47 ⟨by decide, by decide⟩
  have f48 := Ins.ext E2 I_y4
  have f49 := Ins.wr W10 f48
  have f50 := Ins.wr W20 f49
  have f51 := Ins.wr W30 f50
  have f52 := Ins.wr W41 f51
  obtain ⟨T53, h53, X53, e53, W53, st53⟩ := stR X46 hx hZ eq46 Ar47 (j := (4 : Int32)) hin47 rfl (Sto.of Ar47 (q47 ▸ OV) f52) (g := (mkF m 22 #[rv u, rv b2, iv (4 : Int32)] [(.ref y4), (.int (4 : Int32)), (.ref b2)])) rfl rfl (hb hby d37_22)
  have V53 : Arv Z h53 b2 kO (.object "java/lang/Object") (5 : Int32) [(.ref y0), (.ref y1), (.ref y2), (.ref y3), (.ref y4)] .null := Arv.set Ar47 q47 S47 N47 H47 G47 rfl W53 4 rfl (Nat.le_of_ble_eq_true rfl)
  have Nx53 := Fr.snoc X53 N46 fr2
  refine own_st (T' := T53) (g' := (mkF m 23 #[rv u, rv b2, iv (4 : Int32)] [])) st53 ?_
  clear hin47 G47 H47 N47 S47 q47 Ar47 cl47 st53
  refine own_st (T' := T53) (g' := (mkF m 26 #[rv u, rv b2, iv (5 : Int32)] [])) (fun _ k_ => XS.iinc X53.here hx rfl (hb hby d37_23) rfl (l' := #[rv u, rv b2, iv (5 : Int32)]) rfl k_) ?_
  refine own_st (T' := T53) (g' := (mkF m 8 #[rv u, rv b2, iv (5 : Int32)] [])) (fun _ k_ => XS.goto X53.here hx rfl (pc0 := 26) (pc' := 8) rfl (hb hby d37_26) (by decide) (by decide) k_) ?_
  refine own_st (T' := T53) (g' := (mkF m 9 #[rv u, rv b2, iv (5 : Int32)] [(.int (5 : Int32))])) (fun _ k_ => XS.iloadN X53.here hx rfl (hb hby d37_8) rfl  k_) ?_
  refine own_st (T' := T53) (g' := (mkF m 10 #[rv u, rv b2, iv (5 : Int32)] [(.ref u), (.int (5 : Int32))])) (fun _ k_ => XS.aloadN X53.here hx rfl (hb hby d37_9) rfl rfl  k_) ?_
  have f55 := f43.other W53 ne12
  obtain ⟨cl54, Ar54, -, S54, N54, -, -⟩ := id f55
  refine own_st (T' := T53) (g' := (mkF m 11 #[rv u, rv b2, iv (5 : Int32)] [(.int (5 : Int32)), (.int (5 : Int32))])) (fun t_ k_ => X53.arraylength hx (by rw [e53]; exact Ar54.1) (State.isArrayOf_alike hZ.alike Ar54.2.1) (g := (mkF m 10 #[rv u, rv b2, iv (5 : Int32)] [(.ref u), (.int (5 : Int32))])) rfl rfl (hb hby d37_10) _ (by rw [len_of S54 N54]; exact k_)) ?_
  refine own_st (T' := T53) (g' := (mkF m 29 #[rv u, rv b2, iv (5 : Int32)] [])) (fun _ k_ => XS.icmpYes X53.here hx rfl (pc0 := 11) (pc' := 29) rfl (hb hby d37_11) rfl (flt (by decide : ¬ ((5 : Int32) < (5 : Int32)))).2.1 (by decide) (by decide) k_) ?_
  have f56 := f45.wr W53 fr2
  have f57 := (Keep.refl h0 []).ext E2
  have f58 := f57.wr W10 (Or.inr sz2)
  have f59 := f58.wr W20 (Or.inr sz2)
  have f60 := f59.wr W30 (Or.inr sz2)
  have f61 := f60.wr W41 (Or.inr sz2)
  have f62 := f61.wr W53 (Or.inr sz2)
  obtain ⟨T63, h63, X63, e63, E63, A63, D63, -, st63⟩ := newO X53 hx hZ hown (wd hw 134 rfl) (wd hw 250 rfl) (wd hw 251 rfl) e53 (g := (mkF m 29 #[rv u, rv b2, iv (5 : Int32)] [])) rfl (hb hby d37_29) (by decide) (by decide)
  obtain ⟨b63, g63⟩ : ∃ z, z = h53.size := ⟨_, rfl⟩
  rw [← g63] at A63 D63 st63
  have fr63 : n0 ≤ b63 := Nat.le_trans (own_z f56) (Nat.le_of_eq g63.symm)
  have sz63 : h0.size ≤ b63 := Nat.le_trans f62.1 (Nat.le_of_eq g63.symm)
  have F63_elements : Fld Z h63 b63 "java/util/ImmutableCollections$ListN" "elements" "[Ljava/lang/Object;" .null := D63 (Or.inr (wd hw 261 rfl)) (ty := (.array (.object "java/lang/Object"))) (by decide)
  have F63_allowNulls : Fld Z h63 b63 "java/util/ImmutableCollections$ListN" "allowNulls" "Z" (.int (0 : Int32)) := D63 (Or.inr (wd hw 263 rfl)) (ty := .boolean) (by decide)
  refine own_st (T' := T63) (g' := (mkF m 32 #[rv u, rv b2, iv (5 : Int32)] [(.ref b63)])) st63 ?_
  clear st63
  refine own_st (T' := T63) (g' := (mkF m 33 #[rv u, rv b2, iv (5 : Int32)] [(.ref b63), (.ref b63)])) (fun _ k_ => XS.dup X63.here hx rfl (hb hby d37_32) rfl rfl k_) ?_
  refine own_st (T' := T63) (g' := (mkF m 34 #[rv u, rv b2, iv (5 : Int32)] [(.ref b2), (.ref b63), (.ref b63)])) (fun _ k_ => XS.aloadN X63.here hx rfl (hb hby d37_33) rfl rfl  k_) ?_
  refine own_st (T' := T63) (g' := (mkF m 35 #[rv u, rv b2, iv (5 : Int32)] [(.int (0 : Int32)), (.ref b2), (.ref b63), (.ref b63)])) (fun _ k_ => XS.iconst X63.here hx rfl (hb hby d37_34) k_) ?_
  have f64 := f56.ext E63
  obtain ⟨_, T65, L65, X65, hQ65, st65⟩ := own_callIN X63 hx (y := own_m22) rfl hown (Cond.methodLinkNest_wide hZ (wd hw 252 rfl)) (mvT hZ (wd hw 253 rfl)) (mvT hZ (wd hw 255 rfl)) (by decide) (backOf (W := 1) (rm_lni l Z a0 hw [] b63 b2 h63 n0 f64 A63 F63_elements F63_allowNulls fr63) hZ (wd hw 255 rfl) (wd hw 251 rfl) (by decide) (by decide)) (g := (mkF m 35 #[rv u, rv b2, iv (5 : Int32)] [(.int (0 : Int32)), (.ref b2), (.ref b63), (.ref b63)])) rfl (by rw [hml]; rfl) (a := b63) (argsL := [(.ref b2), (.int (0 : Int32))]) (rest := [(.ref b63)]) (lenOf pd___Ljava_lang_Object_Z_V rfl) rfl (by show 2 * 0 + _ ≤ _; exact Nat.le_of_eq rfl) (hb hby d37_35) rfl e63 (by decide) (by decide) (c' := 2) (s' := 7) rfl rfl
  obtain ⟨rfl, Nq65, K65, fq65_0, fq65_1, fq65_2⟩ := hQ65
  have N65 := Fr.app Nx53 Nq65
  refine own_st (T' := T65) (g' := (mkF m 38 #[rv u, rv b2, iv (5 : Int32)] [(.ref b63)])) st65 ?_
  clear st65
  have f66 := f62.ext E63
  have f67 := f66.trans K65 (allS (Or.inr sz63) all0)
  have f68 := V53.ext E63
  have ne69 : b2 ≠ b63 := Nat.ne_of_lt (Nat.lt_of_lt_of_le (Nat.lt_of_lt_of_le (Nat.lt_of_lt_of_le (Nat.lt_of_lt_of_le (Nat.lt_of_lt_of_le (Nat.lt_of_lt_of_le V2.lt (Nat.le_of_eq (Wr.size W10).symm)) (Nat.le_of_eq (Wr.size W20).symm)) (Nat.le_of_eq (Wr.size W30).symm)) (Nat.le_of_eq (Wr.size W41).symm)) (Nat.le_of_eq (Wr.size W53).symm)) (Nat.le_of_eq g63.symm))
  have f70 := f68.keep K65 (ninS ne69 nin0)
  exact own_retA X65 hx hret rfl rfl hlk (hb hby d37_38) (by decide) (by decide) ⟨b63, b2, rfl, N65, f67, fq65_0, fq65_1, fq65_2, f70, sz63, sz2⟩
theorem ef_lof_5 (m : MethodId) (x0 : Addr) : entryFrame m #[(.ref x0)] 2 = mkF m 0 #[rv x0, .unset] [] := by first | (simp [entryFrame, mkF, argsToLocals, Value.category]; done) | rfl
def Q_lof_5 (Z : State) (u : Addr) (kO : ClassId) (y0 : Addr) (y1 : Addr) (y2 : Addr) (y3 : Addr) (y4 : Addr) (h0 : Heap) (n0 : Nat) (v : Option Value) (h : Heap) (L : List Loc) : Prop := ∃ (x : Addr) (uu : Addr), (v = some (.ref x)) ∧ (Fr n0 L) ∧ (Keep h0 h []) ∧ (Exa Z h x "java/util/ImmutableCollections$ListN") ∧ (Fld Z h x "java/util/ImmutableCollections$ListN" "elements" "[Ljava/lang/Object;" (.ref uu)) ∧ (Fld Z h x "java/util/ImmutableCollections$ListN" "allowNulls" "Z" (.int (0 : Int32))) ∧ (Arv Z h uu kO (.object "java/lang/Object") (5 : Int32) [(.ref y0), (.ref y1), (.ref y2), (.ref y3), (.ref y4)] .null) ∧ (h0.size ≤ x) ∧ (h0.size ≤ uu)
set_option maxRecDepth 65536 in
set_option maxHeartbeats 40000000 in
theorem rm_lof_5 (l : Launch) (Z : State) (a0 : Array Value) (hw : ∀ d ∈ tables_1, d.before a0 Z = true) (ws : List Jvm.Cond) (u : Addr) (kO : ClassId) (y0 : Addr) (y1 : Addr) (y2 : Addr) (y3 : Addr) (y4 : Addr) (h0 : Heap) (n0 : Nat) (O0 : Old Z n0 h0) (V_u : Arv Z h0 u kO (.object "java/lang/Object") (5 : Int32) [(.ref y0), (.ref y1), (.ref y2), (.ref y3), (.ref y4)] .null) (OV : Ovr Z kO "java/lang/Object") (FC : Z.vm.findClass "[Ljava/lang/Object;" = some kO) (I_y0 : Ins Z h0 y0 "java/lang/Object" true) (I_y1 : Ins Z h0 y1 "java/lang/Object" true) (I_y2 : Ins Z h0 y2 "java/lang/Object" true) (I_y3 : Ins Z h0 y3 "java/lang/Object" true) (I_y4 : Ins Z h0 y4 "java/lang/Object" true) :
    own_MF l own_m26 (Jvm.Cond.code own_m26 jdk_40_method_47_code 2 (some (.object "java/util/List")) :: ws) ({ frames := 6, cells := 2, slots := 7, locals := 77 } : Room) #[(.ref u)] Z h0 (Q_lof_5 Z u kO y0 y1 y2 y3 y4 h0 n0) := by
  refine own_met (own := "java/util/List") (nme := "of") rfl rfl (plainFor_of_name pn_12) ?_
  intro p e s m below meth c s₁ hx hby hml hown hnm X0 e0 hret hlk hZ
  have N0 := Fr.nil n0
  rw [ef_lof_5 m u]
  refine own_st (T' := s₁) (g' := (mkF m 1 #[rv u, .unset] [(.ref u)])) (fun _ k_ => XS.aloadN X0.here hx rfl (hb hby d27_0) rfl rfl  k_) ?_
  obtain ⟨cl1, Ar1, -, S1, N1, -, -⟩ := id V_u
  refine own_st (T' := s₁) (g' := (mkF m 2 #[rv u, .unset] [(.int (5 : Int32))])) (fun t_ k_ => X0.arraylength hx (by rw [e0]; exact Ar1.1) (State.isArrayOf_alike hZ.alike Ar1.2.1) (g := (mkF m 1 #[rv u, .unset] [(.ref u)])) rfl rfl (hb hby d27_1) _ (by rw [len_of S1 N1]; exact k_)) ?_
  refine own_st (T' := s₁) (g' := (mkF m 59 #[rv u, .unset] [])) (fun t_ k_ => X0.tableswitchOut hx (g := (mkF m 2 #[rv u, .unset] [(.int (5 : Int32))])) rfl (k := (5 : Int32)) (rest := []) rfl (hb hby d27_2) (by decide) (show (0 : Int) ≤ ((2 : Nat) : Int) + 57 by decide) _ k_) ?_
  refine own_st (T' := s₁) (g' := (mkF m 60 #[rv u, .unset] [(.ref u)])) (fun _ k_ => XS.aloadN X0.here hx rfl (hb hby d27_59) rfl rfl  k_) ?_
  obtain ⟨_, T2, L2, X2, hQ2, st2⟩ := own_callS X0 hx (y := own_m31) hown (mvT hZ (wd hw 245 rfl)) (mvT hZ (wd hw 246 rfl)) (mvT hZ (wd hw 127 rfl)) (mvT hZ (wd hw 247 rfl)) (by decide) (backOf (W := 0) (rm_lfa_5 l Z a0 hw [] u kO y0 y1 y2 y3 y4 h0 n0 O0 V_u OV FC I_y0 I_y1 I_y2 I_y3 I_y4) hZ (wd hw 247 rfl) (wd hw 127 rfl) (by decide) (by decide)) (g := (mkF m 60 #[rv u, .unset] [(.ref u)])) rfl (by rw [hml]; rfl) (argsL := [(.ref u)]) (rest := []) (lenOf pd___Ljava_lang_Object__Ljava_util_List_ rfl) rfl (by show 2 * 0 + _ ≤ _; exact Nat.le_of_eq rfl) (hb hby d27_60) rfl e0 (by decide) (by decide) (c' := 2) (s' := 7) rfl rfl
  obtain ⟨x2, uu2, rfl, Nq2, K2, fq2_0, fq2_1, fq2_2, fq2_3, xq2_fresh_x, xq2_fresh_uu⟩ := hQ2
  have N2 := Fr.app N0 Nq2
  refine own_st (T' := T2) (g' := (mkF m 63 #[rv u, .unset] [(.ref x2)])) st2 ?_
  clear st2
  have f3 := (Keep.refl h0 []).trans K2 all0
  exact own_retA X2 hx hret rfl rfl hlk (hb hby d27_63) (by decide) (by decide) ⟨x2, uu2, rfl, N2, f3, fq2_0, fq2_1, fq2_2, fq2_3, (Nat.le_trans (Keep.refl h0 []).1 xq2_fresh_x), (Nat.le_trans (Keep.refl h0 []).1 xq2_fresh_uu)⟩
theorem ef_lcp_5 (m : MethodId) (x0 : Addr) : entryFrame m #[(.ref x0)] 2 = mkF m 0 #[rv x0, .unset] [] := by first | (simp [entryFrame, mkF, argsToLocals, Value.category]; done) | rfl
def Q_lcp_5 (Z : State) (a : Addr) (t : Addr) (kO : ClassId) (mir : Addr) (y0 : Addr) (y1 : Addr) (y2 : Addr) (y3 : Addr) (y4 : Addr) (h0 : Heap) (n0 : Nat) (v : Option Value) (h : Heap) (L : List Loc) : Prop := ∃ (x : Addr) (uu : Addr), (v = some (.ref x)) ∧ (Fr n0 L) ∧ (Keep h0 h []) ∧ (Exa Z h x "java/util/ImmutableCollections$ListN") ∧ (Fld Z h x "java/util/ImmutableCollections$ListN" "elements" "[Ljava/lang/Object;" (.ref uu)) ∧ (Fld Z h x "java/util/ImmutableCollections$ListN" "allowNulls" "Z" (.int (0 : Int32))) ∧ (Arv Z h uu kO (.object "java/lang/Object") (5 : Int32) [(.ref y0), (.ref y1), (.ref y2), (.ref y3), (.ref y4)] .null) ∧ (h0.size ≤ x) ∧ (h0.size ≤ uu)
set_option maxRecDepth 65536 in
set_option maxHeartbeats 40000000 in
theorem rm_lcp_5 (l : Launch) (Z : State) (a0 : Array Value) (hw : ∀ d ∈ tables_1, d.before a0 Z = true) (ws : List Jvm.Cond) (a : Addr) (t : Addr) (kO : ClassId) (mir : Addr) (y0 : Addr) (y1 : Addr) (y2 : Addr) (y3 : Addr) (y4 : Addr) (h0 : Heap) (n0 : Nat) (O0 : Old Z n0 h0) (E_a : Exa Z h0 a "java/util/ArrayList") (Fe : Fld Z h0 a "java/util/ArrayList" "elementData" "[Ljava/lang/Object;" (.ref t)) (Fz : Fld Z h0 a "java/util/ArrayList" "size" "I" (.int (5 : Int32))) (V_t : Arv Z h0 t kO (.object "java/lang/Object") (10 : Int32) [(.ref y0), (.ref y1), (.ref y2), (.ref y3), (.ref y4), .null, .null, .null, .null, .null] .null) (OV : Ovr Z kO "java/lang/Object") (FC : Z.vm.findClass "[Ljava/lang/Object;" = some kO) (MIR : own_Mir Z "[Ljava/lang/Object;" mir) (I_y0 : Ins Z h0 y0 "java/lang/Object" true) (I_y1 : Ins Z h0 y1 "java/lang/Object" true) (I_y2 : Ins Z h0 y2 "java/lang/Object" true) (I_y3 : Ins Z h0 y3 "java/lang/Object" true) (I_y4 : Ins Z h0 y4 "java/lang/Object" true) :
    own_MF l own_m29 (Jvm.Cond.code own_m29 jdk_56_method_3_code 2 (some (.object "java/util/List")) :: ws) ({ frames := 7, cells := 3, slots := 12, locals := 90 } : Room) #[(.ref a)] Z h0 (Q_lcp_5 Z a t kO mir y0 y1 y2 y3 y4 h0 n0) := by
  refine own_met (own := "java/util/ImmutableCollections") (nme := "listCopy") rfl rfl (plainFor_of_name pn_13) ?_
  intro p e s m below meth c s₁ hx hby hml hown hnm X0 e0 hret hlk hZ
  have N0 := Fr.nil n0
  rw [ef_lcp_5 m a]
  refine own_st (T' := s₁) (g' := (mkF m 1 #[rv a, .unset] [(.ref a)])) (fun _ k_ => XS.aloadN X0.here hx rfl (hb hby d21_0) rfl rfl  k_) ?_
  obtain ⟨T1, X1, e1, st1⟩ := instNo X0 hx hZ hown (wd hw 129 rfl) e0 E_a (own_no0 hw) (g := (mkF m 1 #[rv a, .unset] [(.ref a)])) rfl rfl (hb hby d21_1)
  refine own_st (T' := T1) (g' := (mkF m 4 #[rv a, .unset] [(.int (0 : Int32))])) st1 ?_
  clear st1
  refine own_st (T' := T1) (g' := (mkF m 7 #[rv a, .unset] [])) (fun _ k_ => XS.ifNo X1.here hx rfl (hb hby d21_4) rfl ((if0 _ _).trans (teq (rfl : (0 : Int32) = (0 : Int32))).2) k_) ?_
  refine own_st (T' := T1) (g' := (mkF m 8 #[rv a, .unset] [(.ref a)])) (fun _ k_ => XS.aloadN X1.here hx rfl (hb hby d21_7) rfl rfl  k_) ?_
  obtain ⟨T2, X2, e2, st2⟩ := instNo X1 hx hZ hown (wd hw 134 rfl) e1 E_a (own_no1 hw) (g := (mkF m 8 #[rv a, .unset] [(.ref a)])) rfl rfl (hb hby d21_8)
  refine own_st (T' := T2) (g' := (mkF m 11 #[rv a, .unset] [(.int (0 : Int32))])) st2 ?_
  clear st2
  refine own_st (T' := T2) (g' := (mkF m 31 #[rv a, .unset] [])) (fun _ k_ => XS.ifYes X2.here hx rfl (pc0 := 11) (pc' := 31) rfl (hb hby d21_11) rfl ((if0 _ _).trans (teq (rfl : (0 : Int32) = (0 : Int32))).1) (by decide) (by decide) k_) ?_
  refine own_st (T' := T2) (g' := (mkF m 32 #[rv a, .unset] [(.ref a)])) (fun _ k_ => XS.aloadN X2.here hx rfl (hb hby d21_31) rfl rfl  k_) ?_
  obtain ⟨cq3, kq3, q3a, q3b, q3c⟩ := isOf hZ e2 E_a
  obtain ⟨_, T3, L3, X3, hQ3, st3⟩ := own_callF X2 hx (xi := own_m27) (y := own_m19) hown (mvT hZ (wd hw 135 rfl)) (mvT hZ (wd hw 136 rfl)) (mvT hZ (wd hw 137 rfl)) (mvT hZ (wd hw 138 rfl)) (mvT hZ (wd hw 139 rfl)) (mvT hZ (wd hw 140 rfl)) (mvT hZ (wd hw 141 rfl)) (mvT hZ (wd hw 142 rfl)) (by decide) (backOf (W := 0) (rm_alem l Z a0 hw [] a (5 : Int32) h0 n0 O0 Fz (by decide)) hZ (wd hw 143 rfl) (wd hw 45 rfl) (by decide) (by decide)) q3a q3b q3c (g := (mkF m 32 #[rv a, .unset] [(.ref a)])) rfl (by rw [hml]; rfl) (argsL := []) (rest := []) (lenOf pd___Z rfl) rfl (by show 2 * 0 + _ ≤ _; exact Nat.le_of_eq rfl) (hb hby d21_32) rfl e2 (by decide) (by decide) (c' := 0) (s' := 0) rfl rfl
  clear q3a q3b q3c kq3 cq3
  obtain ⟨rfl, Nq3, eq3⟩ := hQ3
  have N3 := Fr.app N0 Nq3
  refine own_st (T' := T3) (g' := (mkF m 37 #[rv a, .unset] [(.int (0 : Int32))])) st3 ?_
  clear st3
  refine own_st (T' := T3) (g' := (mkF m 44 #[rv a, .unset] [])) (fun _ k_ => XS.ifYes X3.here hx rfl (pc0 := 37) (pc' := 44) rfl (hb hby d21_37) rfl ((if0 _ _).trans (teq (rfl : (0 : Int32) = (0 : Int32))).1) (by decide) (by decide) k_) ?_
  refine own_st (T' := T3) (g' := (mkF m 45 #[rv a, .unset] [(.ref a)])) (fun _ k_ => XS.aloadN X3.here hx rfl (hb hby d21_44) rfl rfl  k_) ?_
  obtain ⟨cq4, kq4, q4a, q4b, q4c⟩ := isOf hZ eq3 E_a
  obtain ⟨_, T4, L4, X4, hQ4, st4⟩ := own_callF X3 hx (xi := own_m28) (y := own_m25) hown (mvT hZ (wd hw 144 rfl)) (mvT hZ (wd hw 145 rfl)) (mvT hZ (wd hw 146 rfl)) (mvT hZ (wd hw 147 rfl)) (mvT hZ (wd hw 148 rfl)) (mvT hZ (wd hw 149 rfl)) (mvT hZ (wd hw 150 rfl)) (mvT hZ (wd hw 142 rfl)) (by decide) (backOf (W := 0) (rm_tar_5 l Z a0 hw [] a t kO mir y0 y1 y2 y3 y4 h0 n0 O0 Fe Fz V_t OV FC MIR I_y0 I_y1 I_y2 I_y3 I_y4) hZ (wd hw 151 rfl) (wd hw 45 rfl) (by decide) (by decide)) q4a q4b q4c (g := (mkF m 45 #[rv a, .unset] [(.ref a)])) rfl (by rw [hml]; rfl) (argsL := []) (rest := []) (lenOf pd____Ljava_lang_Object_ rfl) rfl (by show 2 * 0 + _ ≤ _; exact Nat.le_of_eq rfl) (hb hby d21_45) rfl eq3 (by decide) (by decide) (c' := 1) (s' := 5) rfl rfl
  clear q4a q4b q4c kq4 cq4
  obtain ⟨u4, rfl, Nq4, K4, fq4_0, xq4_fresh_u⟩ := hQ4
  have N4 := Fr.app N3 Nq4
  refine own_st (T' := T4) (g' := (mkF m 50 #[rv a, .unset] [(.ref u4)])) st4 ?_
  clear st4
  have f5 := own_insK I_y0 K4
  have f6 := own_insK I_y1 K4
  have f7 := own_insK I_y2 K4
  have f8 := own_insK I_y3 K4
  have f9 := own_insK I_y4 K4
  have f10 := O0.keep K4 all0
  have f11 := (Keep.refl h0 []).trans K4 all0
  obtain ⟨_, T12, L12, X12, hQ12, st12⟩ := own_callS X4 hx (y := own_m26) hown (mvT hZ (wd hw 174 rfl)) (mvT hZ (wd hw 175 rfl)) (mvT hZ (wd hw 123 rfl)) (mvT hZ (wd hw 176 rfl)) (by decide) (backOf (W := 0) (rm_lof_5 l Z a0 hw [] u4 kO y0 y1 y2 y3 y4 T4.heap n0 f10 fq4_0 OV FC f5 f6 f7 f8 f9) hZ (wd hw 176 rfl) (wd hw 123 rfl) (by decide) (by decide)) (g := (mkF m 50 #[rv a, .unset] [(.ref u4)])) rfl (by rw [hml]; rfl) (argsL := [(.ref u4)]) (rest := []) (lenOf pd___Ljava_lang_Object__Ljava_util_List_ rfl) rfl (by show 2 * 0 + _ ≤ _; exact Nat.le_of_eq rfl) (hb hby d21_50) rfl rfl (by decide) (by decide) (c' := 3) (s' := 12) rfl rfl
  obtain ⟨x12, uu12, rfl, Nq12, K12, fq12_0, fq12_1, fq12_2, fq12_3, xq12_fresh_x, xq12_fresh_uu⟩ := hQ12
  have N12 := Fr.app N4 Nq12
  refine own_st (T' := T12) (g' := (mkF m 53 #[rv a, .unset] [(.ref x12)])) st12 ?_
  clear st12
  have f13 := f11.trans K12 all0
  exact own_retA X12 hx hret rfl rfl hlk (hb hby d21_53) (by decide) (by decide) ⟨x12, uu12, rfl, N12, f13, fq12_0, fq12_1, fq12_2, fq12_3, (Nat.le_trans f11.1 xq12_fresh_x), (Nat.le_trans f11.1 xq12_fresh_uu)⟩
theorem ef_cpy_5 (m : MethodId) (x0 : Addr) : entryFrame m #[(.ref x0)] 1 = mkF m 0 #[rv x0] [] := by first | (simp [entryFrame, mkF, argsToLocals, Value.category]; done) | rfl
def Q_cpy_5 (Z : State) (a : Addr) (t : Addr) (kO : ClassId) (mir : Addr) (y0 : Addr) (y1 : Addr) (y2 : Addr) (y3 : Addr) (y4 : Addr) (h0 : Heap) (n0 : Nat) (v : Option Value) (h : Heap) (L : List Loc) : Prop := ∃ (x : Addr) (uu : Addr), (v = some (.ref x)) ∧ (Fr n0 L) ∧ (Keep h0 h []) ∧ (Exa Z h x "java/util/ImmutableCollections$ListN") ∧ (Fld Z h x "java/util/ImmutableCollections$ListN" "elements" "[Ljava/lang/Object;" (.ref uu)) ∧ (Fld Z h x "java/util/ImmutableCollections$ListN" "allowNulls" "Z" (.int (0 : Int32))) ∧ (Arv Z h uu kO (.object "java/lang/Object") (5 : Int32) [(.ref y0), (.ref y1), (.ref y2), (.ref y3), (.ref y4)] .null) ∧ (h0.size ≤ x) ∧ (h0.size ≤ uu)
set_option maxRecDepth 65536 in
set_option maxHeartbeats 40000000 in
theorem rm_cpy_5 (l : Launch) (Z : State) (a0 : Array Value) (hw : ∀ d ∈ tables_1, d.before a0 Z = true) (ws : List Jvm.Cond) (a : Addr) (t : Addr) (kO : ClassId) (mir : Addr) (y0 : Addr) (y1 : Addr) (y2 : Addr) (y3 : Addr) (y4 : Addr) (h0 : Heap) (n0 : Nat) (O0 : Old Z n0 h0) (E_a : Exa Z h0 a "java/util/ArrayList") (Fe : Fld Z h0 a "java/util/ArrayList" "elementData" "[Ljava/lang/Object;" (.ref t)) (Fz : Fld Z h0 a "java/util/ArrayList" "size" "I" (.int (5 : Int32))) (V_t : Arv Z h0 t kO (.object "java/lang/Object") (10 : Int32) [(.ref y0), (.ref y1), (.ref y2), (.ref y3), (.ref y4), .null, .null, .null, .null, .null] .null) (OV : Ovr Z kO "java/lang/Object") (FC : Z.vm.findClass "[Ljava/lang/Object;" = some kO) (MIR : own_Mir Z "[Ljava/lang/Object;" mir) (I_y0 : Ins Z h0 y0 "java/lang/Object" true) (I_y1 : Ins Z h0 y1 "java/lang/Object" true) (I_y2 : Ins Z h0 y2 "java/lang/Object" true) (I_y3 : Ins Z h0 y3 "java/lang/Object" true) (I_y4 : Ins Z h0 y4 "java/lang/Object" true) :
    own_MF l own_m30 (Jvm.Cond.code own_m30 jdk_40_method_48_code 1 (some (.object "java/util/List")) :: ws) ({ frames := 8, cells := 3, slots := 12, locals := 103 } : Room) #[(.ref a)] Z h0 (Q_cpy_5 Z a t kO mir y0 y1 y2 y3 y4 h0 n0) := by
  refine own_met (own := "java/util/List") (nme := "copyOf") rfl rfl (plainFor_of_name pn_12) ?_
  intro p e s m below meth c s₁ hx hby hml hown hnm X0 e0 hret hlk hZ
  have N0 := Fr.nil n0
  rw [ef_cpy_5 m a]
  refine own_st (T' := s₁) (g' := (mkF m 1 #[rv a] [(.ref a)])) (fun _ k_ => XS.aloadN X0.here hx rfl (hb hby d20_0) rfl rfl  k_) ?_
  obtain ⟨_, T1, L1, X1, hQ1, st1⟩ := own_callS X0 hx (y := own_m29) hown (mvT hZ (wd hw 125 rfl)) (mvT hZ (wd hw 126 rfl)) (mvT hZ (wd hw 127 rfl)) (mvT hZ (wd hw 128 rfl)) (by decide) (backOf (W := 0) (rm_lcp_5 l Z a0 hw [] a t kO mir y0 y1 y2 y3 y4 h0 n0 O0 E_a Fe Fz V_t OV FC MIR I_y0 I_y1 I_y2 I_y3 I_y4) hZ (wd hw 128 rfl) (wd hw 127 rfl) (by decide) (by decide)) (g := (mkF m 1 #[rv a] [(.ref a)])) rfl (by rw [hml]; rfl) (argsL := [(.ref a)]) (rest := []) (lenOf pd__Ljava_util_Collection__Ljava_util_List_ rfl) rfl (by show 2 * 0 + _ ≤ _; exact Nat.le_of_eq rfl) (hb hby d20_1) rfl e0 (by decide) (by decide) (c' := 3) (s' := 12) rfl rfl
  obtain ⟨x1, uu1, rfl, Nq1, K1, fq1_0, fq1_1, fq1_2, fq1_3, xq1_fresh_x, xq1_fresh_uu⟩ := hQ1
  have N1 := Fr.app N0 Nq1
  refine own_st (T' := T1) (g' := (mkF m 4 #[rv a] [(.ref x1)])) st1 ?_
  clear st1
  have f2 := (Keep.refl h0 []).trans K1 all0
  exact own_retA X1 hx hret rfl rfl hlk (hb hby d20_4) (by decide) (by decide) ⟨x1, uu1, rfl, N1, f2, fq1_0, fq1_1, fq1_2, fq1_3, (Nat.le_trans (Keep.refl h0 []).1 xq1_fresh_x), (Nat.le_trans (Keep.refl h0 []).1 xq1_fresh_uu)⟩
theorem d1_0 : decode method_3_code 0 = .ok (.lload_n 0, 1) := by decide +kernel
theorem d1_1 : decode method_3_code 1 = .ok (.bipush 8, 2) := by decide +kernel
theorem d1_3 : decode method_3_code 3 = .ok (.iload_n 2, 1) := by decide +kernel
theorem d1_4 : decode method_3_code 4 = .ok (.imul, 1) := by decide +kernel
theorem d1_5 : decode method_3_code 5 = .ok (.lushr, 1) := by decide +kernel
theorem d1_6 : decode method_3_code 6 = .ok (.ldc2_w 22, 3) := by decide +kernel
theorem d1_9 : decode method_3_code 9 = .ok (.land, 1) := by decide +kernel
theorem d1_10 : decode method_3_code 10 = .ok (.l2i, 1) := by decide +kernel
theorem d1_11 : decode method_3_code 11 = .ok (.i2c, 1) := by decide +kernel
theorem d1_12 : decode method_3_code 12 = .ok (.invokestatic 24, 3) := by decide +kernel
theorem d1_15 : decode method_3_code 15 = .ok (.areturn, 1) := by decide +kernel
theorem pd__C_Ljava_lang_String_ : parseMethodDescriptor "(C)Ljava/lang/String;" = some ⟨[.char], some (.object "java/lang/String")⟩ := by decide +kernel
theorem pn_14 : plainName "com/example/rights_leak_checker/rightsleakchecker/takegrant/BridgeToPinLaw" = true := by first | (simp [plainName, overriddenIn]; done) | decide +kernel
theorem ef_vtx (m : MethodId) (x0 : Int64) (x1 : Int32) : entryFrame m #[(.long x0), (.int x1)] 3 = mkF m 0 #[.val (.long x0), .second, iv x1] [] := by first | (simp [entryFrame, mkF, argsToLocals, Value.category]; done) | rfl
def Q_vtx (Z : State) (ww : Int64) (ii : Int32) (cz : Int32) (h0 : Heap) (n0 : Nat) (v : Option Value) (h : Heap) (L : List Loc) : Prop := ∃ (b : Addr), (v = some (.ref b)) ∧ (Fr n0 L) ∧ (Keep h0 h []) ∧ (Exa Z h b "java/lang/String") ∧ (h0.size ≤ b)
set_option maxRecDepth 65536 in
set_option maxHeartbeats 40000000 in
theorem rm_vtx (l : Launch) (Z : State) (a0 : Array Value) (hw : ∀ d ∈ tables_1, d.before a0 Z = true) (ws : List Jvm.Cond) (ww : Int64) (ii : Int32) (cz : Int32) (h0 : Heap) (n0 : Nat) (O0 : Old Z n0 h0) (SC : Sta Z Z.heap "java/lang/String" "COMPACT_STRINGS" "Z" (.int cz)) (hcz : ¬ cz = (0 : Int32)) (SA : Sta Z Z.heap "java/lang/StringUTF16" "$assertionsDisabled" "Z" (.int (1 : Int32))) (SHI : Sta Z Z.heap "java/lang/StringUTF16" "HI_BYTE_SHIFT" "I" (.int (0 : Int32))) (SLO : Sta Z Z.heap "java/lang/StringUTF16" "LO_BYTE_SHIFT" "I" (.int (8 : Int32))) :
    own_MF l own_m32 (Jvm.Cond.code own_m32 method_3_code 3 (some (.object "java/lang/String")) :: ws) ({ frames := 3, cells := 2, slots := 6, locals := 41 } : Room) #[(.long ww), (.int ii)] Z h0 (Q_vtx Z ww ii cz h0 n0) := by
  refine own_met (own := "com/example/rights_leak_checker/rightsleakchecker/takegrant/BridgeToPinLaw") (nme := "vertex") rfl rfl (plainFor_of_name pn_14) ?_
  intro p e s m below meth c s₁ hx hby hml hown hnm X0 e0 hret hlk hZ
  have N0 := Fr.nil n0
  rw [ef_vtx m ww ii]
  refine own_st (T' := s₁) (g' := (mkF m 1 #[.val (.long ww), .second, iv ii] [(.long ww)])) (fun _ k_ => XS.lloadN X0.here hx rfl (hb hby d1_0) rfl  k_) ?_
  refine own_st (T' := s₁) (g' := (mkF m 3 #[.val (.long ww), .second, iv ii] [(.int (8 : Int32)), (.long ww)])) (fun _ k_ => XS.bipush X0.here hx rfl (hb hby d1_1) k_) ?_
  refine own_st (T' := s₁) (g' := (mkF m 4 #[.val (.long ww), .second, iv ii] [(.int ii), (.int (8 : Int32)), (.long ww)])) (fun _ k_ => XS.iloadN X0.here hx rfl (hb hby d1_3) rfl  k_) ?_
  refine own_st (T' := s₁) (g' := (mkF m 5 #[.val (.long ww), .second, iv ii] [(.int ((8 : Int32) * ii)), (.long ww)])) (fun _ k_ => XS.imul X0.here hx rfl (hb hby d1_4) rfl k_) ?_
  refine own_st (T' := s₁) (g' := (mkF m 6 #[.val (.long ww), .second, iv ii] [(.long ((ww.toUInt64 >>> (((8 : Int32) * ii) &&& 0x3f).toInt64.toUInt64).toInt64))])) (fun _ k_ => XS.lushr X0.here hx rfl (hb hby d1_5) rfl k_) ?_
  refine own_st (T' := s₁) (g' := (mkF m 9 #[.val (.long ww), .second, iv ii] [(.long (255 : Int64)), (.long ((ww.toUInt64 >>> (((8 : Int32) * ii) &&& 0x3f).toInt64.toUInt64).toInt64))])) (X0.ldc2Long hx hown (mvT hZ (wd hw 6 rfl)) (g := (mkF m 6 #[.val (.long ww), .second, iv ii] [(.long ((ww.toUInt64 >>> (((8 : Int32) * ii) &&& 0x3f).toInt64.toUInt64).toInt64))])) rfl (hb hby d1_6)) ?_
  refine own_st (T' := s₁) (g' := (mkF m 10 #[.val (.long ww), .second, iv ii] [(.long (((ww.toUInt64 >>> (((8 : Int32) * ii) &&& 0x3f).toInt64.toUInt64).toInt64) &&& (255 : Int64)))])) (fun _ k_ => XS.land X0.here hx rfl (hb hby d1_9) rfl k_) ?_
  refine own_st (T' := s₁) (g' := (mkF m 11 #[.val (.long ww), .second, iv ii] [(.int ((((ww.toUInt64 >>> (((8 : Int32) * ii) &&& 0x3f).toInt64.toUInt64).toInt64) &&& (255 : Int64)).toInt32))])) (fun _ k_ => XS.l2i X0.here hx rfl (hb hby d1_10) rfl k_) ?_
  refine own_st (T' := s₁) (g' := (mkF m 12 #[.val (.long ww), .second, iv ii] [(.int (((((ww.toUInt64 >>> (((8 : Int32) * ii) &&& 0x3f).toInt64.toUInt64).toInt64) &&& (255 : Int64)).toInt32).toUInt32.toUInt16.toUInt32.toInt32))])) (fun _ k_ => XS.i2c X0.here hx rfl (hb hby d1_11) rfl k_) ?_
  obtain ⟨_, T1, L1, X1, hQ1, st1⟩ := own_callS X0 hx (y := own_m5) hown (mvT hZ (wd hw 7 rfl)) (mvT hZ (wd hw 8 rfl)) (mvT hZ (wd hw 9 rfl)) (mvT hZ (wd hw 10 rfl)) (by decide) (backOf (W := 0) (rm_vof l Z a0 hw [] (((((ww.toUInt64 >>> (((8 : Int32) * ii) &&& 0x3f).toInt64.toUInt64).toInt64) &&& (255 : Int64)).toInt32).toUInt32.toUInt16.toUInt32.toInt32) cz h0 n0 O0 SC hcz SA SHI SLO) hZ (wd hw 10 rfl) (wd hw 9 rfl) (by decide) (by decide)) (g := (mkF m 12 #[.val (.long ww), .second, iv ii] [(.int (((((ww.toUInt64 >>> (((8 : Int32) * ii) &&& 0x3f).toInt64.toUInt64).toInt64) &&& (255 : Int64)).toInt32).toUInt32.toUInt16.toUInt32.toInt32))])) rfl (by rw [hml]; rfl) (argsL := [(.int (((((ww.toUInt64 >>> (((8 : Int32) * ii) &&& 0x3f).toInt64.toUInt64).toInt64) &&& (255 : Int64)).toInt32).toUInt32.toUInt16.toUInt32.toInt32))]) (rest := []) (lenOf pd__C_Ljava_lang_String_ rfl) rfl (by show 2 * 0 + _ ≤ _; exact Nat.le_of_eq rfl) (hb hby d1_12) rfl e0 (by decide) (by decide) (c' := 2) (s' := 6) rfl rfl
  obtain ⟨b1, rfl, Nq1, K1, fq1_0, xq1_fresh_b⟩ := hQ1
  have N1 := Fr.app N0 Nq1
  refine own_st (T' := T1) (g' := (mkF m 15 #[.val (.long ww), .second, iv ii] [(.ref b1)])) st1 ?_
  clear st1
  have f2 := (Keep.refl h0 []).trans K1 all0
  exact own_retA X1 hx hret rfl rfl hlk (hb hby d1_15) (by decide) (by decide) ⟨b1, rfl, N1, f2, fq1_0, (Nat.le_trans (Keep.refl h0 []).1 xq1_fresh_b)⟩
theorem d17_0 : decode method_2_code 0 = .ok (.iload_n 0, 1) := by decide +kernel
theorem d17_1 : decode method_2_code 1 = .ok (.iconst 3, 1) := by decide +kernel
theorem d17_2 : decode method_2_code 2 = .ok (.iand, 1) := by decide +kernel
theorem d17_3 : decode method_2_code 3 = .ok (.istore_n 1, 1) := by decide +kernel
theorem d17_4 : decode method_2_code 4 = .ok (.iload_n 1, 1) := by decide +kernel
theorem d17_5 : decode method_2_code 5 = .ok (.ifCond .ne 7, 3) := by decide +kernel
theorem d17_8 : decode method_2_code 8 = .ok (.getstatic 7, 3) := by decide +kernel
theorem d17_11 : decode method_2_code 11 = .ok (.areturn, 1) := by decide +kernel
theorem d17_12 : decode method_2_code 12 = .ok (.iload_n 1, 1) := by decide +kernel
theorem d17_13 : decode method_2_code 13 = .ok (.iconst 1, 1) := by decide +kernel
theorem d17_14 : decode method_2_code 14 = .ok (.if_icmp .ne 7, 3) := by decide +kernel
theorem d17_17 : decode method_2_code 17 = .ok (.getstatic 13, 3) := by decide +kernel
theorem d17_20 : decode method_2_code 20 = .ok (.areturn, 1) := by decide +kernel
theorem d17_21 : decode method_2_code 21 = .ok (.iload_n 1, 1) := by decide +kernel
theorem d17_22 : decode method_2_code 22 = .ok (.iconst 2, 1) := by decide +kernel
theorem d17_23 : decode method_2_code 23 = .ok (.if_icmp .ne 7, 3) := by decide +kernel
theorem d17_26 : decode method_2_code 26 = .ok (.getstatic 16, 3) := by decide +kernel
theorem d17_29 : decode method_2_code 29 = .ok (.areturn, 1) := by decide +kernel
theorem d17_30 : decode method_2_code 30 = .ok (.getstatic 19, 3) := by decide +kernel
theorem d17_33 : decode method_2_code 33 = .ok (.areturn, 1) := by decide +kernel
theorem ef_let (m : MethodId) (x0 : Int32) : entryFrame m #[(.int x0)] 2 = mkF m 0 #[iv x0, .unset] [] := by first | (simp [entryFrame, mkF, argsToLocals, Value.category]; done) | rfl
def Q_let (Z : State) (bits : Int32) (w_TAKE_OUT : Addr) (w_TAKE_IN : Addr) (w_GRANT_OUT : Addr) (w_GRANT_IN : Addr) (h0 : Heap) (n0 : Nat) (v : Option Value) (h : Heap) (L : List Loc) : Prop := ∃ (b : Addr), (v = some (.ref b)) ∧ (Fr n0 L) ∧ (h = h0) ∧ (Exa Z Z.heap b "com/example/rights_leak_checker/rightsleakchecker/takegrant/Bridge$Letter")
set_option maxRecDepth 65536 in
set_option maxHeartbeats 40000000 in
theorem rm_let (l : Launch) (Z : State) (a0 : Array Value) (hw : ∀ d ∈ tables_1, d.before a0 Z = true) (ws : List Jvm.Cond) (bits : Int32) (w_TAKE_OUT : Addr) (w_TAKE_IN : Addr) (w_GRANT_OUT : Addr) (w_GRANT_IN : Addr) (h0 : Heap) (n0 : Nat) (O0 : Old Z n0 h0) (S_TAKE_OUT : Sta Z Z.heap "com/example/rights_leak_checker/rightsleakchecker/takegrant/Bridge$Letter" "TAKE_OUT" "Lcom/example/rights_leak_checker/rightsleakchecker/takegrant/Bridge$Letter;" (.ref w_TAKE_OUT)) (X_TAKE_OUT : Exa Z Z.heap w_TAKE_OUT "com/example/rights_leak_checker/rightsleakchecker/takegrant/Bridge$Letter") (S_TAKE_IN : Sta Z Z.heap "com/example/rights_leak_checker/rightsleakchecker/takegrant/Bridge$Letter" "TAKE_IN" "Lcom/example/rights_leak_checker/rightsleakchecker/takegrant/Bridge$Letter;" (.ref w_TAKE_IN)) (X_TAKE_IN : Exa Z Z.heap w_TAKE_IN "com/example/rights_leak_checker/rightsleakchecker/takegrant/Bridge$Letter") (S_GRANT_OUT : Sta Z Z.heap "com/example/rights_leak_checker/rightsleakchecker/takegrant/Bridge$Letter" "GRANT_OUT" "Lcom/example/rights_leak_checker/rightsleakchecker/takegrant/Bridge$Letter;" (.ref w_GRANT_OUT)) (X_GRANT_OUT : Exa Z Z.heap w_GRANT_OUT "com/example/rights_leak_checker/rightsleakchecker/takegrant/Bridge$Letter") (S_GRANT_IN : Sta Z Z.heap "com/example/rights_leak_checker/rightsleakchecker/takegrant/Bridge$Letter" "GRANT_IN" "Lcom/example/rights_leak_checker/rightsleakchecker/takegrant/Bridge$Letter;" (.ref w_GRANT_IN)) (X_GRANT_IN : Exa Z Z.heap w_GRANT_IN "com/example/rights_leak_checker/rightsleakchecker/takegrant/Bridge$Letter") :
    own_MF l own_m33 (Jvm.Cond.code own_m33 method_2_code 2 (some (.object "com/example/rights_leak_checker/rightsleakchecker/takegrant/Bridge$Letter")) :: ws) ({ frames := 0, cells := 0, slots := 0, locals := 0 } : Room) #[(.int bits)] Z h0 (Q_let Z bits w_TAKE_OUT w_TAKE_IN w_GRANT_OUT w_GRANT_IN h0 n0) := by
  refine own_met (own := "com/example/rights_leak_checker/rightsleakchecker/takegrant/BridgeToPinLaw") (nme := "letter") rfl rfl (plainFor_of_name pn_14) ?_
  intro p e s m below meth c s₁ hx hby hml hown hnm X0 e0 hret hlk hZ
  have N0 := Fr.nil n0
  rw [ef_let m bits]
  refine own_st (T' := s₁) (g' := (mkF m 1 #[iv bits, .unset] [(.int bits)])) (fun _ k_ => XS.iloadN X0.here hx rfl (hb hby d17_0) rfl  k_) ?_
  refine own_st (T' := s₁) (g' := (mkF m 2 #[iv bits, .unset] [(.int (3 : Int32)), (.int bits)])) (fun _ k_ => XS.iconst X0.here hx rfl (hb hby d17_1) k_) ?_
  refine own_st (T' := s₁) (g' := (mkF m 3 #[iv bits, .unset] [(.int (bits &&& (3 : Int32)))])) (fun _ k_ => XS.iand X0.here hx rfl (hb hby d17_2) rfl k_) ?_
  refine own_st (T' := s₁) (g' := (mkF m 4 #[iv bits, iv (bits &&& (3 : Int32))] [])) (fun _ k_ => XS.istoreN X0.here hx rfl (hb hby d17_3) rfl (l' := #[iv bits, iv (bits &&& (3 : Int32))]) rfl k_) ?_
  refine own_st (T' := s₁) (g' := (mkF m 5 #[iv bits, iv (bits &&& (3 : Int32))] [(.int (bits &&& (3 : Int32)))])) (fun _ k_ => XS.iloadN X0.here hx rfl (hb hby d17_4) rfl  k_) ?_
  by_cases hc1 : (bits &&& (3 : Int32)) = (0 : Int32)
  · refine own_st (T' := s₁) (g' := (mkF m 8 #[iv bits, iv (bits &&& (3 : Int32))] [])) (fun _ k_ => XS.ifNo X0.here hx rfl (hb hby d17_5) rfl ((if0 _ _).trans (teq hc1).2) k_) ?_
    obtain ⟨T2, X2, e2, st2⟩ := getS2 X0 hx hZ hown (host := "") (Or.inl (wd hw 241 rfl)) Via.refl e0 (S_TAKE_OUT.ext O0.2) (g := (mkF m 8 #[iv bits, iv (bits &&& (3 : Int32))] [])) rfl (hb hby d17_8)
    refine own_st (T' := T2) (g' := (mkF m 11 #[iv bits, iv (bits &&& (3 : Int32))] [(.ref w_TAKE_OUT)])) st2 ?_
    clear st2
    exact own_retA X2 hx hret rfl rfl hlk (hb hby d17_11) (by decide) (by decide) ⟨w_TAKE_OUT, rfl, N0, e2, X_TAKE_OUT⟩
  · refine own_st (T' := s₁) (g' := (mkF m 12 #[iv bits, iv (bits &&& (3 : Int32))] [])) (fun _ k_ => XS.ifYes X0.here hx rfl (pc0 := 5) (pc' := 12) rfl (hb hby d17_5) rfl ((if0 _ _).trans (feq hc1).2) (by decide) (by decide) k_) ?_
    refine own_st (T' := s₁) (g' := (mkF m 13 #[iv bits, iv (bits &&& (3 : Int32))] [(.int (bits &&& (3 : Int32)))])) (fun _ k_ => XS.iloadN X0.here hx rfl (hb hby d17_12) rfl  k_) ?_
    refine own_st (T' := s₁) (g' := (mkF m 14 #[iv bits, iv (bits &&& (3 : Int32))] [(.int (1 : Int32)), (.int (bits &&& (3 : Int32)))])) (fun _ k_ => XS.iconst X0.here hx rfl (hb hby d17_13) k_) ?_
    by_cases hc3 : (bits &&& (3 : Int32)) = (1 : Int32)
    · refine own_st (T' := s₁) (g' := (mkF m 17 #[iv bits, iv (bits &&& (3 : Int32))] [])) (fun _ k_ => XS.icmpNo X0.here hx rfl (hb hby d17_14) rfl (teq hc3).2 k_) ?_
      obtain ⟨T4, X4, e4, st4⟩ := getS2 X0 hx hZ hown (host := "") (Or.inl (wd hw 101 rfl)) Via.refl e0 (S_TAKE_IN.ext O0.2) (g := (mkF m 17 #[iv bits, iv (bits &&& (3 : Int32))] [])) rfl (hb hby d17_17)
      refine own_st (T' := T4) (g' := (mkF m 20 #[iv bits, iv (bits &&& (3 : Int32))] [(.ref w_TAKE_IN)])) st4 ?_
      clear st4
      exact own_retA X4 hx hret rfl rfl hlk (hb hby d17_20) (by decide) (by decide) ⟨w_TAKE_IN, rfl, N0, e4, X_TAKE_IN⟩
    · refine own_st (T' := s₁) (g' := (mkF m 21 #[iv bits, iv (bits &&& (3 : Int32))] [])) (fun _ k_ => XS.icmpYes X0.here hx rfl (pc0 := 14) (pc' := 21) rfl (hb hby d17_14) rfl (feq hc3).2 (by decide) (by decide) k_) ?_
      refine own_st (T' := s₁) (g' := (mkF m 22 #[iv bits, iv (bits &&& (3 : Int32))] [(.int (bits &&& (3 : Int32)))])) (fun _ k_ => XS.iloadN X0.here hx rfl (hb hby d17_21) rfl  k_) ?_
      refine own_st (T' := s₁) (g' := (mkF m 23 #[iv bits, iv (bits &&& (3 : Int32))] [(.int (2 : Int32)), (.int (bits &&& (3 : Int32)))])) (fun _ k_ => XS.iconst X0.here hx rfl (hb hby d17_22) k_) ?_
      by_cases hc5 : (bits &&& (3 : Int32)) = (2 : Int32)
      · refine own_st (T' := s₁) (g' := (mkF m 26 #[iv bits, iv (bits &&& (3 : Int32))] [])) (fun _ k_ => XS.icmpNo X0.here hx rfl (hb hby d17_23) rfl (teq hc5).2 k_) ?_
        obtain ⟨T6, X6, e6, st6⟩ := getS2 X0 hx hZ hown (host := "") (Or.inl (wd hw 239 rfl)) Via.refl e0 (S_GRANT_OUT.ext O0.2) (g := (mkF m 26 #[iv bits, iv (bits &&& (3 : Int32))] [])) rfl (hb hby d17_26)
        refine own_st (T' := T6) (g' := (mkF m 29 #[iv bits, iv (bits &&& (3 : Int32))] [(.ref w_GRANT_OUT)])) st6 ?_
        clear st6
        exact own_retA X6 hx hret rfl rfl hlk (hb hby d17_29) (by decide) (by decide) ⟨w_GRANT_OUT, rfl, N0, e6, X_GRANT_OUT⟩
      · refine own_st (T' := s₁) (g' := (mkF m 30 #[iv bits, iv (bits &&& (3 : Int32))] [])) (fun _ k_ => XS.icmpYes X0.here hx rfl (pc0 := 23) (pc' := 30) rfl (hb hby d17_23) rfl (feq hc5).2 (by decide) (by decide) k_) ?_
        obtain ⟨T7, X7, e7, st7⟩ := getS2 X0 hx hZ hown (host := "") (Or.inl (wd hw 243 rfl)) Via.refl e0 (S_GRANT_IN.ext O0.2) (g := (mkF m 30 #[iv bits, iv (bits &&& (3 : Int32))] [])) rfl (hb hby d17_30)
        refine own_st (T' := T7) (g' := (mkF m 33 #[iv bits, iv (bits &&& (3 : Int32))] [(.ref w_GRANT_IN)])) st7 ?_
        clear st7
        exact own_retA X7 hx hret rfl rfl hlk (hb hby d17_33) (by decide) (by decide) ⟨w_GRANT_IN, rfl, N0, e7, X_GRANT_IN⟩
theorem d18_0 : decode prog_42_method_1_code 0 = .ok (.aload_n 0, 1) := by decide +kernel
theorem d18_1 : decode prog_42_method_1_code 1 = .ok (.invokespecial 1, 3) := by decide +kernel
theorem d18_4 : decode prog_42_method_1_code 4 = .ok (.aload_n 1, 1) := by decide +kernel
theorem d18_5 : decode prog_42_method_1_code 5 = .ok (.invokeinterface 7 1, 5) := by decide +kernel
theorem d18_10 : decode prog_42_method_1_code 10 = .ok (.iconst 2, 1) := by decide +kernel
theorem d18_11 : decode prog_42_method_1_code 11 = .ok (.if_icmp .lt 20, 3) := by decide +kernel
theorem d18_14 : decode prog_42_method_1_code 14 = .ok (.aload_n 2, 1) := by decide +kernel
theorem d18_15 : decode prog_42_method_1_code 15 = .ok (.invokeinterface 7 1, 5) := by decide +kernel
theorem d18_20 : decode prog_42_method_1_code 20 = .ok (.aload_n 1, 1) := by decide +kernel
theorem d18_21 : decode prog_42_method_1_code 21 = .ok (.invokeinterface 7 1, 5) := by decide +kernel
theorem d18_26 : decode prog_42_method_1_code 26 = .ok (.iconst 1, 1) := by decide +kernel
theorem d18_27 : decode prog_42_method_1_code 27 = .ok (.isub, 1) := by decide +kernel
theorem d18_28 : decode prog_42_method_1_code 28 = .ok (.if_icmp .eq 22, 3) := by decide +kernel
theorem d18_50 : decode prog_42_method_1_code 50 = .ok (.aload_n 0, 1) := by decide +kernel
theorem d18_51 : decode prog_42_method_1_code 51 = .ok (.aload_n 1, 1) := by decide +kernel
theorem d18_52 : decode prog_42_method_1_code 52 = .ok (.invokestatic 22, 3) := by decide +kernel
theorem d18_55 : decode prog_42_method_1_code 55 = .ok (.putfield 26, 3) := by decide +kernel
theorem d18_58 : decode prog_42_method_1_code 58 = .ok (.aload_n 0, 1) := by decide +kernel
theorem d18_59 : decode prog_42_method_1_code 59 = .ok (.aload_n 2, 1) := by decide +kernel
theorem d18_60 : decode prog_42_method_1_code 60 = .ok (.invokestatic 22, 3) := by decide +kernel
theorem d18_63 : decode prog_42_method_1_code 63 = .ok (.putfield 32, 3) := by decide +kernel
theorem d18_66 : decode prog_42_method_1_code 66 = .ok (.return_, 1) := by decide +kernel
theorem pd___I : parseMethodDescriptor "()I" = some ⟨[], some .int⟩ := by decide +kernel
theorem pn_15 : plainName "com/example/rights_leak_checker/rightsleakchecker/takegrant/Bridge" = true := by first | (simp [plainName, overriddenIn]; done) | decide +kernel
theorem ef_bri_2 (m : MethodId) (x0 : Addr) (x1 : Addr) (x2 : Addr) : entryFrame m #[(.ref x0), (.ref x1), (.ref x2)] 3 = mkF m 0 #[rv x0, rv x1, rv x2] [] := by first | (simp [entryFrame, mkF, argsToLocals, Value.category]; done) | rfl
def Q_bri_2 (Z : State) (br : Addr) (a1 : Addr) (t1 : Addr) (a2 : Addr) (t2 : Addr) (kO : ClassId) (mir : Addr) (em : Addr) (y0 : Addr) (y1 : Addr) (z0 : Addr) (h0 : Heap) (n0 : Nat) (v : Option Value) (h : Heap) (L : List Loc) : Prop := ∃ (x : Addr), (v = none) ∧ (Fr n0 L) ∧ (Keep h0 h [br]) ∧ (Exa Z h br "com/example/rights_leak_checker/rightsleakchecker/takegrant/Bridge") ∧ (Fld Z h br "com/example/rights_leak_checker/rightsleakchecker/takegrant/Bridge" "walk" "Ljava/util/List;" (.ref x)) ∧ (Exa Z h x "java/util/ImmutableCollections$List12") ∧ (Fld Z h x "java/util/ImmutableCollections$List12" "e0" "Ljava/lang/Object;" (.ref y0)) ∧ (Fld Z h x "java/util/ImmutableCollections$List12" "e1" "Ljava/lang/Object;" (.ref y1)) ∧ (h0.size ≤ x)
set_option maxRecDepth 65536 in
set_option maxHeartbeats 40000000 in
theorem rm_bri_2 (l : Launch) (Z : State) (a0 : Array Value) (hw : ∀ d ∈ tables_1, d.before a0 Z = true) (ws : List Jvm.Cond) (br : Addr) (a1 : Addr) (t1 : Addr) (a2 : Addr) (t2 : Addr) (kO : ClassId) (mir : Addr) (em : Addr) (y0 : Addr) (y1 : Addr) (z0 : Addr) (h0 : Heap) (n0 : Nat) (O0 : Old Z n0 h0) (P0 : Exa Z h0 br "com/example/rights_leak_checker/rightsleakchecker/takegrant/Bridge") (P1 : Fld Z h0 br "com/example/rights_leak_checker/rightsleakchecker/takegrant/Bridge" "walk" "Ljava/util/List;" .null) (P2 : Fld Z h0 br "com/example/rights_leak_checker/rightsleakchecker/takegrant/Bridge" "letters" "Ljava/util/List;" .null) (fb : n0 ≤ br) (nab : br ≠ a2) (E_a1 : Exa Z h0 a1 "java/util/ArrayList") (Fe_a1 : Fld Z h0 a1 "java/util/ArrayList" "elementData" "[Ljava/lang/Object;" (.ref t1)) (Fz_a1 : Fld Z h0 a1 "java/util/ArrayList" "size" "I" (.int (2 : Int32))) (V_a1 : Arv Z h0 t1 kO (.object "java/lang/Object") (10 : Int32) [(.ref y0), (.ref y1), .null, .null, .null, .null, .null, .null, .null, .null] .null) (E_a2 : Exa Z h0 a2 "java/util/ArrayList") (Fe_a2 : Fld Z h0 a2 "java/util/ArrayList" "elementData" "[Ljava/lang/Object;" (.ref t2)) (Fz_a2 : Fld Z h0 a2 "java/util/ArrayList" "size" "I" (.int (1 : Int32))) (V_a2 : Arv Z h0 t2 kO (.object "java/lang/Object") (10 : Int32) [(.ref z0), .null, .null, .null, .null, .null, .null, .null, .null, .null] .null) (OV : Ovr Z kO "java/lang/Object") (FC : Z.vm.findClass "[Ljava/lang/Object;" = some kO) (MIR : own_Mir Z "[Ljava/lang/Object;" mir) (SEm : Sta Z Z.heap "java/util/ImmutableCollections" "EMPTY" "Ljava/lang/Object;" (.ref em)) (I_y0 : Ins Z h0 y0 "java/lang/Object" true) (I_y1 : Ins Z h0 y1 "java/lang/Object" true) (I_z0 : Ins Z h0 z0 "java/lang/Object" true) :
    own_MF l own_m35 (Jvm.Cond.code own_m35 prog_42_method_1_code 3 none :: ws) ({ frames := 8, cells := 4, slots := 7, locals := 106 } : Room) #[(.ref br), (.ref a1), (.ref a2)] Z h0 (Q_bri_2 Z br a1 t1 a2 t2 kO mir em y0 y1 z0 h0 n0) := by
  refine own_met (own := "com/example/rights_leak_checker/rightsleakchecker/takegrant/Bridge") (nme := "<init>") rfl rfl (plainFor_of_name pn_15) ?_
  intro p e s m below meth c s₁ hx hby hml hown hnm X0 e0 hret hlk hZ
  have N0 := Fr.nil n0
  rw [ef_bri_2 m br a1 a2]
  refine own_st (T' := s₁) (g' := (mkF m 1 #[rv br, rv a1, rv a2] [(.ref br)])) (fun _ k_ => XS.aloadN X0.here hx rfl (hb hby d18_0) rfl rfl  k_) ?_
  obtain ⟨T1, X1, e1, st1⟩ := initO X0 hx hZ hown (wd hw 111 rfl) (wd hw 27 rfl) (wd hw 28 rfl) e0 (g := (mkF m 1 #[rv br, rv a1, rv a2] [(.ref br)])) rfl (by rw [hml]; rfl) rfl (hb hby d18_1) (by decide) (W := 0) (by show 2 * 0 + _ ≤ _; exact Nat.le_of_eq rfl) (by decide)
  refine own_st (T' := T1) (g' := (mkF m 4 #[rv br, rv a1, rv a2] [])) st1 ?_
  clear st1
  refine own_st (T' := T1) (g' := (mkF m 5 #[rv br, rv a1, rv a2] [(.ref a1)])) (fun _ k_ => XS.aloadN X1.here hx rfl (hb hby d18_4) rfl rfl  k_) ?_
  obtain ⟨cq2, kq2, q2a, q2b, q2c⟩ := isOf hZ e1 E_a1
  obtain ⟨_, T2, L2, X2, hQ2, st2⟩ := own_callF X1 hx (xi := own_m34) (y := own_m14) hown (mvT hZ (wd hw 112 rfl)) (mvT hZ (wd hw 113 rfl)) (mvT hZ (wd hw 114 rfl)) (mvT hZ (wd hw 115 rfl)) (mvT hZ (wd hw 116 rfl)) (mvT hZ (wd hw 117 rfl)) (mvT hZ (wd hw 118 rfl)) (mvT hZ (wd hw 119 rfl)) (by decide) (backOf (W := 0) (rm_alsz l Z a0 hw [] a1 (2 : Int32) h0 n0 O0 Fz_a1) hZ (wd hw 120 rfl) (wd hw 45 rfl) (by decide) (by decide)) q2a q2b q2c (g := (mkF m 5 #[rv br, rv a1, rv a2] [(.ref a1)])) rfl (by rw [hml]; rfl) (argsL := []) (rest := []) (lenOf pd___I rfl) rfl (by show 2 * 0 + _ ≤ _; exact Nat.le_of_eq rfl) (hb hby d18_5) rfl e1 (by decide) (by decide) (c' := 0) (s' := 0) rfl rfl
  clear q2a q2b q2c kq2 cq2
  obtain ⟨rfl, Nq2, eq2⟩ := hQ2
  have N2 := Fr.app N0 Nq2
  refine own_st (T' := T2) (g' := (mkF m 10 #[rv br, rv a1, rv a2] [(.int (2 : Int32))])) st2 ?_
  clear st2
  refine own_st (T' := T2) (g' := (mkF m 11 #[rv br, rv a1, rv a2] [(.int (2 : Int32)), (.int (2 : Int32))])) (fun _ k_ => XS.iconst X2.here hx rfl (hb hby d18_10) k_) ?_
  refine own_st (T' := T2) (g' := (mkF m 14 #[rv br, rv a1, rv a2] [])) (fun _ k_ => XS.icmpNo X2.here hx rfl (hb hby d18_11) rfl (flt (by decide : ¬ ((2 : Int32) < (2 : Int32)))).1 k_) ?_
  refine own_st (T' := T2) (g' := (mkF m 15 #[rv br, rv a1, rv a2] [(.ref a2)])) (fun _ k_ => XS.aloadN X2.here hx rfl (hb hby d18_14) rfl rfl  k_) ?_
  obtain ⟨cq3, kq3, q3a, q3b, q3c⟩ := isOf hZ eq2 E_a2
  obtain ⟨_, T3, L3, X3, hQ3, st3⟩ := own_callF X2 hx (xi := own_m34) (y := own_m14) hown (mvT hZ (wd hw 112 rfl)) (mvT hZ (wd hw 113 rfl)) (mvT hZ (wd hw 114 rfl)) (mvT hZ (wd hw 115 rfl)) (mvT hZ (wd hw 116 rfl)) (mvT hZ (wd hw 117 rfl)) (mvT hZ (wd hw 118 rfl)) (mvT hZ (wd hw 119 rfl)) (by decide) (backOf (W := 0) (rm_alsz l Z a0 hw [] a2 (1 : Int32) h0 n0 O0 Fz_a2) hZ (wd hw 120 rfl) (wd hw 45 rfl) (by decide) (by decide)) q3a q3b q3c (g := (mkF m 15 #[rv br, rv a1, rv a2] [(.ref a2)])) rfl (by rw [hml]; rfl) (argsL := []) (rest := []) (lenOf pd___I rfl) rfl (by show 2 * 0 + _ ≤ _; exact Nat.le_of_eq rfl) (hb hby d18_15) rfl eq2 (by decide) (by decide) (c' := 0) (s' := 0) rfl rfl
  clear q3a q3b q3c kq3 cq3
  obtain ⟨rfl, Nq3, eq3⟩ := hQ3
  have N3 := Fr.app N2 Nq3
  refine own_st (T' := T3) (g' := (mkF m 20 #[rv br, rv a1, rv a2] [(.int (1 : Int32))])) st3 ?_
  clear st3
  refine own_st (T' := T3) (g' := (mkF m 21 #[rv br, rv a1, rv a2] [(.ref a1), (.int (1 : Int32))])) (fun _ k_ => XS.aloadN X3.here hx rfl (hb hby d18_20) rfl rfl  k_) ?_
  obtain ⟨cq4, kq4, q4a, q4b, q4c⟩ := isOf hZ eq3 E_a1
  obtain ⟨_, T4, L4, X4, hQ4, st4⟩ := own_callF X3 hx (xi := own_m34) (y := own_m14) hown (mvT hZ (wd hw 112 rfl)) (mvT hZ (wd hw 113 rfl)) (mvT hZ (wd hw 114 rfl)) (mvT hZ (wd hw 115 rfl)) (mvT hZ (wd hw 116 rfl)) (mvT hZ (wd hw 117 rfl)) (mvT hZ (wd hw 118 rfl)) (mvT hZ (wd hw 119 rfl)) (by decide) (backOf (W := 1) (rm_alsz l Z a0 hw [] a1 (2 : Int32) h0 n0 O0 Fz_a1) hZ (wd hw 120 rfl) (wd hw 45 rfl) (by decide) (by decide)) q4a q4b q4c (g := (mkF m 21 #[rv br, rv a1, rv a2] [(.ref a1), (.int (1 : Int32))])) rfl (by rw [hml]; rfl) (argsL := []) (rest := [(.int (1 : Int32))]) (lenOf pd___I rfl) rfl (by show 2 * 0 + _ ≤ _; exact Nat.le_of_eq rfl) (hb hby d18_21) rfl eq3 (by decide) (by decide) (c' := 0) (s' := 0) rfl rfl
  clear q4a q4b q4c kq4 cq4
  obtain ⟨rfl, Nq4, eq4⟩ := hQ4
  have N4 := Fr.app N3 Nq4
  refine own_st (T' := T4) (g' := (mkF m 26 #[rv br, rv a1, rv a2] [(.int (2 : Int32)), (.int (1 : Int32))])) st4 ?_
  clear st4
  refine own_st (T' := T4) (g' := (mkF m 27 #[rv br, rv a1, rv a2] [(.int (1 : Int32)), (.int (2 : Int32)), (.int (1 : Int32))])) (fun _ k_ => XS.iconst X4.here hx rfl (hb hby d18_26) k_) ?_
  refine own_st (T' := T4) (g' := (mkF m 28 #[rv br, rv a1, rv a2] [(.int (1 : Int32)), (.int (1 : Int32))])) (fun _ k_ => XS.isub X4.here hx rfl (hb hby d18_27) rfl k_) ?_
  refine own_st (T' := T4) (g' := (mkF m 50 #[rv br, rv a1, rv a2] [])) (fun _ k_ => XS.icmpYes X4.here hx rfl (pc0 := 28) (pc' := 50) rfl (hb hby d18_28) rfl (teq (rfl : (1 : Int32) = (1 : Int32))).1 (by decide) (by decide) k_) ?_
  refine own_st (T' := T4) (g' := (mkF m 51 #[rv br, rv a1, rv a2] [(.ref br)])) (fun _ k_ => XS.aloadN X4.here hx rfl (hb hby d18_50) rfl rfl  k_) ?_
  refine own_st (T' := T4) (g' := (mkF m 52 #[rv br, rv a1, rv a2] [(.ref a1), (.ref br)])) (fun _ k_ => XS.aloadN X4.here hx rfl (hb hby d18_51) rfl rfl  k_) ?_
  obtain ⟨_, T5, L5, X5, hQ5, st5⟩ := own_callS X4 hx (y := own_m30) hown (mvT hZ (wd hw 121 rfl)) (mvT hZ (wd hw 122 rfl)) (mvT hZ (wd hw 123 rfl)) (mvT hZ (wd hw 124 rfl)) (by decide) (backOf (W := 1) (rm_cpy_2 l Z a0 hw [] a1 t1 kO mir y0 y1 h0 n0 O0 E_a1 Fe_a1 Fz_a1 V_a1 OV FC MIR I_y0 I_y1) hZ (wd hw 124 rfl) (wd hw 123 rfl) (by decide) (by decide)) (g := (mkF m 52 #[rv br, rv a1, rv a2] [(.ref a1), (.ref br)])) rfl (by rw [hml]; rfl) (argsL := [(.ref a1)]) (rest := [(.ref br)]) (lenOf pd__Ljava_util_Collection__Ljava_util_List_ rfl) rfl (by show 2 * 0 + _ ≤ _; exact Nat.le_of_eq rfl) (hb hby d18_52) rfl eq4 (by decide) (by decide) (c' := 2) (s' := 4) rfl rfl
  obtain ⟨x5, rfl, Nq5, K5, fq5_0, fq5_1, fq5_2, xq5_fresh_x⟩ := hQ5
  have N5 := Fr.app N4 Nq5
  refine own_st (T' := T5) (g' := (mkF m 55 #[rv br, rv a1, rv a2] [(.ref x5), (.ref br)])) st5 ?_
  clear st5
  have f6 := P0.keep K5
  have f7 := P1.keep K5 nin0
  obtain ⟨T8, h8, X8, e8, W8, st8⟩ := putF X5 hx hZ hown (host := "") (Or.inl (wd hw 206 rfl)) Via.refl rfl f7 f6 (Or.inr ⟨(wd hw 207 rfl), rfl, hnm⟩) (wd hw 106 rfl) (ty := (.object "java/util/List")) (by decide) rfl rfl (g := (mkF m 55 #[rv br, rv a1, rv a2] [(.ref x5), (.ref br)])) rfl rfl (hb hby d18_55)
  have Fw8 : Fld Z h8 br "com/example/rights_leak_checker/rightsleakchecker/takegrant/Bridge" "walk" "Ljava/util/List;" (.ref x5) := Fld.same W8 f7
  have N8 := Fr.snoc X8 N5 fb
  refine own_st (T' := T8) (g' := (mkF m 58 #[rv br, rv a1, rv a2] [])) st8 ?_
  clear st8
  refine own_st (T' := T8) (g' := (mkF m 59 #[rv br, rv a1, rv a2] [(.ref br)])) (fun _ k_ => XS.aloadN X8.here hx rfl (hb hby d18_58) rfl rfl  k_) ?_
  refine own_st (T' := T8) (g' := (mkF m 60 #[rv br, rv a1, rv a2] [(.ref a2), (.ref br)])) (fun _ k_ => XS.aloadN X8.here hx rfl (hb hby d18_59) rfl rfl  k_) ?_
  have f9 := E_a2.keep K5
  have f10 := f9.wr W8
  have f11 := Fe_a2.keep K5 nin0
  have f12 := f11.other W8 (Or.inl (Ne.symm nab))
  have f13 := Fz_a2.keep K5 nin0
  have f14 := f13.other W8 (Or.inl (Ne.symm nab))
  have f15 := V_a2.keep K5 nin0
  have xe16 : Exa Z T5.heap br "com/example/rights_leak_checker/rightsleakchecker/takegrant/Bridge" := P0.keep K5
  have ne17 : br ≠ t2 := own_neA xe16 (wd hw 106 rfl) f15
  have f18 := f15.other W8 (Ne.symm ne17)
  have f19 := own_insK I_z0 K5
  have f20 := Ins.wr W8 f19
  have f21 := O0.keep K5 all0
  have f22 := f21.wr W8 fb
  have f23 := (Keep.refl h0 [br]).trans K5 all0
  have f24 := f23.wr W8 (Or.inl (List.mem_of_getElem? (i := 0) rfl))
  obtain ⟨_, T25, L25, X25, hQ25, st25⟩ := own_callS X8 hx (y := own_m30) hown (mvT hZ (wd hw 121 rfl)) (mvT hZ (wd hw 122 rfl)) (mvT hZ (wd hw 123 rfl)) (mvT hZ (wd hw 124 rfl)) (by decide) (backOf (W := 1) (rm_cpy_1 l Z a0 hw [] a2 t2 kO mir em z0 h8 n0 f22 f10 f12 f14 f18 OV FC MIR SEm f20) hZ (wd hw 124 rfl) (wd hw 123 rfl) (by decide) (by decide)) (g := (mkF m 60 #[rv br, rv a1, rv a2] [(.ref a2), (.ref br)])) rfl (by rw [hml]; rfl) (argsL := [(.ref a2)]) (rest := [(.ref br)]) (lenOf pd__Ljava_util_Collection__Ljava_util_List_ rfl) rfl (by show 2 * 0 + _ ≤ _; exact Nat.le_of_eq rfl) (hb hby d18_60) rfl e8 (by decide) (by decide) (c' := 4) (s' := 7) rfl rfl
  obtain ⟨x25, rfl, Nq25, K25, fq25_0, fq25_1, fq25_2, xq25_fresh_x⟩ := hQ25
  have N25 := Fr.app N8 Nq25
  refine own_st (T' := T25) (g' := (mkF m 63 #[rv br, rv a1, rv a2] [(.ref x25), (.ref br)])) st25 ?_
  clear st25
  have f26 := f6.wr W8
  have f27 := f26.keep K25
  have f28 := P2.keep K5 nin0
  have f29 := f28.other W8 (Or.inr (slot_ne (Or.inr (wd hw 213 rfl)) (Or.inr (wd hw 207 rfl)) (by decide) (t := (.object "java/util/List")) (t' := (.object "java/util/List")) (by decide) (by decide)))
  have f30 := f29.keep K25 nin0
  obtain ⟨T31, h31, X31, e31, W31, st31⟩ := putF X25 hx hZ hown (host := "") (Or.inl (wd hw 212 rfl)) Via.refl rfl f30 f27 (Or.inr ⟨(wd hw 213 rfl), rfl, hnm⟩) (wd hw 106 rfl) (ty := (.object "java/util/List")) (by decide) rfl rfl (g := (mkF m 63 #[rv br, rv a1, rv a2] [(.ref x25), (.ref br)])) rfl rfl (hb hby d18_63)
  have Fw31 : Fld Z h31 br "com/example/rights_leak_checker/rightsleakchecker/takegrant/Bridge" "letters" "Ljava/util/List;" (.ref x25) := Fld.same W31 f30
  have N31 := Fr.snoc X31 N25 fb
  refine own_st (T' := T31) (g' := (mkF m 66 #[rv br, rv a1, rv a2] [])) st31 ?_
  clear st31
  have f32 := f24.trans K25 all0
  have f33 := f32.wr W31 (Or.inl (List.mem_of_getElem? (i := 0) rfl))
  have f34 := f27.wr W31
  have f35 := Fw8.keep K25 nin0
  have f36 := f35.other W31 (Or.inr (slot_ne (Or.inr (wd hw 207 rfl)) (Or.inr (wd hw 213 rfl)) (by decide) (t := (.object "java/util/List")) (t' := (.object "java/util/List")) (by decide) (by decide)))
  have f37 := fq5_0.wr W8
  have f38 := f37.keep K25
  have f39 := f38.wr W31
  have ne40 : br ≠ x5 := Nat.ne_of_lt (Nat.lt_of_lt_of_le P0.lt xq5_fresh_x)
  have f41 := fq5_1.other W8 (Or.inl (Ne.symm ne40))
  have f42 := f41.keep K25 nin0
  have f43 := f42.other W31 (Or.inl (Ne.symm ne40))
  have f44 := fq5_2.other W8 (Or.inl (Ne.symm ne40))
  have f45 := f44.keep K25 nin0
  have f46 := f45.other W31 (Or.inl (Ne.symm ne40))
  exact own_retV X31 hx hret hlk (hb hby d18_66) (by decide) (by decide) (by rw [e31]; exact ⟨x5, rfl, N31, f33, f34, f36, f39, f43, f46, (Nat.le_trans (Keep.refl h0 [br]).1 xq5_fresh_x)⟩)
theorem ef_bri_3 (m : MethodId) (x0 : Addr) (x1 : Addr) (x2 : Addr) : entryFrame m #[(.ref x0), (.ref x1), (.ref x2)] 3 = mkF m 0 #[rv x0, rv x1, rv x2] [] := by first | (simp [entryFrame, mkF, argsToLocals, Value.category]; done) | rfl
def Q_bri_3 (Z : State) (br : Addr) (a1 : Addr) (t1 : Addr) (a2 : Addr) (t2 : Addr) (kO : ClassId) (mir : Addr) (y0 : Addr) (y1 : Addr) (y2 : Addr) (z0 : Addr) (z1 : Addr) (h0 : Heap) (n0 : Nat) (v : Option Value) (h : Heap) (L : List Loc) : Prop := ∃ (x : Addr) (uu : Addr), (v = none) ∧ (Fr n0 L) ∧ (Keep h0 h [br]) ∧ (Exa Z h br "com/example/rights_leak_checker/rightsleakchecker/takegrant/Bridge") ∧ (Fld Z h br "com/example/rights_leak_checker/rightsleakchecker/takegrant/Bridge" "walk" "Ljava/util/List;" (.ref x)) ∧ (Exa Z h x "java/util/ImmutableCollections$ListN") ∧ (Fld Z h x "java/util/ImmutableCollections$ListN" "elements" "[Ljava/lang/Object;" (.ref uu)) ∧ (Fld Z h x "java/util/ImmutableCollections$ListN" "allowNulls" "Z" (.int (0 : Int32))) ∧ (Arv Z h uu kO (.object "java/lang/Object") (3 : Int32) [(.ref y0), (.ref y1), (.ref y2)] .null) ∧ (h0.size ≤ x) ∧ (h0.size ≤ uu)
set_option maxRecDepth 65536 in
set_option maxHeartbeats 40000000 in
theorem rm_bri_3 (l : Launch) (Z : State) (a0 : Array Value) (hw : ∀ d ∈ tables_1, d.before a0 Z = true) (ws : List Jvm.Cond) (br : Addr) (a1 : Addr) (t1 : Addr) (a2 : Addr) (t2 : Addr) (kO : ClassId) (mir : Addr) (y0 : Addr) (y1 : Addr) (y2 : Addr) (z0 : Addr) (z1 : Addr) (h0 : Heap) (n0 : Nat) (O0 : Old Z n0 h0) (P0 : Exa Z h0 br "com/example/rights_leak_checker/rightsleakchecker/takegrant/Bridge") (P1 : Fld Z h0 br "com/example/rights_leak_checker/rightsleakchecker/takegrant/Bridge" "walk" "Ljava/util/List;" .null) (P2 : Fld Z h0 br "com/example/rights_leak_checker/rightsleakchecker/takegrant/Bridge" "letters" "Ljava/util/List;" .null) (fb : n0 ≤ br) (nab : br ≠ a2) (E_a1 : Exa Z h0 a1 "java/util/ArrayList") (Fe_a1 : Fld Z h0 a1 "java/util/ArrayList" "elementData" "[Ljava/lang/Object;" (.ref t1)) (Fz_a1 : Fld Z h0 a1 "java/util/ArrayList" "size" "I" (.int (3 : Int32))) (V_a1 : Arv Z h0 t1 kO (.object "java/lang/Object") (10 : Int32) [(.ref y0), (.ref y1), (.ref y2), .null, .null, .null, .null, .null, .null, .null] .null) (E_a2 : Exa Z h0 a2 "java/util/ArrayList") (Fe_a2 : Fld Z h0 a2 "java/util/ArrayList" "elementData" "[Ljava/lang/Object;" (.ref t2)) (Fz_a2 : Fld Z h0 a2 "java/util/ArrayList" "size" "I" (.int (2 : Int32))) (V_a2 : Arv Z h0 t2 kO (.object "java/lang/Object") (10 : Int32) [(.ref z0), (.ref z1), .null, .null, .null, .null, .null, .null, .null, .null] .null) (OV : Ovr Z kO "java/lang/Object") (FC : Z.vm.findClass "[Ljava/lang/Object;" = some kO) (MIR : own_Mir Z "[Ljava/lang/Object;" mir) (I_y0 : Ins Z h0 y0 "java/lang/Object" true) (I_y1 : Ins Z h0 y1 "java/lang/Object" true) (I_y2 : Ins Z h0 y2 "java/lang/Object" true) (I_z0 : Ins Z h0 z0 "java/lang/Object" true) (I_z1 : Ins Z h0 z1 "java/lang/Object" true) :
    own_MF l own_m35 (Jvm.Cond.code own_m35 prog_42_method_1_code 3 none :: ws) ({ frames := 9, cells := 5, slots := 12, locals := 116 } : Room) #[(.ref br), (.ref a1), (.ref a2)] Z h0 (Q_bri_3 Z br a1 t1 a2 t2 kO mir y0 y1 y2 z0 z1 h0 n0) := by
  refine own_met (own := "com/example/rights_leak_checker/rightsleakchecker/takegrant/Bridge") (nme := "<init>") rfl rfl (plainFor_of_name pn_15) ?_
  intro p e s m below meth c s₁ hx hby hml hown hnm X0 e0 hret hlk hZ
  have N0 := Fr.nil n0
  rw [ef_bri_3 m br a1 a2]
  refine own_st (T' := s₁) (g' := (mkF m 1 #[rv br, rv a1, rv a2] [(.ref br)])) (fun _ k_ => XS.aloadN X0.here hx rfl (hb hby d18_0) rfl rfl  k_) ?_
  obtain ⟨T1, X1, e1, st1⟩ := initO X0 hx hZ hown (wd hw 111 rfl) (wd hw 27 rfl) (wd hw 28 rfl) e0 (g := (mkF m 1 #[rv br, rv a1, rv a2] [(.ref br)])) rfl (by rw [hml]; rfl) rfl (hb hby d18_1) (by decide) (W := 0) (by show 2 * 0 + _ ≤ _; exact Nat.le_of_eq rfl) (by decide)
  refine own_st (T' := T1) (g' := (mkF m 4 #[rv br, rv a1, rv a2] [])) st1 ?_
  clear st1
  refine own_st (T' := T1) (g' := (mkF m 5 #[rv br, rv a1, rv a2] [(.ref a1)])) (fun _ k_ => XS.aloadN X1.here hx rfl (hb hby d18_4) rfl rfl  k_) ?_
  obtain ⟨cq2, kq2, q2a, q2b, q2c⟩ := isOf hZ e1 E_a1
  obtain ⟨_, T2, L2, X2, hQ2, st2⟩ := own_callF X1 hx (xi := own_m34) (y := own_m14) hown (mvT hZ (wd hw 112 rfl)) (mvT hZ (wd hw 113 rfl)) (mvT hZ (wd hw 114 rfl)) (mvT hZ (wd hw 115 rfl)) (mvT hZ (wd hw 116 rfl)) (mvT hZ (wd hw 117 rfl)) (mvT hZ (wd hw 118 rfl)) (mvT hZ (wd hw 119 rfl)) (by decide) (backOf (W := 0) (rm_alsz l Z a0 hw [] a1 (3 : Int32) h0 n0 O0 Fz_a1) hZ (wd hw 120 rfl) (wd hw 45 rfl) (by decide) (by decide)) q2a q2b q2c (g := (mkF m 5 #[rv br, rv a1, rv a2] [(.ref a1)])) rfl (by rw [hml]; rfl) (argsL := []) (rest := []) (lenOf pd___I rfl) rfl (by show 2 * 0 + _ ≤ _; exact Nat.le_of_eq rfl) (hb hby d18_5) rfl e1 (by decide) (by decide) (c' := 0) (s' := 0) rfl rfl
  clear q2a q2b q2c kq2 cq2
  obtain ⟨rfl, Nq2, eq2⟩ := hQ2
  have N2 := Fr.app N0 Nq2
  refine own_st (T' := T2) (g' := (mkF m 10 #[rv br, rv a1, rv a2] [(.int (3 : Int32))])) st2 ?_
  clear st2
  refine own_st (T' := T2) (g' := (mkF m 11 #[rv br, rv a1, rv a2] [(.int (2 : Int32)), (.int (3 : Int32))])) (fun _ k_ => XS.iconst X2.here hx rfl (hb hby d18_10) k_) ?_
  refine own_st (T' := T2) (g' := (mkF m 14 #[rv br, rv a1, rv a2] [])) (fun _ k_ => XS.icmpNo X2.here hx rfl (hb hby d18_11) rfl (flt (by decide : ¬ ((3 : Int32) < (2 : Int32)))).1 k_) ?_
  refine own_st (T' := T2) (g' := (mkF m 15 #[rv br, rv a1, rv a2] [(.ref a2)])) (fun _ k_ => XS.aloadN X2.here hx rfl (hb hby d18_14) rfl rfl  k_) ?_
  obtain ⟨cq3, kq3, q3a, q3b, q3c⟩ := isOf hZ eq2 E_a2
  obtain ⟨_, T3, L3, X3, hQ3, st3⟩ := own_callF X2 hx (xi := own_m34) (y := own_m14) hown (mvT hZ (wd hw 112 rfl)) (mvT hZ (wd hw 113 rfl)) (mvT hZ (wd hw 114 rfl)) (mvT hZ (wd hw 115 rfl)) (mvT hZ (wd hw 116 rfl)) (mvT hZ (wd hw 117 rfl)) (mvT hZ (wd hw 118 rfl)) (mvT hZ (wd hw 119 rfl)) (by decide) (backOf (W := 0) (rm_alsz l Z a0 hw [] a2 (2 : Int32) h0 n0 O0 Fz_a2) hZ (wd hw 120 rfl) (wd hw 45 rfl) (by decide) (by decide)) q3a q3b q3c (g := (mkF m 15 #[rv br, rv a1, rv a2] [(.ref a2)])) rfl (by rw [hml]; rfl) (argsL := []) (rest := []) (lenOf pd___I rfl) rfl (by show 2 * 0 + _ ≤ _; exact Nat.le_of_eq rfl) (hb hby d18_15) rfl eq2 (by decide) (by decide) (c' := 0) (s' := 0) rfl rfl
  clear q3a q3b q3c kq3 cq3
  obtain ⟨rfl, Nq3, eq3⟩ := hQ3
  have N3 := Fr.app N2 Nq3
  refine own_st (T' := T3) (g' := (mkF m 20 #[rv br, rv a1, rv a2] [(.int (2 : Int32))])) st3 ?_
  clear st3
  refine own_st (T' := T3) (g' := (mkF m 21 #[rv br, rv a1, rv a2] [(.ref a1), (.int (2 : Int32))])) (fun _ k_ => XS.aloadN X3.here hx rfl (hb hby d18_20) rfl rfl  k_) ?_
  obtain ⟨cq4, kq4, q4a, q4b, q4c⟩ := isOf hZ eq3 E_a1
  obtain ⟨_, T4, L4, X4, hQ4, st4⟩ := own_callF X3 hx (xi := own_m34) (y := own_m14) hown (mvT hZ (wd hw 112 rfl)) (mvT hZ (wd hw 113 rfl)) (mvT hZ (wd hw 114 rfl)) (mvT hZ (wd hw 115 rfl)) (mvT hZ (wd hw 116 rfl)) (mvT hZ (wd hw 117 rfl)) (mvT hZ (wd hw 118 rfl)) (mvT hZ (wd hw 119 rfl)) (by decide) (backOf (W := 1) (rm_alsz l Z a0 hw [] a1 (3 : Int32) h0 n0 O0 Fz_a1) hZ (wd hw 120 rfl) (wd hw 45 rfl) (by decide) (by decide)) q4a q4b q4c (g := (mkF m 21 #[rv br, rv a1, rv a2] [(.ref a1), (.int (2 : Int32))])) rfl (by rw [hml]; rfl) (argsL := []) (rest := [(.int (2 : Int32))]) (lenOf pd___I rfl) rfl (by show 2 * 0 + _ ≤ _; exact Nat.le_of_eq rfl) (hb hby d18_21) rfl eq3 (by decide) (by decide) (c' := 0) (s' := 0) rfl rfl
  clear q4a q4b q4c kq4 cq4
  obtain ⟨rfl, Nq4, eq4⟩ := hQ4
  have N4 := Fr.app N3 Nq4
  refine own_st (T' := T4) (g' := (mkF m 26 #[rv br, rv a1, rv a2] [(.int (3 : Int32)), (.int (2 : Int32))])) st4 ?_
  clear st4
  refine own_st (T' := T4) (g' := (mkF m 27 #[rv br, rv a1, rv a2] [(.int (1 : Int32)), (.int (3 : Int32)), (.int (2 : Int32))])) (fun _ k_ => XS.iconst X4.here hx rfl (hb hby d18_26) k_) ?_
  refine own_st (T' := T4) (g' := (mkF m 28 #[rv br, rv a1, rv a2] [(.int (2 : Int32)), (.int (2 : Int32))])) (fun _ k_ => XS.isub X4.here hx rfl (hb hby d18_27) rfl k_) ?_
  refine own_st (T' := T4) (g' := (mkF m 50 #[rv br, rv a1, rv a2] [])) (fun _ k_ => XS.icmpYes X4.here hx rfl (pc0 := 28) (pc' := 50) rfl (hb hby d18_28) rfl (teq (rfl : (2 : Int32) = (2 : Int32))).1 (by decide) (by decide) k_) ?_
  refine own_st (T' := T4) (g' := (mkF m 51 #[rv br, rv a1, rv a2] [(.ref br)])) (fun _ k_ => XS.aloadN X4.here hx rfl (hb hby d18_50) rfl rfl  k_) ?_
  refine own_st (T' := T4) (g' := (mkF m 52 #[rv br, rv a1, rv a2] [(.ref a1), (.ref br)])) (fun _ k_ => XS.aloadN X4.here hx rfl (hb hby d18_51) rfl rfl  k_) ?_
  obtain ⟨_, T5, L5, X5, hQ5, st5⟩ := own_callS X4 hx (y := own_m30) hown (mvT hZ (wd hw 121 rfl)) (mvT hZ (wd hw 122 rfl)) (mvT hZ (wd hw 123 rfl)) (mvT hZ (wd hw 124 rfl)) (by decide) (backOf (W := 1) (rm_cpy_3 l Z a0 hw [] a1 t1 kO mir y0 y1 y2 h0 n0 O0 E_a1 Fe_a1 Fz_a1 V_a1 OV FC MIR I_y0 I_y1 I_y2) hZ (wd hw 124 rfl) (wd hw 123 rfl) (by decide) (by decide)) (g := (mkF m 52 #[rv br, rv a1, rv a2] [(.ref a1), (.ref br)])) rfl (by rw [hml]; rfl) (argsL := [(.ref a1)]) (rest := [(.ref br)]) (lenOf pd__Ljava_util_Collection__Ljava_util_List_ rfl) rfl (by show 2 * 0 + _ ≤ _; exact Nat.le_of_eq rfl) (hb hby d18_52) rfl eq4 (by decide) (by decide) (c' := 3) (s' := 8) rfl rfl
  obtain ⟨x5, uu5, rfl, Nq5, K5, fq5_0, fq5_1, fq5_2, fq5_3, xq5_fresh_x, xq5_fresh_uu⟩ := hQ5
  have N5 := Fr.app N4 Nq5
  refine own_st (T' := T5) (g' := (mkF m 55 #[rv br, rv a1, rv a2] [(.ref x5), (.ref br)])) st5 ?_
  clear st5
  have f6 := P0.keep K5
  have f7 := P1.keep K5 nin0
  obtain ⟨T8, h8, X8, e8, W8, st8⟩ := putF X5 hx hZ hown (host := "") (Or.inl (wd hw 206 rfl)) Via.refl rfl f7 f6 (Or.inr ⟨(wd hw 207 rfl), rfl, hnm⟩) (wd hw 106 rfl) (ty := (.object "java/util/List")) (by decide) rfl rfl (g := (mkF m 55 #[rv br, rv a1, rv a2] [(.ref x5), (.ref br)])) rfl rfl (hb hby d18_55)
  have Fw8 : Fld Z h8 br "com/example/rights_leak_checker/rightsleakchecker/takegrant/Bridge" "walk" "Ljava/util/List;" (.ref x5) := Fld.same W8 f7
  have N8 := Fr.snoc X8 N5 fb
  refine own_st (T' := T8) (g' := (mkF m 58 #[rv br, rv a1, rv a2] [])) st8 ?_
  clear st8
  refine own_st (T' := T8) (g' := (mkF m 59 #[rv br, rv a1, rv a2] [(.ref br)])) (fun _ k_ => XS.aloadN X8.here hx rfl (hb hby d18_58) rfl rfl  k_) ?_
  refine own_st (T' := T8) (g' := (mkF m 60 #[rv br, rv a1, rv a2] [(.ref a2), (.ref br)])) (fun _ k_ => XS.aloadN X8.here hx rfl (hb hby d18_59) rfl rfl  k_) ?_
  have f9 := E_a2.keep K5
  have f10 := f9.wr W8
  have f11 := Fe_a2.keep K5 nin0
  have f12 := f11.other W8 (Or.inl (Ne.symm nab))
  have f13 := Fz_a2.keep K5 nin0
  have f14 := f13.other W8 (Or.inl (Ne.symm nab))
  have f15 := V_a2.keep K5 nin0
  have xe16 : Exa Z T5.heap br "com/example/rights_leak_checker/rightsleakchecker/takegrant/Bridge" := P0.keep K5
  have ne17 : br ≠ t2 := own_neA xe16 (wd hw 106 rfl) f15
  have f18 := f15.other W8 (Ne.symm ne17)
  have f19 := own_insK I_z0 K5
  have f20 := Ins.wr W8 f19
  have f21 := own_insK I_z1 K5
  have f22 := Ins.wr W8 f21
  have f23 := O0.keep K5 all0
  have f24 := f23.wr W8 fb
  have f25 := (Keep.refl h0 [br]).trans K5 all0
  have f26 := f25.wr W8 (Or.inl (List.mem_of_getElem? (i := 0) rfl))
  obtain ⟨_, T27, L27, X27, hQ27, st27⟩ := own_callS X8 hx (y := own_m30) hown (mvT hZ (wd hw 121 rfl)) (mvT hZ (wd hw 122 rfl)) (mvT hZ (wd hw 123 rfl)) (mvT hZ (wd hw 124 rfl)) (by decide) (backOf (W := 1) (rm_cpy_2 l Z a0 hw [] a2 t2 kO mir z0 z1 h8 n0 f24 f10 f12 f14 f18 OV FC MIR f20 f22) hZ (wd hw 124 rfl) (wd hw 123 rfl) (by decide) (by decide)) (g := (mkF m 60 #[rv br, rv a1, rv a2] [(.ref a2), (.ref br)])) rfl (by rw [hml]; rfl) (argsL := [(.ref a2)]) (rest := [(.ref br)]) (lenOf pd__Ljava_util_Collection__Ljava_util_List_ rfl) rfl (by show 2 * 0 + _ ≤ _; exact Nat.le_of_eq rfl) (hb hby d18_60) rfl e8 (by decide) (by decide) (c' := 5) (s' := 12) rfl rfl
  obtain ⟨x27, rfl, Nq27, K27, fq27_0, fq27_1, fq27_2, xq27_fresh_x⟩ := hQ27
  have N27 := Fr.app N8 Nq27
  refine own_st (T' := T27) (g' := (mkF m 63 #[rv br, rv a1, rv a2] [(.ref x27), (.ref br)])) st27 ?_
  clear st27
  have f28 := f6.wr W8
  have f29 := f28.keep K27
  have f30 := P2.keep K5 nin0
  have f31 := f30.other W8 (Or.inr (slot_ne (Or.inr (wd hw 213 rfl)) (Or.inr (wd hw 207 rfl)) (by decide) (t := (.object "java/util/List")) (t' := (.object "java/util/List")) (by decide) (by decide)))
  have f32 := f31.keep K27 nin0
  obtain ⟨T33, h33, X33, e33, W33, st33⟩ := putF X27 hx hZ hown (host := "") (Or.inl (wd hw 212 rfl)) Via.refl rfl f32 f29 (Or.inr ⟨(wd hw 213 rfl), rfl, hnm⟩) (wd hw 106 rfl) (ty := (.object "java/util/List")) (by decide) rfl rfl (g := (mkF m 63 #[rv br, rv a1, rv a2] [(.ref x27), (.ref br)])) rfl rfl (hb hby d18_63)
  have Fw33 : Fld Z h33 br "com/example/rights_leak_checker/rightsleakchecker/takegrant/Bridge" "letters" "Ljava/util/List;" (.ref x27) := Fld.same W33 f32
  have N33 := Fr.snoc X33 N27 fb
  refine own_st (T' := T33) (g' := (mkF m 66 #[rv br, rv a1, rv a2] [])) st33 ?_
  clear st33
  have f34 := f26.trans K27 all0
  have f35 := f34.wr W33 (Or.inl (List.mem_of_getElem? (i := 0) rfl))
  have f36 := f29.wr W33
  have f37 := Fw8.keep K27 nin0
  have f38 := f37.other W33 (Or.inr (slot_ne (Or.inr (wd hw 207 rfl)) (Or.inr (wd hw 213 rfl)) (by decide) (t := (.object "java/util/List")) (t' := (.object "java/util/List")) (by decide) (by decide)))
  have f39 := fq5_0.wr W8
  have f40 := f39.keep K27
  have f41 := f40.wr W33
  have ne42 : br ≠ x5 := Nat.ne_of_lt (Nat.lt_of_lt_of_le P0.lt xq5_fresh_x)
  have f43 := fq5_1.other W8 (Or.inl (Ne.symm ne42))
  have f44 := f43.keep K27 nin0
  have f45 := f44.other W33 (Or.inl (Ne.symm ne42))
  have f46 := fq5_2.other W8 (Or.inl (Ne.symm ne42))
  have f47 := f46.keep K27 nin0
  have f48 := f47.other W33 (Or.inl (Ne.symm ne42))
  have ne49 : br ≠ uu5 := Nat.ne_of_lt (Nat.lt_of_lt_of_le P0.lt xq5_fresh_uu)
  have f50 := fq5_3.other W8 (Ne.symm ne49)
  have f51 := f50.keep K27 nin0
  have f52 := f51.other W33 (Ne.symm ne49)
  exact own_retV X33 hx hret hlk (hb hby d18_66) (by decide) (by decide) (by rw [e33]; exact ⟨x5, uu5, rfl, N33, f35, f36, f38, f41, f45, f48, f52, (Nat.le_trans (Keep.refl h0 [br]).1 xq5_fresh_x), (Nat.le_trans (Keep.refl h0 [br]).1 xq5_fresh_uu)⟩)
theorem ef_bri_4 (m : MethodId) (x0 : Addr) (x1 : Addr) (x2 : Addr) : entryFrame m #[(.ref x0), (.ref x1), (.ref x2)] 3 = mkF m 0 #[rv x0, rv x1, rv x2] [] := by first | (simp [entryFrame, mkF, argsToLocals, Value.category]; done) | rfl
def Q_bri_4 (Z : State) (br : Addr) (a1 : Addr) (t1 : Addr) (a2 : Addr) (t2 : Addr) (kO : ClassId) (mir : Addr) (y0 : Addr) (y1 : Addr) (y2 : Addr) (y3 : Addr) (z0 : Addr) (z1 : Addr) (z2 : Addr) (h0 : Heap) (n0 : Nat) (v : Option Value) (h : Heap) (L : List Loc) : Prop := ∃ (x : Addr) (uu : Addr), (v = none) ∧ (Fr n0 L) ∧ (Keep h0 h [br]) ∧ (Exa Z h br "com/example/rights_leak_checker/rightsleakchecker/takegrant/Bridge") ∧ (Fld Z h br "com/example/rights_leak_checker/rightsleakchecker/takegrant/Bridge" "walk" "Ljava/util/List;" (.ref x)) ∧ (Exa Z h x "java/util/ImmutableCollections$ListN") ∧ (Fld Z h x "java/util/ImmutableCollections$ListN" "elements" "[Ljava/lang/Object;" (.ref uu)) ∧ (Fld Z h x "java/util/ImmutableCollections$ListN" "allowNulls" "Z" (.int (0 : Int32))) ∧ (Arv Z h uu kO (.object "java/lang/Object") (4 : Int32) [(.ref y0), (.ref y1), (.ref y2), (.ref y3)] .null) ∧ (h0.size ≤ x) ∧ (h0.size ≤ uu)
set_option maxRecDepth 65536 in
set_option maxHeartbeats 40000000 in
theorem rm_bri_4 (l : Launch) (Z : State) (a0 : Array Value) (hw : ∀ d ∈ tables_1, d.before a0 Z = true) (ws : List Jvm.Cond) (br : Addr) (a1 : Addr) (t1 : Addr) (a2 : Addr) (t2 : Addr) (kO : ClassId) (mir : Addr) (y0 : Addr) (y1 : Addr) (y2 : Addr) (y3 : Addr) (z0 : Addr) (z1 : Addr) (z2 : Addr) (h0 : Heap) (n0 : Nat) (O0 : Old Z n0 h0) (P0 : Exa Z h0 br "com/example/rights_leak_checker/rightsleakchecker/takegrant/Bridge") (P1 : Fld Z h0 br "com/example/rights_leak_checker/rightsleakchecker/takegrant/Bridge" "walk" "Ljava/util/List;" .null) (P2 : Fld Z h0 br "com/example/rights_leak_checker/rightsleakchecker/takegrant/Bridge" "letters" "Ljava/util/List;" .null) (fb : n0 ≤ br) (nab : br ≠ a2) (E_a1 : Exa Z h0 a1 "java/util/ArrayList") (Fe_a1 : Fld Z h0 a1 "java/util/ArrayList" "elementData" "[Ljava/lang/Object;" (.ref t1)) (Fz_a1 : Fld Z h0 a1 "java/util/ArrayList" "size" "I" (.int (4 : Int32))) (V_a1 : Arv Z h0 t1 kO (.object "java/lang/Object") (10 : Int32) [(.ref y0), (.ref y1), (.ref y2), (.ref y3), .null, .null, .null, .null, .null, .null] .null) (E_a2 : Exa Z h0 a2 "java/util/ArrayList") (Fe_a2 : Fld Z h0 a2 "java/util/ArrayList" "elementData" "[Ljava/lang/Object;" (.ref t2)) (Fz_a2 : Fld Z h0 a2 "java/util/ArrayList" "size" "I" (.int (3 : Int32))) (V_a2 : Arv Z h0 t2 kO (.object "java/lang/Object") (10 : Int32) [(.ref z0), (.ref z1), (.ref z2), .null, .null, .null, .null, .null, .null, .null] .null) (OV : Ovr Z kO "java/lang/Object") (FC : Z.vm.findClass "[Ljava/lang/Object;" = some kO) (MIR : own_Mir Z "[Ljava/lang/Object;" mir) (I_y0 : Ins Z h0 y0 "java/lang/Object" true) (I_y1 : Ins Z h0 y1 "java/lang/Object" true) (I_y2 : Ins Z h0 y2 "java/lang/Object" true) (I_y3 : Ins Z h0 y3 "java/lang/Object" true) (I_z0 : Ins Z h0 z0 "java/lang/Object" true) (I_z1 : Ins Z h0 z1 "java/lang/Object" true) (I_z2 : Ins Z h0 z2 "java/lang/Object" true) :
    own_MF l own_m35 (Jvm.Cond.code own_m35 prog_42_method_1_code 3 none :: ws) ({ frames := 9, cells := 6, slots := 18, locals := 116 } : Room) #[(.ref br), (.ref a1), (.ref a2)] Z h0 (Q_bri_4 Z br a1 t1 a2 t2 kO mir y0 y1 y2 y3 z0 z1 z2 h0 n0) := by
  refine own_met (own := "com/example/rights_leak_checker/rightsleakchecker/takegrant/Bridge") (nme := "<init>") rfl rfl (plainFor_of_name pn_15) ?_
  intro p e s m below meth c s₁ hx hby hml hown hnm X0 e0 hret hlk hZ
  have N0 := Fr.nil n0
  rw [ef_bri_4 m br a1 a2]
  refine own_st (T' := s₁) (g' := (mkF m 1 #[rv br, rv a1, rv a2] [(.ref br)])) (fun _ k_ => XS.aloadN X0.here hx rfl (hb hby d18_0) rfl rfl  k_) ?_
  obtain ⟨T1, X1, e1, st1⟩ := initO X0 hx hZ hown (wd hw 111 rfl) (wd hw 27 rfl) (wd hw 28 rfl) e0 (g := (mkF m 1 #[rv br, rv a1, rv a2] [(.ref br)])) rfl (by rw [hml]; rfl) rfl (hb hby d18_1) (by decide) (W := 0) (by show 2 * 0 + _ ≤ _; exact Nat.le_of_eq rfl) (by decide)
  refine own_st (T' := T1) (g' := (mkF m 4 #[rv br, rv a1, rv a2] [])) st1 ?_
  clear st1
  refine own_st (T' := T1) (g' := (mkF m 5 #[rv br, rv a1, rv a2] [(.ref a1)])) (fun _ k_ => XS.aloadN X1.here hx rfl (hb hby d18_4) rfl rfl  k_) ?_
  obtain ⟨cq2, kq2, q2a, q2b, q2c⟩ := isOf hZ e1 E_a1
  obtain ⟨_, T2, L2, X2, hQ2, st2⟩ := own_callF X1 hx (xi := own_m34) (y := own_m14) hown (mvT hZ (wd hw 112 rfl)) (mvT hZ (wd hw 113 rfl)) (mvT hZ (wd hw 114 rfl)) (mvT hZ (wd hw 115 rfl)) (mvT hZ (wd hw 116 rfl)) (mvT hZ (wd hw 117 rfl)) (mvT hZ (wd hw 118 rfl)) (mvT hZ (wd hw 119 rfl)) (by decide) (backOf (W := 0) (rm_alsz l Z a0 hw [] a1 (4 : Int32) h0 n0 O0 Fz_a1) hZ (wd hw 120 rfl) (wd hw 45 rfl) (by decide) (by decide)) q2a q2b q2c (g := (mkF m 5 #[rv br, rv a1, rv a2] [(.ref a1)])) rfl (by rw [hml]; rfl) (argsL := []) (rest := []) (lenOf pd___I rfl) rfl (by show 2 * 0 + _ ≤ _; exact Nat.le_of_eq rfl) (hb hby d18_5) rfl e1 (by decide) (by decide) (c' := 0) (s' := 0) rfl rfl
  clear q2a q2b q2c kq2 cq2
  obtain ⟨rfl, Nq2, eq2⟩ := hQ2
  have N2 := Fr.app N0 Nq2
  refine own_st (T' := T2) (g' := (mkF m 10 #[rv br, rv a1, rv a2] [(.int (4 : Int32))])) st2 ?_
  clear st2
  refine own_st (T' := T2) (g' := (mkF m 11 #[rv br, rv a1, rv a2] [(.int (2 : Int32)), (.int (4 : Int32))])) (fun _ k_ => XS.iconst X2.here hx rfl (hb hby d18_10) k_) ?_
  refine own_st (T' := T2) (g' := (mkF m 14 #[rv br, rv a1, rv a2] [])) (fun _ k_ => XS.icmpNo X2.here hx rfl (hb hby d18_11) rfl (flt (by decide : ¬ ((4 : Int32) < (2 : Int32)))).1 k_) ?_
  refine own_st (T' := T2) (g' := (mkF m 15 #[rv br, rv a1, rv a2] [(.ref a2)])) (fun _ k_ => XS.aloadN X2.here hx rfl (hb hby d18_14) rfl rfl  k_) ?_
  obtain ⟨cq3, kq3, q3a, q3b, q3c⟩ := isOf hZ eq2 E_a2
  obtain ⟨_, T3, L3, X3, hQ3, st3⟩ := own_callF X2 hx (xi := own_m34) (y := own_m14) hown (mvT hZ (wd hw 112 rfl)) (mvT hZ (wd hw 113 rfl)) (mvT hZ (wd hw 114 rfl)) (mvT hZ (wd hw 115 rfl)) (mvT hZ (wd hw 116 rfl)) (mvT hZ (wd hw 117 rfl)) (mvT hZ (wd hw 118 rfl)) (mvT hZ (wd hw 119 rfl)) (by decide) (backOf (W := 0) (rm_alsz l Z a0 hw [] a2 (3 : Int32) h0 n0 O0 Fz_a2) hZ (wd hw 120 rfl) (wd hw 45 rfl) (by decide) (by decide)) q3a q3b q3c (g := (mkF m 15 #[rv br, rv a1, rv a2] [(.ref a2)])) rfl (by rw [hml]; rfl) (argsL := []) (rest := []) (lenOf pd___I rfl) rfl (by show 2 * 0 + _ ≤ _; exact Nat.le_of_eq rfl) (hb hby d18_15) rfl eq2 (by decide) (by decide) (c' := 0) (s' := 0) rfl rfl
  clear q3a q3b q3c kq3 cq3
  obtain ⟨rfl, Nq3, eq3⟩ := hQ3
  have N3 := Fr.app N2 Nq3
  refine own_st (T' := T3) (g' := (mkF m 20 #[rv br, rv a1, rv a2] [(.int (3 : Int32))])) st3 ?_
  clear st3
  refine own_st (T' := T3) (g' := (mkF m 21 #[rv br, rv a1, rv a2] [(.ref a1), (.int (3 : Int32))])) (fun _ k_ => XS.aloadN X3.here hx rfl (hb hby d18_20) rfl rfl  k_) ?_
  obtain ⟨cq4, kq4, q4a, q4b, q4c⟩ := isOf hZ eq3 E_a1
  obtain ⟨_, T4, L4, X4, hQ4, st4⟩ := own_callF X3 hx (xi := own_m34) (y := own_m14) hown (mvT hZ (wd hw 112 rfl)) (mvT hZ (wd hw 113 rfl)) (mvT hZ (wd hw 114 rfl)) (mvT hZ (wd hw 115 rfl)) (mvT hZ (wd hw 116 rfl)) (mvT hZ (wd hw 117 rfl)) (mvT hZ (wd hw 118 rfl)) (mvT hZ (wd hw 119 rfl)) (by decide) (backOf (W := 1) (rm_alsz l Z a0 hw [] a1 (4 : Int32) h0 n0 O0 Fz_a1) hZ (wd hw 120 rfl) (wd hw 45 rfl) (by decide) (by decide)) q4a q4b q4c (g := (mkF m 21 #[rv br, rv a1, rv a2] [(.ref a1), (.int (3 : Int32))])) rfl (by rw [hml]; rfl) (argsL := []) (rest := [(.int (3 : Int32))]) (lenOf pd___I rfl) rfl (by show 2 * 0 + _ ≤ _; exact Nat.le_of_eq rfl) (hb hby d18_21) rfl eq3 (by decide) (by decide) (c' := 0) (s' := 0) rfl rfl
  clear q4a q4b q4c kq4 cq4
  obtain ⟨rfl, Nq4, eq4⟩ := hQ4
  have N4 := Fr.app N3 Nq4
  refine own_st (T' := T4) (g' := (mkF m 26 #[rv br, rv a1, rv a2] [(.int (4 : Int32)), (.int (3 : Int32))])) st4 ?_
  clear st4
  refine own_st (T' := T4) (g' := (mkF m 27 #[rv br, rv a1, rv a2] [(.int (1 : Int32)), (.int (4 : Int32)), (.int (3 : Int32))])) (fun _ k_ => XS.iconst X4.here hx rfl (hb hby d18_26) k_) ?_
  refine own_st (T' := T4) (g' := (mkF m 28 #[rv br, rv a1, rv a2] [(.int (3 : Int32)), (.int (3 : Int32))])) (fun _ k_ => XS.isub X4.here hx rfl (hb hby d18_27) rfl k_) ?_
  refine own_st (T' := T4) (g' := (mkF m 50 #[rv br, rv a1, rv a2] [])) (fun _ k_ => XS.icmpYes X4.here hx rfl (pc0 := 28) (pc' := 50) rfl (hb hby d18_28) rfl (teq (rfl : (3 : Int32) = (3 : Int32))).1 (by decide) (by decide) k_) ?_
  refine own_st (T' := T4) (g' := (mkF m 51 #[rv br, rv a1, rv a2] [(.ref br)])) (fun _ k_ => XS.aloadN X4.here hx rfl (hb hby d18_50) rfl rfl  k_) ?_
  refine own_st (T' := T4) (g' := (mkF m 52 #[rv br, rv a1, rv a2] [(.ref a1), (.ref br)])) (fun _ k_ => XS.aloadN X4.here hx rfl (hb hby d18_51) rfl rfl  k_) ?_
  obtain ⟨_, T5, L5, X5, hQ5, st5⟩ := own_callS X4 hx (y := own_m30) hown (mvT hZ (wd hw 121 rfl)) (mvT hZ (wd hw 122 rfl)) (mvT hZ (wd hw 123 rfl)) (mvT hZ (wd hw 124 rfl)) (by decide) (backOf (W := 1) (rm_cpy_4 l Z a0 hw [] a1 t1 kO mir y0 y1 y2 y3 h0 n0 O0 E_a1 Fe_a1 Fz_a1 V_a1 OV FC MIR I_y0 I_y1 I_y2 I_y3) hZ (wd hw 124 rfl) (wd hw 123 rfl) (by decide) (by decide)) (g := (mkF m 52 #[rv br, rv a1, rv a2] [(.ref a1), (.ref br)])) rfl (by rw [hml]; rfl) (argsL := [(.ref a1)]) (rest := [(.ref br)]) (lenOf pd__Ljava_util_Collection__Ljava_util_List_ rfl) rfl (by show 2 * 0 + _ ≤ _; exact Nat.le_of_eq rfl) (hb hby d18_52) rfl eq4 (by decide) (by decide) (c' := 3) (s' := 10) rfl rfl
  obtain ⟨x5, uu5, rfl, Nq5, K5, fq5_0, fq5_1, fq5_2, fq5_3, xq5_fresh_x, xq5_fresh_uu⟩ := hQ5
  have N5 := Fr.app N4 Nq5
  refine own_st (T' := T5) (g' := (mkF m 55 #[rv br, rv a1, rv a2] [(.ref x5), (.ref br)])) st5 ?_
  clear st5
  have f6 := P0.keep K5
  have f7 := P1.keep K5 nin0
  obtain ⟨T8, h8, X8, e8, W8, st8⟩ := putF X5 hx hZ hown (host := "") (Or.inl (wd hw 206 rfl)) Via.refl rfl f7 f6 (Or.inr ⟨(wd hw 207 rfl), rfl, hnm⟩) (wd hw 106 rfl) (ty := (.object "java/util/List")) (by decide) rfl rfl (g := (mkF m 55 #[rv br, rv a1, rv a2] [(.ref x5), (.ref br)])) rfl rfl (hb hby d18_55)
  have Fw8 : Fld Z h8 br "com/example/rights_leak_checker/rightsleakchecker/takegrant/Bridge" "walk" "Ljava/util/List;" (.ref x5) := Fld.same W8 f7
  have N8 := Fr.snoc X8 N5 fb
  refine own_st (T' := T8) (g' := (mkF m 58 #[rv br, rv a1, rv a2] [])) st8 ?_
  clear st8
  refine own_st (T' := T8) (g' := (mkF m 59 #[rv br, rv a1, rv a2] [(.ref br)])) (fun _ k_ => XS.aloadN X8.here hx rfl (hb hby d18_58) rfl rfl  k_) ?_
  refine own_st (T' := T8) (g' := (mkF m 60 #[rv br, rv a1, rv a2] [(.ref a2), (.ref br)])) (fun _ k_ => XS.aloadN X8.here hx rfl (hb hby d18_59) rfl rfl  k_) ?_
  have f9 := E_a2.keep K5
  have f10 := f9.wr W8
  have f11 := Fe_a2.keep K5 nin0
  have f12 := f11.other W8 (Or.inl (Ne.symm nab))
  have f13 := Fz_a2.keep K5 nin0
  have f14 := f13.other W8 (Or.inl (Ne.symm nab))
  have f15 := V_a2.keep K5 nin0
  have xe16 : Exa Z T5.heap br "com/example/rights_leak_checker/rightsleakchecker/takegrant/Bridge" := P0.keep K5
  have ne17 : br ≠ t2 := own_neA xe16 (wd hw 106 rfl) f15
  have f18 := f15.other W8 (Ne.symm ne17)
  have f19 := own_insK I_z0 K5
  have f20 := Ins.wr W8 f19
  have f21 := own_insK I_z1 K5
  have f22 := Ins.wr W8 f21
  have f23 := own_insK I_z2 K5
  have f24 := Ins.wr W8 f23
  have f25 := O0.keep K5 all0
  have f26 := f25.wr W8 fb
  have f27 := (Keep.refl h0 [br]).trans K5 all0
  have f28 := f27.wr W8 (Or.inl (List.mem_of_getElem? (i := 0) rfl))
  obtain ⟨_, T29, L29, X29, hQ29, st29⟩ := own_callS X8 hx (y := own_m30) hown (mvT hZ (wd hw 121 rfl)) (mvT hZ (wd hw 122 rfl)) (mvT hZ (wd hw 123 rfl)) (mvT hZ (wd hw 124 rfl)) (by decide) (backOf (W := 1) (rm_cpy_3 l Z a0 hw [] a2 t2 kO mir z0 z1 z2 h8 n0 f26 f10 f12 f14 f18 OV FC MIR f20 f22 f24) hZ (wd hw 124 rfl) (wd hw 123 rfl) (by decide) (by decide)) (g := (mkF m 60 #[rv br, rv a1, rv a2] [(.ref a2), (.ref br)])) rfl (by rw [hml]; rfl) (argsL := [(.ref a2)]) (rest := [(.ref br)]) (lenOf pd__Ljava_util_Collection__Ljava_util_List_ rfl) rfl (by show 2 * 0 + _ ≤ _; exact Nat.le_of_eq rfl) (hb hby d18_60) rfl e8 (by decide) (by decide) (c' := 6) (s' := 18) rfl rfl
  obtain ⟨x29, uu29, rfl, Nq29, K29, fq29_0, fq29_1, fq29_2, fq29_3, xq29_fresh_x, xq29_fresh_uu⟩ := hQ29
  have N29 := Fr.app N8 Nq29
  refine own_st (T' := T29) (g' := (mkF m 63 #[rv br, rv a1, rv a2] [(.ref x29), (.ref br)])) st29 ?_
  clear st29
  have f30 := f6.wr W8
  have f31 := f30.keep K29
  have f32 := P2.keep K5 nin0
  have f33 := f32.other W8 (Or.inr (slot_ne (Or.inr (wd hw 213 rfl)) (Or.inr (wd hw 207 rfl)) (by decide) (t := (.object "java/util/List")) (t' := (.object "java/util/List")) (by decide) (by decide)))
  have f34 := f33.keep K29 nin0
  obtain ⟨T35, h35, X35, e35, W35, st35⟩ := putF X29 hx hZ hown (host := "") (Or.inl (wd hw 212 rfl)) Via.refl rfl f34 f31 (Or.inr ⟨(wd hw 213 rfl), rfl, hnm⟩) (wd hw 106 rfl) (ty := (.object "java/util/List")) (by decide) rfl rfl (g := (mkF m 63 #[rv br, rv a1, rv a2] [(.ref x29), (.ref br)])) rfl rfl (hb hby d18_63)
  have Fw35 : Fld Z h35 br "com/example/rights_leak_checker/rightsleakchecker/takegrant/Bridge" "letters" "Ljava/util/List;" (.ref x29) := Fld.same W35 f34
  have N35 := Fr.snoc X35 N29 fb
  refine own_st (T' := T35) (g' := (mkF m 66 #[rv br, rv a1, rv a2] [])) st35 ?_
  clear st35
  have f36 := f28.trans K29 all0
  have f37 := f36.wr W35 (Or.inl (List.mem_of_getElem? (i := 0) rfl))
  have f38 := f31.wr W35
  have f39 := Fw8.keep K29 nin0
  have f40 := f39.other W35 (Or.inr (slot_ne (Or.inr (wd hw 207 rfl)) (Or.inr (wd hw 213 rfl)) (by decide) (t := (.object "java/util/List")) (t' := (.object "java/util/List")) (by decide) (by decide)))
  have f41 := fq5_0.wr W8
  have f42 := f41.keep K29
  have f43 := f42.wr W35
  have ne44 : br ≠ x5 := Nat.ne_of_lt (Nat.lt_of_lt_of_le P0.lt xq5_fresh_x)
  have f45 := fq5_1.other W8 (Or.inl (Ne.symm ne44))
  have f46 := f45.keep K29 nin0
  have f47 := f46.other W35 (Or.inl (Ne.symm ne44))
  have f48 := fq5_2.other W8 (Or.inl (Ne.symm ne44))
  have f49 := f48.keep K29 nin0
  have f50 := f49.other W35 (Or.inl (Ne.symm ne44))
  have ne51 : br ≠ uu5 := Nat.ne_of_lt (Nat.lt_of_lt_of_le P0.lt xq5_fresh_uu)
  have f52 := fq5_3.other W8 (Ne.symm ne51)
  have f53 := f52.keep K29 nin0
  have f54 := f53.other W35 (Ne.symm ne51)
  exact own_retV X35 hx hret hlk (hb hby d18_66) (by decide) (by decide) (by rw [e35]; exact ⟨x5, uu5, rfl, N35, f37, f38, f40, f43, f47, f50, f54, (Nat.le_trans (Keep.refl h0 [br]).1 xq5_fresh_x), (Nat.le_trans (Keep.refl h0 [br]).1 xq5_fresh_uu)⟩)
theorem ef_bri_5 (m : MethodId) (x0 : Addr) (x1 : Addr) (x2 : Addr) : entryFrame m #[(.ref x0), (.ref x1), (.ref x2)] 3 = mkF m 0 #[rv x0, rv x1, rv x2] [] := by first | (simp [entryFrame, mkF, argsToLocals, Value.category]; done) | rfl
def Q_bri_5 (Z : State) (br : Addr) (a1 : Addr) (t1 : Addr) (a2 : Addr) (t2 : Addr) (kO : ClassId) (mir : Addr) (y0 : Addr) (y1 : Addr) (y2 : Addr) (y3 : Addr) (y4 : Addr) (z0 : Addr) (z1 : Addr) (z2 : Addr) (z3 : Addr) (h0 : Heap) (n0 : Nat) (v : Option Value) (h : Heap) (L : List Loc) : Prop := ∃ (x : Addr) (uu : Addr), (v = none) ∧ (Fr n0 L) ∧ (Keep h0 h [br]) ∧ (Exa Z h br "com/example/rights_leak_checker/rightsleakchecker/takegrant/Bridge") ∧ (Fld Z h br "com/example/rights_leak_checker/rightsleakchecker/takegrant/Bridge" "walk" "Ljava/util/List;" (.ref x)) ∧ (Exa Z h x "java/util/ImmutableCollections$ListN") ∧ (Fld Z h x "java/util/ImmutableCollections$ListN" "elements" "[Ljava/lang/Object;" (.ref uu)) ∧ (Fld Z h x "java/util/ImmutableCollections$ListN" "allowNulls" "Z" (.int (0 : Int32))) ∧ (Arv Z h uu kO (.object "java/lang/Object") (5 : Int32) [(.ref y0), (.ref y1), (.ref y2), (.ref y3), (.ref y4)] .null) ∧ (h0.size ≤ x) ∧ (h0.size ≤ uu)
set_option maxRecDepth 65536 in
set_option maxHeartbeats 40000000 in
theorem rm_bri_5 (l : Launch) (Z : State) (a0 : Array Value) (hw : ∀ d ∈ tables_1, d.before a0 Z = true) (ws : List Jvm.Cond) (br : Addr) (a1 : Addr) (t1 : Addr) (a2 : Addr) (t2 : Addr) (kO : ClassId) (mir : Addr) (y0 : Addr) (y1 : Addr) (y2 : Addr) (y3 : Addr) (y4 : Addr) (z0 : Addr) (z1 : Addr) (z2 : Addr) (z3 : Addr) (h0 : Heap) (n0 : Nat) (O0 : Old Z n0 h0) (P0 : Exa Z h0 br "com/example/rights_leak_checker/rightsleakchecker/takegrant/Bridge") (P1 : Fld Z h0 br "com/example/rights_leak_checker/rightsleakchecker/takegrant/Bridge" "walk" "Ljava/util/List;" .null) (P2 : Fld Z h0 br "com/example/rights_leak_checker/rightsleakchecker/takegrant/Bridge" "letters" "Ljava/util/List;" .null) (fb : n0 ≤ br) (nab : br ≠ a2) (E_a1 : Exa Z h0 a1 "java/util/ArrayList") (Fe_a1 : Fld Z h0 a1 "java/util/ArrayList" "elementData" "[Ljava/lang/Object;" (.ref t1)) (Fz_a1 : Fld Z h0 a1 "java/util/ArrayList" "size" "I" (.int (5 : Int32))) (V_a1 : Arv Z h0 t1 kO (.object "java/lang/Object") (10 : Int32) [(.ref y0), (.ref y1), (.ref y2), (.ref y3), (.ref y4), .null, .null, .null, .null, .null] .null) (E_a2 : Exa Z h0 a2 "java/util/ArrayList") (Fe_a2 : Fld Z h0 a2 "java/util/ArrayList" "elementData" "[Ljava/lang/Object;" (.ref t2)) (Fz_a2 : Fld Z h0 a2 "java/util/ArrayList" "size" "I" (.int (4 : Int32))) (V_a2 : Arv Z h0 t2 kO (.object "java/lang/Object") (10 : Int32) [(.ref z0), (.ref z1), (.ref z2), (.ref z3), .null, .null, .null, .null, .null, .null] .null) (OV : Ovr Z kO "java/lang/Object") (FC : Z.vm.findClass "[Ljava/lang/Object;" = some kO) (MIR : own_Mir Z "[Ljava/lang/Object;" mir) (I_y0 : Ins Z h0 y0 "java/lang/Object" true) (I_y1 : Ins Z h0 y1 "java/lang/Object" true) (I_y2 : Ins Z h0 y2 "java/lang/Object" true) (I_y3 : Ins Z h0 y3 "java/lang/Object" true) (I_y4 : Ins Z h0 y4 "java/lang/Object" true) (I_z0 : Ins Z h0 z0 "java/lang/Object" true) (I_z1 : Ins Z h0 z1 "java/lang/Object" true) (I_z2 : Ins Z h0 z2 "java/lang/Object" true) (I_z3 : Ins Z h0 z3 "java/lang/Object" true) :
    own_MF l own_m35 (Jvm.Cond.code own_m35 prog_42_method_1_code 3 none :: ws) ({ frames := 9, cells := 6, slots := 22, locals := 116 } : Room) #[(.ref br), (.ref a1), (.ref a2)] Z h0 (Q_bri_5 Z br a1 t1 a2 t2 kO mir y0 y1 y2 y3 y4 z0 z1 z2 z3 h0 n0) := by
  refine own_met (own := "com/example/rights_leak_checker/rightsleakchecker/takegrant/Bridge") (nme := "<init>") rfl rfl (plainFor_of_name pn_15) ?_
  intro p e s m below meth c s₁ hx hby hml hown hnm X0 e0 hret hlk hZ
  have N0 := Fr.nil n0
  rw [ef_bri_5 m br a1 a2]
  refine own_st (T' := s₁) (g' := (mkF m 1 #[rv br, rv a1, rv a2] [(.ref br)])) (fun _ k_ => XS.aloadN X0.here hx rfl (hb hby d18_0) rfl rfl  k_) ?_
  obtain ⟨T1, X1, e1, st1⟩ := initO X0 hx hZ hown (wd hw 111 rfl) (wd hw 27 rfl) (wd hw 28 rfl) e0 (g := (mkF m 1 #[rv br, rv a1, rv a2] [(.ref br)])) rfl (by rw [hml]; rfl) rfl (hb hby d18_1) (by decide) (W := 0) (by show 2 * 0 + _ ≤ _; exact Nat.le_of_eq rfl) (by decide)
  refine own_st (T' := T1) (g' := (mkF m 4 #[rv br, rv a1, rv a2] [])) st1 ?_
  clear st1
  refine own_st (T' := T1) (g' := (mkF m 5 #[rv br, rv a1, rv a2] [(.ref a1)])) (fun _ k_ => XS.aloadN X1.here hx rfl (hb hby d18_4) rfl rfl  k_) ?_
  obtain ⟨cq2, kq2, q2a, q2b, q2c⟩ := isOf hZ e1 E_a1
  obtain ⟨_, T2, L2, X2, hQ2, st2⟩ := own_callF X1 hx (xi := own_m34) (y := own_m14) hown (mvT hZ (wd hw 112 rfl)) (mvT hZ (wd hw 113 rfl)) (mvT hZ (wd hw 114 rfl)) (mvT hZ (wd hw 115 rfl)) (mvT hZ (wd hw 116 rfl)) (mvT hZ (wd hw 117 rfl)) (mvT hZ (wd hw 118 rfl)) (mvT hZ (wd hw 119 rfl)) (by decide) (backOf (W := 0) (rm_alsz l Z a0 hw [] a1 (5 : Int32) h0 n0 O0 Fz_a1) hZ (wd hw 120 rfl) (wd hw 45 rfl) (by decide) (by decide)) q2a q2b q2c (g := (mkF m 5 #[rv br, rv a1, rv a2] [(.ref a1)])) rfl (by rw [hml]; rfl) (argsL := []) (rest := []) (lenOf pd___I rfl) rfl (by show 2 * 0 + _ ≤ _; exact Nat.le_of_eq rfl) (hb hby d18_5) rfl e1 (by decide) (by decide) (c' := 0) (s' := 0) rfl rfl
  clear q2a q2b q2c kq2 cq2
  obtain ⟨rfl, Nq2, eq2⟩ := hQ2
  have N2 := Fr.app N0 Nq2
  refine own_st (T' := T2) (g' := (mkF m 10 #[rv br, rv a1, rv a2] [(.int (5 : Int32))])) st2 ?_
  clear st2
  refine own_st (T' := T2) (g' := (mkF m 11 #[rv br, rv a1, rv a2] [(.int (2 : Int32)), (.int (5 : Int32))])) (fun _ k_ => XS.iconst X2.here hx rfl (hb hby d18_10) k_) ?_
  refine own_st (T' := T2) (g' := (mkF m 14 #[rv br, rv a1, rv a2] [])) (fun _ k_ => XS.icmpNo X2.here hx rfl (hb hby d18_11) rfl (flt (by decide : ¬ ((5 : Int32) < (2 : Int32)))).1 k_) ?_
  refine own_st (T' := T2) (g' := (mkF m 15 #[rv br, rv a1, rv a2] [(.ref a2)])) (fun _ k_ => XS.aloadN X2.here hx rfl (hb hby d18_14) rfl rfl  k_) ?_
  obtain ⟨cq3, kq3, q3a, q3b, q3c⟩ := isOf hZ eq2 E_a2
  obtain ⟨_, T3, L3, X3, hQ3, st3⟩ := own_callF X2 hx (xi := own_m34) (y := own_m14) hown (mvT hZ (wd hw 112 rfl)) (mvT hZ (wd hw 113 rfl)) (mvT hZ (wd hw 114 rfl)) (mvT hZ (wd hw 115 rfl)) (mvT hZ (wd hw 116 rfl)) (mvT hZ (wd hw 117 rfl)) (mvT hZ (wd hw 118 rfl)) (mvT hZ (wd hw 119 rfl)) (by decide) (backOf (W := 0) (rm_alsz l Z a0 hw [] a2 (4 : Int32) h0 n0 O0 Fz_a2) hZ (wd hw 120 rfl) (wd hw 45 rfl) (by decide) (by decide)) q3a q3b q3c (g := (mkF m 15 #[rv br, rv a1, rv a2] [(.ref a2)])) rfl (by rw [hml]; rfl) (argsL := []) (rest := []) (lenOf pd___I rfl) rfl (by show 2 * 0 + _ ≤ _; exact Nat.le_of_eq rfl) (hb hby d18_15) rfl eq2 (by decide) (by decide) (c' := 0) (s' := 0) rfl rfl
  clear q3a q3b q3c kq3 cq3
  obtain ⟨rfl, Nq3, eq3⟩ := hQ3
  have N3 := Fr.app N2 Nq3
  refine own_st (T' := T3) (g' := (mkF m 20 #[rv br, rv a1, rv a2] [(.int (4 : Int32))])) st3 ?_
  clear st3
  refine own_st (T' := T3) (g' := (mkF m 21 #[rv br, rv a1, rv a2] [(.ref a1), (.int (4 : Int32))])) (fun _ k_ => XS.aloadN X3.here hx rfl (hb hby d18_20) rfl rfl  k_) ?_
  obtain ⟨cq4, kq4, q4a, q4b, q4c⟩ := isOf hZ eq3 E_a1
  obtain ⟨_, T4, L4, X4, hQ4, st4⟩ := own_callF X3 hx (xi := own_m34) (y := own_m14) hown (mvT hZ (wd hw 112 rfl)) (mvT hZ (wd hw 113 rfl)) (mvT hZ (wd hw 114 rfl)) (mvT hZ (wd hw 115 rfl)) (mvT hZ (wd hw 116 rfl)) (mvT hZ (wd hw 117 rfl)) (mvT hZ (wd hw 118 rfl)) (mvT hZ (wd hw 119 rfl)) (by decide) (backOf (W := 1) (rm_alsz l Z a0 hw [] a1 (5 : Int32) h0 n0 O0 Fz_a1) hZ (wd hw 120 rfl) (wd hw 45 rfl) (by decide) (by decide)) q4a q4b q4c (g := (mkF m 21 #[rv br, rv a1, rv a2] [(.ref a1), (.int (4 : Int32))])) rfl (by rw [hml]; rfl) (argsL := []) (rest := [(.int (4 : Int32))]) (lenOf pd___I rfl) rfl (by show 2 * 0 + _ ≤ _; exact Nat.le_of_eq rfl) (hb hby d18_21) rfl eq3 (by decide) (by decide) (c' := 0) (s' := 0) rfl rfl
  clear q4a q4b q4c kq4 cq4
  obtain ⟨rfl, Nq4, eq4⟩ := hQ4
  have N4 := Fr.app N3 Nq4
  refine own_st (T' := T4) (g' := (mkF m 26 #[rv br, rv a1, rv a2] [(.int (5 : Int32)), (.int (4 : Int32))])) st4 ?_
  clear st4
  refine own_st (T' := T4) (g' := (mkF m 27 #[rv br, rv a1, rv a2] [(.int (1 : Int32)), (.int (5 : Int32)), (.int (4 : Int32))])) (fun _ k_ => XS.iconst X4.here hx rfl (hb hby d18_26) k_) ?_
  refine own_st (T' := T4) (g' := (mkF m 28 #[rv br, rv a1, rv a2] [(.int (4 : Int32)), (.int (4 : Int32))])) (fun _ k_ => XS.isub X4.here hx rfl (hb hby d18_27) rfl k_) ?_
  refine own_st (T' := T4) (g' := (mkF m 50 #[rv br, rv a1, rv a2] [])) (fun _ k_ => XS.icmpYes X4.here hx rfl (pc0 := 28) (pc' := 50) rfl (hb hby d18_28) rfl (teq (rfl : (4 : Int32) = (4 : Int32))).1 (by decide) (by decide) k_) ?_
  refine own_st (T' := T4) (g' := (mkF m 51 #[rv br, rv a1, rv a2] [(.ref br)])) (fun _ k_ => XS.aloadN X4.here hx rfl (hb hby d18_50) rfl rfl  k_) ?_
  refine own_st (T' := T4) (g' := (mkF m 52 #[rv br, rv a1, rv a2] [(.ref a1), (.ref br)])) (fun _ k_ => XS.aloadN X4.here hx rfl (hb hby d18_51) rfl rfl  k_) ?_
  obtain ⟨_, T5, L5, X5, hQ5, st5⟩ := own_callS X4 hx (y := own_m30) hown (mvT hZ (wd hw 121 rfl)) (mvT hZ (wd hw 122 rfl)) (mvT hZ (wd hw 123 rfl)) (mvT hZ (wd hw 124 rfl)) (by decide) (backOf (W := 1) (rm_cpy_5 l Z a0 hw [] a1 t1 kO mir y0 y1 y2 y3 y4 h0 n0 O0 E_a1 Fe_a1 Fz_a1 V_a1 OV FC MIR I_y0 I_y1 I_y2 I_y3 I_y4) hZ (wd hw 124 rfl) (wd hw 123 rfl) (by decide) (by decide)) (g := (mkF m 52 #[rv br, rv a1, rv a2] [(.ref a1), (.ref br)])) rfl (by rw [hml]; rfl) (argsL := [(.ref a1)]) (rest := [(.ref br)]) (lenOf pd__Ljava_util_Collection__Ljava_util_List_ rfl) rfl (by show 2 * 0 + _ ≤ _; exact Nat.le_of_eq rfl) (hb hby d18_52) rfl eq4 (by decide) (by decide) (c' := 3) (s' := 12) rfl rfl
  obtain ⟨x5, uu5, rfl, Nq5, K5, fq5_0, fq5_1, fq5_2, fq5_3, xq5_fresh_x, xq5_fresh_uu⟩ := hQ5
  have N5 := Fr.app N4 Nq5
  refine own_st (T' := T5) (g' := (mkF m 55 #[rv br, rv a1, rv a2] [(.ref x5), (.ref br)])) st5 ?_
  clear st5
  have f6 := P0.keep K5
  have f7 := P1.keep K5 nin0
  obtain ⟨T8, h8, X8, e8, W8, st8⟩ := putF X5 hx hZ hown (host := "") (Or.inl (wd hw 206 rfl)) Via.refl rfl f7 f6 (Or.inr ⟨(wd hw 207 rfl), rfl, hnm⟩) (wd hw 106 rfl) (ty := (.object "java/util/List")) (by decide) rfl rfl (g := (mkF m 55 #[rv br, rv a1, rv a2] [(.ref x5), (.ref br)])) rfl rfl (hb hby d18_55)
  have Fw8 : Fld Z h8 br "com/example/rights_leak_checker/rightsleakchecker/takegrant/Bridge" "walk" "Ljava/util/List;" (.ref x5) := Fld.same W8 f7
  have N8 := Fr.snoc X8 N5 fb
  refine own_st (T' := T8) (g' := (mkF m 58 #[rv br, rv a1, rv a2] [])) st8 ?_
  clear st8
  refine own_st (T' := T8) (g' := (mkF m 59 #[rv br, rv a1, rv a2] [(.ref br)])) (fun _ k_ => XS.aloadN X8.here hx rfl (hb hby d18_58) rfl rfl  k_) ?_
  refine own_st (T' := T8) (g' := (mkF m 60 #[rv br, rv a1, rv a2] [(.ref a2), (.ref br)])) (fun _ k_ => XS.aloadN X8.here hx rfl (hb hby d18_59) rfl rfl  k_) ?_
  have f9 := E_a2.keep K5
  have f10 := f9.wr W8
  have f11 := Fe_a2.keep K5 nin0
  have f12 := f11.other W8 (Or.inl (Ne.symm nab))
  have f13 := Fz_a2.keep K5 nin0
  have f14 := f13.other W8 (Or.inl (Ne.symm nab))
  have f15 := V_a2.keep K5 nin0
  have xe16 : Exa Z T5.heap br "com/example/rights_leak_checker/rightsleakchecker/takegrant/Bridge" := P0.keep K5
  have ne17 : br ≠ t2 := own_neA xe16 (wd hw 106 rfl) f15
  have f18 := f15.other W8 (Ne.symm ne17)
  have f19 := own_insK I_z0 K5
  have f20 := Ins.wr W8 f19
  have f21 := own_insK I_z1 K5
  have f22 := Ins.wr W8 f21
  have f23 := own_insK I_z2 K5
  have f24 := Ins.wr W8 f23
  have f25 := own_insK I_z3 K5
  have f26 := Ins.wr W8 f25
  have f27 := O0.keep K5 all0
  have f28 := f27.wr W8 fb
  have f29 := (Keep.refl h0 [br]).trans K5 all0
  have f30 := f29.wr W8 (Or.inl (List.mem_of_getElem? (i := 0) rfl))
  obtain ⟨_, T31, L31, X31, hQ31, st31⟩ := own_callS X8 hx (y := own_m30) hown (mvT hZ (wd hw 121 rfl)) (mvT hZ (wd hw 122 rfl)) (mvT hZ (wd hw 123 rfl)) (mvT hZ (wd hw 124 rfl)) (by decide) (backOf (W := 1) (rm_cpy_4 l Z a0 hw [] a2 t2 kO mir z0 z1 z2 z3 h8 n0 f28 f10 f12 f14 f18 OV FC MIR f20 f22 f24 f26) hZ (wd hw 124 rfl) (wd hw 123 rfl) (by decide) (by decide)) (g := (mkF m 60 #[rv br, rv a1, rv a2] [(.ref a2), (.ref br)])) rfl (by rw [hml]; rfl) (argsL := [(.ref a2)]) (rest := [(.ref br)]) (lenOf pd__Ljava_util_Collection__Ljava_util_List_ rfl) rfl (by show 2 * 0 + _ ≤ _; exact Nat.le_of_eq rfl) (hb hby d18_60) rfl e8 (by decide) (by decide) (c' := 6) (s' := 22) rfl rfl
  obtain ⟨x31, uu31, rfl, Nq31, K31, fq31_0, fq31_1, fq31_2, fq31_3, xq31_fresh_x, xq31_fresh_uu⟩ := hQ31
  have N31 := Fr.app N8 Nq31
  refine own_st (T' := T31) (g' := (mkF m 63 #[rv br, rv a1, rv a2] [(.ref x31), (.ref br)])) st31 ?_
  clear st31
  have f32 := f6.wr W8
  have f33 := f32.keep K31
  have f34 := P2.keep K5 nin0
  have f35 := f34.other W8 (Or.inr (slot_ne (Or.inr (wd hw 213 rfl)) (Or.inr (wd hw 207 rfl)) (by decide) (t := (.object "java/util/List")) (t' := (.object "java/util/List")) (by decide) (by decide)))
  have f36 := f35.keep K31 nin0
  obtain ⟨T37, h37, X37, e37, W37, st37⟩ := putF X31 hx hZ hown (host := "") (Or.inl (wd hw 212 rfl)) Via.refl rfl f36 f33 (Or.inr ⟨(wd hw 213 rfl), rfl, hnm⟩) (wd hw 106 rfl) (ty := (.object "java/util/List")) (by decide) rfl rfl (g := (mkF m 63 #[rv br, rv a1, rv a2] [(.ref x31), (.ref br)])) rfl rfl (hb hby d18_63)
  have Fw37 : Fld Z h37 br "com/example/rights_leak_checker/rightsleakchecker/takegrant/Bridge" "letters" "Ljava/util/List;" (.ref x31) := Fld.same W37 f36
  have N37 := Fr.snoc X37 N31 fb
  refine own_st (T' := T37) (g' := (mkF m 66 #[rv br, rv a1, rv a2] [])) st37 ?_
  clear st37
  have f38 := f30.trans K31 all0
  have f39 := f38.wr W37 (Or.inl (List.mem_of_getElem? (i := 0) rfl))
  have f40 := f33.wr W37
  have f41 := Fw8.keep K31 nin0
  have f42 := f41.other W37 (Or.inr (slot_ne (Or.inr (wd hw 207 rfl)) (Or.inr (wd hw 213 rfl)) (by decide) (t := (.object "java/util/List")) (t' := (.object "java/util/List")) (by decide) (by decide)))
  have f43 := fq5_0.wr W8
  have f44 := f43.keep K31
  have f45 := f44.wr W37
  have ne46 : br ≠ x5 := Nat.ne_of_lt (Nat.lt_of_lt_of_le P0.lt xq5_fresh_x)
  have f47 := fq5_1.other W8 (Or.inl (Ne.symm ne46))
  have f48 := f47.keep K31 nin0
  have f49 := f48.other W37 (Or.inl (Ne.symm ne46))
  have f50 := fq5_2.other W8 (Or.inl (Ne.symm ne46))
  have f51 := f50.keep K31 nin0
  have f52 := f51.other W37 (Or.inl (Ne.symm ne46))
  have ne53 : br ≠ uu5 := Nat.ne_of_lt (Nat.lt_of_lt_of_le P0.lt xq5_fresh_uu)
  have f54 := fq5_3.other W8 (Ne.symm ne53)
  have f55 := f54.keep K31 nin0
  have f56 := f55.other W37 (Ne.symm ne53)
  exact own_retV X37 hx hret hlk (hb hby d18_66) (by decide) (by decide) (by rw [e37]; exact ⟨x5, uu5, rfl, N37, f39, f40, f42, f45, f49, f52, f56, (Nat.le_trans (Keep.refl h0 [br]).1 xq5_fresh_x), (Nat.le_trans (Keep.refl h0 [br]).1 xq5_fresh_uu)⟩)
theorem d34_0 : decode jdk_44_method_3_code 0 = .ok (.aload_n 0, 1) := by decide +kernel
theorem d34_1 : decode jdk_44_method_3_code 1 = .ok (.getfield 24, 3) := by decide +kernel
theorem d34_4 : decode jdk_44_method_3_code 4 = .ok (.getstatic 19, 3) := by decide +kernel
theorem d34_7 : decode jdk_44_method_3_code 7 = .ok (.if_acmp .eq 7, 3) := by decide +kernel
theorem d34_10 : decode jdk_44_method_3_code 10 = .ok (.iconst 2, 1) := by decide +kernel
theorem d34_11 : decode jdk_44_method_3_code 11 = .ok (.goto 4, 3) := by decide +kernel
theorem d34_15 : decode jdk_44_method_3_code 15 = .ok (.ireturn, 1) := by decide +kernel
theorem ef_sz12 (m : MethodId) (x0 : Addr) : entryFrame m #[(.ref x0)] 1 = mkF m 0 #[rv x0] [] := by first | (simp [entryFrame, mkF, argsToLocals, Value.category]; done) | rfl
def Q_sz12 (Z : State) (x : Addr) (y1 : Addr) (em : Addr) (h0 : Heap) (n0 : Nat) (v : Option Value) (h : Heap) (L : List Loc) : Prop := (v = some (.int (2 : Int32))) ∧ (Fr n0 L) ∧ (h = h0)
set_option maxRecDepth 65536 in
set_option maxHeartbeats 40000000 in
theorem rm_sz12 (l : Launch) (Z : State) (a0 : Array Value) (hw : ∀ d ∈ tables_1, d.before a0 Z = true) (ws : List Jvm.Cond) (x : Addr) (y1 : Addr) (em : Addr) (h0 : Heap) (n0 : Nat) (O0 : Old Z n0 h0) (F1 : Fld Z h0 x "java/util/ImmutableCollections$List12" "e1" "Ljava/lang/Object;" (.ref y1)) (ne : y1 ≠ em) (SEm : Sta Z Z.heap "java/util/ImmutableCollections" "EMPTY" "Ljava/lang/Object;" (.ref em)) :
    own_MF l own_m36 (Jvm.Cond.code own_m36 jdk_44_method_3_code 1 (some .int) :: ws) ({ frames := 0, cells := 0, slots := 0, locals := 0 } : Room) #[(.ref x)] Z h0 (Q_sz12 Z x y1 em h0 n0) := by
  refine own_met (own := "java/util/ImmutableCollections$List12") (nme := "size") rfl rfl (plainFor_of_name pn_9) ?_
  intro p e s m below meth c s₁ hx hby hml hown hnm X0 e0 hret hlk hZ
  have N0 := Fr.nil n0
  rw [ef_sz12 m x]
  refine own_st (T' := s₁) (g' := (mkF m 1 #[rv x] [(.ref x)])) (fun _ k_ => XS.aloadN X0.here hx rfl (hb hby d34_0) rfl rfl  k_) ?_
  obtain ⟨T1, X1, e1, st1⟩ := getF X0 hx hZ hown (host := "") (Or.inl (wd hw 204 rfl)) Via.refl e0 F1 (g := (mkF m 1 #[rv x] [(.ref x)])) rfl rfl (hb hby d34_1)
  refine own_st (T' := T1) (g' := (mkF m 4 #[rv x] [(.ref y1)])) st1 ?_
  clear st1
  obtain ⟨T2, X2, e2, st2⟩ := getS2 X1 hx hZ hown (Or.inr (wd hw 211 rfl)) Via.refl e1 (SEm.ext O0.2) (g := (mkF m 4 #[rv x] [(.ref y1)])) rfl (hb hby d34_4)
  refine own_st (T' := T2) (g' := (mkF m 7 #[rv x] [(.ref em), (.ref y1)])) st2 ?_
  clear st2
  refine own_st (T' := T2) (g' := (mkF m 10 #[rv x] [])) (fun _ k_ => Jvm.RoadKit.acmp (g := (mkF m 7 #[rv x] [(.ref em), (.ref y1)])) X2 hx rfl rfl rfl (pc0 := 7) (pc' := 10) (same := false) rfl (hb hby d34_7) rfl (decide_eq_false fun q => ne (Value.ref.inj q)) (by decide) (by decide) k_) ?_
  refine own_st (T' := T2) (g' := (mkF m 11 #[rv x] [(.int (2 : Int32))])) (fun _ k_ => XS.iconst X2.here hx rfl (hb hby d34_10) k_) ?_
  refine own_st (T' := T2) (g' := (mkF m 15 #[rv x] [(.int (2 : Int32))])) (fun _ k_ => XS.goto X2.here hx rfl (pc0 := 11) (pc' := 15) rfl (hb hby d34_11) (by decide) (by decide) k_) ?_
  exact own_retI X2 hx hret hlk (hb hby d34_15) (by decide) (by decide) ⟨rfl, N0, e2⟩
theorem d35_0 : decode jdk_44_method_5_code 0 = .ok (.iload_n 1, 1) := by decide +kernel
theorem d35_1 : decode jdk_44_method_5_code 1 = .ok (.ifCond .ne 8, 3) := by decide +kernel
theorem d35_9 : decode jdk_44_method_5_code 9 = .ok (.iload_n 1, 1) := by decide +kernel
theorem d35_10 : decode jdk_44_method_5_code 10 = .ok (.iconst 1, 1) := by decide +kernel
theorem d35_11 : decode jdk_44_method_5_code 11 = .ok (.if_icmp .ne 18, 3) := by decide +kernel
theorem d35_14 : decode jdk_44_method_5_code 14 = .ok (.aload_n 0, 1) := by decide +kernel
theorem d35_15 : decode jdk_44_method_5_code 15 = .ok (.getfield 24, 3) := by decide +kernel
theorem d35_18 : decode jdk_44_method_5_code 18 = .ok (.getstatic 19, 3) := by decide +kernel
theorem d35_21 : decode jdk_44_method_5_code 21 = .ok (.if_acmp .eq 8, 3) := by decide +kernel
theorem d35_24 : decode jdk_44_method_5_code 24 = .ok (.aload_n 0, 1) := by decide +kernel
theorem d35_25 : decode jdk_44_method_5_code 25 = .ok (.getfield 24, 3) := by decide +kernel
theorem d35_28 : decode jdk_44_method_5_code 28 = .ok (.areturn, 1) := by decide +kernel
theorem ef_gt12 (m : MethodId) (x0 : Addr) (x1 : Int32) : entryFrame m #[(.ref x0), (.int x1)] 2 = mkF m 0 #[rv x0, iv x1] [] := by first | (simp [entryFrame, mkF, argsToLocals, Value.category]; done) | rfl
def Q_gt12 (Z : State) (x : Addr) (y1 : Addr) (em : Addr) (h0 : Heap) (n0 : Nat) (v : Option Value) (h : Heap) (L : List Loc) : Prop := (v = some (.ref y1)) ∧ (Fr n0 L) ∧ (h = h0)
set_option maxRecDepth 65536 in
set_option maxHeartbeats 40000000 in
theorem rm_gt12 (l : Launch) (Z : State) (a0 : Array Value) (hw : ∀ d ∈ tables_1, d.before a0 Z = true) (ws : List Jvm.Cond) (x : Addr) (y1 : Addr) (em : Addr) (h0 : Heap) (n0 : Nat) (O0 : Old Z n0 h0) (F1 : Fld Z h0 x "java/util/ImmutableCollections$List12" "e1" "Ljava/lang/Object;" (.ref y1)) (ne : y1 ≠ em) (SEm : Sta Z Z.heap "java/util/ImmutableCollections" "EMPTY" "Ljava/lang/Object;" (.ref em)) :
    own_MF l own_m37 (Jvm.Cond.code own_m37 jdk_44_method_5_code 2 (some (.object "java/lang/Object")) :: ws) ({ frames := 0, cells := 0, slots := 0, locals := 0 } : Room) #[(.ref x), (.int (1 : Int32))] Z h0 (Q_gt12 Z x y1 em h0 n0) := by
  refine own_met (own := "java/util/ImmutableCollections$List12") (nme := "get") rfl rfl (plainFor_of_name pn_9) ?_
  intro p e s m below meth c s₁ hx hby hml hown hnm X0 e0 hret hlk hZ
  have N0 := Fr.nil n0
  rw [ef_gt12 m x (1 : Int32)]
  refine own_st (T' := s₁) (g' := (mkF m 1 #[rv x, iv (1 : Int32)] [(.int (1 : Int32))])) (fun _ k_ => XS.iloadN X0.here hx rfl (hb hby d35_0) rfl  k_) ?_
  refine own_st (T' := s₁) (g' := (mkF m 9 #[rv x, iv (1 : Int32)] [])) (fun _ k_ => XS.ifYes X0.here hx rfl (pc0 := 1) (pc' := 9) rfl (hb hby d35_1) rfl ((if0 _ _).trans (feq (by decide : ¬ ((1 : Int32) = (0 : Int32)))).2) (by decide) (by decide) k_) ?_
  refine own_st (T' := s₁) (g' := (mkF m 10 #[rv x, iv (1 : Int32)] [(.int (1 : Int32))])) (fun _ k_ => XS.iloadN X0.here hx rfl (hb hby d35_9) rfl  k_) ?_
  refine own_st (T' := s₁) (g' := (mkF m 11 #[rv x, iv (1 : Int32)] [(.int (1 : Int32)), (.int (1 : Int32))])) (fun _ k_ => XS.iconst X0.here hx rfl (hb hby d35_10) k_) ?_
  refine own_st (T' := s₁) (g' := (mkF m 14 #[rv x, iv (1 : Int32)] [])) (fun _ k_ => XS.icmpNo X0.here hx rfl (hb hby d35_11) rfl (teq (rfl : (1 : Int32) = (1 : Int32))).2 k_) ?_
  refine own_st (T' := s₁) (g' := (mkF m 15 #[rv x, iv (1 : Int32)] [(.ref x)])) (fun _ k_ => XS.aloadN X0.here hx rfl (hb hby d35_14) rfl rfl  k_) ?_
  obtain ⟨T1, X1, e1, st1⟩ := getF X0 hx hZ hown (host := "") (Or.inl (wd hw 204 rfl)) Via.refl e0 F1 (g := (mkF m 15 #[rv x, iv (1 : Int32)] [(.ref x)])) rfl rfl (hb hby d35_15)
  refine own_st (T' := T1) (g' := (mkF m 18 #[rv x, iv (1 : Int32)] [(.ref y1)])) st1 ?_
  clear st1
  obtain ⟨T2, X2, e2, st2⟩ := getS2 X1 hx hZ hown (Or.inr (wd hw 211 rfl)) Via.refl e1 (SEm.ext O0.2) (g := (mkF m 18 #[rv x, iv (1 : Int32)] [(.ref y1)])) rfl (hb hby d35_18)
  refine own_st (T' := T2) (g' := (mkF m 21 #[rv x, iv (1 : Int32)] [(.ref em), (.ref y1)])) st2 ?_
  clear st2
  refine own_st (T' := T2) (g' := (mkF m 24 #[rv x, iv (1 : Int32)] [])) (fun _ k_ => Jvm.RoadKit.acmp (g := (mkF m 21 #[rv x, iv (1 : Int32)] [(.ref em), (.ref y1)])) X2 hx rfl rfl rfl (pc0 := 21) (pc' := 24) (same := false) rfl (hb hby d35_21) rfl (decide_eq_false fun q => ne (Value.ref.inj q)) (by decide) (by decide) k_) ?_
  refine own_st (T' := T2) (g' := (mkF m 25 #[rv x, iv (1 : Int32)] [(.ref x)])) (fun _ k_ => XS.aloadN X2.here hx rfl (hb hby d35_24) rfl rfl  k_) ?_
  obtain ⟨T3, X3, e3, st3⟩ := getF X2 hx hZ hown (host := "") (Or.inl (wd hw 204 rfl)) Via.refl e2 F1 (g := (mkF m 25 #[rv x, iv (1 : Int32)] [(.ref x)])) rfl rfl (hb hby d35_25)
  refine own_st (T' := T3) (g' := (mkF m 28 #[rv x, iv (1 : Int32)] [(.ref y1)])) st3 ?_
  clear st3
  exact own_retA X3 hx hret rfl rfl hlk (hb hby d35_28) (by decide) (by decide) ⟨rfl, N0, e3⟩
theorem d33_0 : decode prog_42_method_3_code 0 = .ok (.aload_n 0, 1) := by decide +kernel
theorem d33_1 : decode prog_42_method_3_code 1 = .ok (.getfield 26, 3) := by decide +kernel
theorem d33_4 : decode prog_42_method_3_code 4 = .ok (.aload_n 0, 1) := by decide +kernel
theorem d33_5 : decode prog_42_method_3_code 5 = .ok (.getfield 26, 3) := by decide +kernel
theorem d33_8 : decode prog_42_method_3_code 8 = .ok (.invokeinterface 7 1, 5) := by decide +kernel
theorem d33_13 : decode prog_42_method_3_code 13 = .ok (.iconst 1, 1) := by decide +kernel
theorem d33_14 : decode prog_42_method_3_code 14 = .ok (.isub, 1) := by decide +kernel
theorem d33_15 : decode prog_42_method_3_code 15 = .ok (.invokeinterface 35 2, 5) := by decide +kernel
theorem d33_20 : decode prog_42_method_3_code 20 = .ok (.checkcast 39, 3) := by decide +kernel
theorem d33_23 : decode prog_42_method_3_code 23 = .ok (.areturn, 1) := by decide +kernel
theorem pd__I_Ljava_lang_Object_ : parseMethodDescriptor "(I)Ljava/lang/Object;" = some ⟨[.int], some (.object "java/lang/Object")⟩ := by decide +kernel
theorem ef_to_2 (m : MethodId) (x0 : Addr) : entryFrame m #[(.ref x0)] 1 = mkF m 0 #[rv x0] [] := by first | (simp [entryFrame, mkF, argsToLocals, Value.category]; done) | rfl
def Q_to_2 (Z : State) (br : Addr) (x : Addr) (y1 : Addr) (em : Addr) (h0 : Heap) (n0 : Nat) (v : Option Value) (h : Heap) (L : List Loc) : Prop := (v = some (.ref y1)) ∧ (Fr n0 L) ∧ (h = h0)
set_option maxRecDepth 65536 in
set_option maxHeartbeats 40000000 in
theorem rm_to_2 (l : Launch) (Z : State) (a0 : Array Value) (hw : ∀ d ∈ tables_1, d.before a0 Z = true) (ws : List Jvm.Cond) (br : Addr) (x : Addr) (y1 : Addr) (em : Addr) (h0 : Heap) (n0 : Nat) (O0 : Old Z n0 h0) (Fw : Fld Z h0 br "com/example/rights_leak_checker/rightsleakchecker/takegrant/Bridge" "walk" "Ljava/util/List;" (.ref x)) (E_x : Exa Z h0 x "java/util/ImmutableCollections$List12") (F1 : Fld Z h0 x "java/util/ImmutableCollections$List12" "e1" "Ljava/lang/Object;" (.ref y1)) (ne : y1 ≠ em) (E_y : Exa Z h0 y1 "java/lang/String") (SEm : Sta Z Z.heap "java/util/ImmutableCollections" "EMPTY" "Ljava/lang/Object;" (.ref em)) :
    own_MF l own_m39 (Jvm.Cond.code own_m39 prog_42_method_3_code 1 (some (.object "java/lang/String")) :: ws) ({ frames := 1, cells := 0, slots := 0, locals := 13 } : Room) #[(.ref br)] Z h0 (Q_to_2 Z br x y1 em h0 n0) := by
  refine own_met (own := "com/example/rights_leak_checker/rightsleakchecker/takegrant/Bridge") (nme := "to") rfl rfl (plainFor_of_name pn_15) ?_
  intro p e s m below meth c s₁ hx hby hml hown hnm X0 e0 hret hlk hZ
  have N0 := Fr.nil n0
  rw [ef_to_2 m br]
  refine own_st (T' := s₁) (g' := (mkF m 1 #[rv br] [(.ref br)])) (fun _ k_ => XS.aloadN X0.here hx rfl (hb hby d33_0) rfl rfl  k_) ?_
  obtain ⟨T1, X1, e1, st1⟩ := getF X0 hx hZ hown (host := "") (Or.inl (wd hw 206 rfl)) Via.refl e0 Fw (g := (mkF m 1 #[rv br] [(.ref br)])) rfl rfl (hb hby d33_1)
  refine own_st (T' := T1) (g' := (mkF m 4 #[rv br] [(.ref x)])) st1 ?_
  clear st1
  refine own_st (T' := T1) (g' := (mkF m 5 #[rv br] [(.ref br), (.ref x)])) (fun _ k_ => XS.aloadN X1.here hx rfl (hb hby d33_4) rfl rfl  k_) ?_
  obtain ⟨T2, X2, e2, st2⟩ := getF X1 hx hZ hown (host := "") (Or.inl (wd hw 206 rfl)) Via.refl e1 Fw (g := (mkF m 5 #[rv br] [(.ref br), (.ref x)])) rfl rfl (hb hby d33_5)
  refine own_st (T' := T2) (g' := (mkF m 8 #[rv br] [(.ref x), (.ref x)])) st2 ?_
  clear st2
  obtain ⟨cq3, kq3, q3a, q3b, q3c⟩ := isOf hZ e2 E_x
  obtain ⟨_, T3, L3, X3, hQ3, st3⟩ := own_callF X2 hx (xi := own_m34) (y := own_m36) hown (mvT hZ (wd hw 112 rfl)) (mvT hZ (wd hw 113 rfl)) (mvT hZ (wd hw 114 rfl)) (mvT hZ (wd hw 219 rfl)) (mvT hZ (wd hw 220 rfl)) (mvT hZ (wd hw 221 rfl)) (mvT hZ (wd hw 222 rfl)) (mvT hZ (wd hw 223 rfl)) (by decide) (backOf (W := 1) (rm_sz12 l Z a0 hw [] x y1 em h0 n0 O0 F1 ne SEm) hZ (wd hw 224 rfl) (wd hw 179 rfl) (by decide) (by decide)) q3a q3b q3c (g := (mkF m 8 #[rv br] [(.ref x), (.ref x)])) rfl (by rw [hml]; rfl) (argsL := []) (rest := [(.ref x)]) (lenOf pd___I rfl) rfl (by show 2 * 0 + _ ≤ _; exact Nat.le_of_eq rfl) (hb hby d33_8) rfl e2 (by decide) (by decide) (c' := 0) (s' := 0) rfl rfl
  clear q3a q3b q3c kq3 cq3
  obtain ⟨rfl, Nq3, eq3⟩ := hQ3
  have N3 := Fr.app N0 Nq3
  refine own_st (T' := T3) (g' := (mkF m 13 #[rv br] [(.int (2 : Int32)), (.ref x)])) st3 ?_
  clear st3
  refine own_st (T' := T3) (g' := (mkF m 14 #[rv br] [(.int (1 : Int32)), (.int (2 : Int32)), (.ref x)])) (fun _ k_ => XS.iconst X3.here hx rfl (hb hby d33_13) k_) ?_
  refine own_st (T' := T3) (g' := (mkF m 15 #[rv br] [(.int (1 : Int32)), (.ref x)])) (fun _ k_ => XS.isub X3.here hx rfl (hb hby d33_14) rfl k_) ?_
  obtain ⟨cq4, kq4, q4a, q4b, q4c⟩ := isOf hZ eq3 E_x
  obtain ⟨_, T4, L4, X4, hQ4, st4⟩ := own_callF X3 hx (xi := own_m38) (y := own_m37) hown (mvT hZ (wd hw 225 rfl)) (mvT hZ (wd hw 226 rfl)) (mvT hZ (wd hw 227 rfl)) (mvT hZ (wd hw 228 rfl)) (mvT hZ (wd hw 229 rfl)) (mvT hZ (wd hw 230 rfl)) (mvT hZ (wd hw 231 rfl)) (mvT hZ (wd hw 223 rfl)) (by decide) (backOf (W := 0) (rm_gt12 l Z a0 hw [] x y1 em h0 n0 O0 F1 ne SEm) hZ (wd hw 232 rfl) (wd hw 179 rfl) (by decide) (by decide)) q4a q4b q4c (g := (mkF m 15 #[rv br] [(.int (1 : Int32)), (.ref x)])) rfl (by rw [hml]; rfl) (argsL := [(.int (1 : Int32))]) (rest := []) (lenOf pd__I_Ljava_lang_Object_ rfl) rfl (by show 2 * 0 + _ ≤ _; exact Nat.le_of_eq rfl) (hb hby d33_15) rfl eq3 (by decide) (by decide) (c' := 0) (s' := 0) rfl rfl
  clear q4a q4b q4c kq4 cq4
  obtain ⟨rfl, Nq4, eq4⟩ := hQ4
  have N4 := Fr.app N3 Nq4
  refine own_st (T' := T4) (g' := (mkF m 20 #[rv br] [(.ref y1)])) st4 ?_
  clear st4
  obtain ⟨T5, X5, e5, st5⟩ := castY X4 hx hZ hown (wd hw 233 rfl) eq4 (Ins.self E_y) (g := (mkF m 20 #[rv br] [(.ref y1)])) rfl rfl (hb hby d33_20)
  refine own_st (T' := T5) (g' := (mkF m 23 #[rv br] [(.ref y1)])) st5 ?_
  clear st5
  exact own_retA X5 hx hret rfl rfl hlk (hb hby d33_23) (by decide) (by decide) ⟨rfl, N4, e5⟩
theorem d39_0 : decode jdk_45_method_3_code 0 = .ok (.aload_n 0, 1) := by decide +kernel
theorem d39_1 : decode jdk_45_method_3_code 1 = .ok (.getfield 7, 3) := by decide +kernel
theorem d39_4 : decode jdk_45_method_3_code 4 = .ok (.arraylength, 1) := by decide +kernel
theorem d39_5 : decode jdk_45_method_3_code 5 = .ok (.ireturn, 1) := by decide +kernel
theorem ef_szn_3 (m : MethodId) (x0 : Addr) : entryFrame m #[(.ref x0)] 1 = mkF m 0 #[rv x0] [] := by first | (simp [entryFrame, mkF, argsToLocals, Value.category]; done) | rfl
def Q_szn_3 (Z : State) (x : Addr) (uu : Addr) (kO : ClassId) (y0 : Addr) (y1 : Addr) (y2 : Addr) (h0 : Heap) (n0 : Nat) (v : Option Value) (h : Heap) (L : List Loc) : Prop := (v = some (.int (3 : Int32))) ∧ (Fr n0 L) ∧ (h = h0)
set_option maxRecDepth 65536 in
set_option maxHeartbeats 40000000 in
theorem rm_szn_3 (l : Launch) (Z : State) (a0 : Array Value) (hw : ∀ d ∈ tables_1, d.before a0 Z = true) (ws : List Jvm.Cond) (x : Addr) (uu : Addr) (kO : ClassId) (y0 : Addr) (y1 : Addr) (y2 : Addr) (h0 : Heap) (n0 : Nat) (O0 : Old Z n0 h0) (Fl : Fld Z h0 x "java/util/ImmutableCollections$ListN" "elements" "[Ljava/lang/Object;" (.ref uu)) (V_u : Arv Z h0 uu kO (.object "java/lang/Object") (3 : Int32) [(.ref y0), (.ref y1), (.ref y2)] .null) :
    own_MF l own_m40 (Jvm.Cond.code own_m40 jdk_45_method_3_code 1 (some .int) :: ws) ({ frames := 0, cells := 0, slots := 0, locals := 0 } : Room) #[(.ref x)] Z h0 (Q_szn_3 Z x uu kO y0 y1 y2 h0 n0) := by
  refine own_met (own := "java/util/ImmutableCollections$ListN") (nme := "size") rfl rfl (plainFor_of_name pn_10) ?_
  intro p e s m below meth c s₁ hx hby hml hown hnm X0 e0 hret hlk hZ
  have N0 := Fr.nil n0
  rw [ef_szn_3 m x]
  refine own_st (T' := s₁) (g' := (mkF m 1 #[rv x] [(.ref x)])) (fun _ k_ => XS.aloadN X0.here hx rfl (hb hby d39_0) rfl rfl  k_) ?_
  obtain ⟨T1, X1, e1, st1⟩ := getF X0 hx hZ hown (host := "") (Or.inl (wd hw 260 rfl)) Via.refl e0 Fl (g := (mkF m 1 #[rv x] [(.ref x)])) rfl rfl (hb hby d39_1)
  refine own_st (T' := T1) (g' := (mkF m 4 #[rv x] [(.ref uu)])) st1 ?_
  clear st1
  obtain ⟨cl2, Ar2, -, S2, N2, -, -⟩ := id V_u
  refine own_st (T' := T1) (g' := (mkF m 5 #[rv x] [(.int (3 : Int32))])) (fun t_ k_ => X1.arraylength hx (by rw [e1]; exact Ar2.1) (State.isArrayOf_alike hZ.alike Ar2.2.1) (g := (mkF m 4 #[rv x] [(.ref uu)])) rfl rfl (hb hby d39_4) _ (by rw [len_of S2 N2]; exact k_)) ?_
  exact own_retI X1 hx hret hlk (hb hby d39_5) (by decide) (by decide) ⟨rfl, N0, e1⟩
theorem d40_0 : decode jdk_45_method_4_code 0 = .ok (.aload_n 0, 1) := by decide +kernel
theorem d40_1 : decode jdk_45_method_4_code 1 = .ok (.getfield 7, 3) := by decide +kernel
theorem d40_4 : decode jdk_45_method_4_code 4 = .ok (.iload_n 1, 1) := by decide +kernel
theorem d40_5 : decode jdk_45_method_4_code 5 = .ok (.aaload, 1) := by decide +kernel
theorem d40_6 : decode jdk_45_method_4_code 6 = .ok (.areturn, 1) := by decide +kernel
theorem ef_gtn_3 (m : MethodId) (x0 : Addr) (x1 : Int32) : entryFrame m #[(.ref x0), (.int x1)] 2 = mkF m 0 #[rv x0, iv x1] [] := by first | (simp [entryFrame, mkF, argsToLocals, Value.category]; done) | rfl
def Q_gtn_3 (Z : State) (x : Addr) (uu : Addr) (kO : ClassId) (y0 : Addr) (y1 : Addr) (y2 : Addr) (h0 : Heap) (n0 : Nat) (v : Option Value) (h : Heap) (L : List Loc) : Prop := (v = some (.ref y2)) ∧ (Fr n0 L) ∧ (h = h0)
set_option maxRecDepth 65536 in
set_option maxHeartbeats 40000000 in
theorem rm_gtn_3 (l : Launch) (Z : State) (a0 : Array Value) (hw : ∀ d ∈ tables_1, d.before a0 Z = true) (ws : List Jvm.Cond) (x : Addr) (uu : Addr) (kO : ClassId) (y0 : Addr) (y1 : Addr) (y2 : Addr) (h0 : Heap) (n0 : Nat) (O0 : Old Z n0 h0) (Fl : Fld Z h0 x "java/util/ImmutableCollections$ListN" "elements" "[Ljava/lang/Object;" (.ref uu)) (V_u : Arv Z h0 uu kO (.object "java/lang/Object") (3 : Int32) [(.ref y0), (.ref y1), (.ref y2)] .null) :
    own_MF l own_m41 (Jvm.Cond.code own_m41 jdk_45_method_4_code 2 (some (.object "java/lang/Object")) :: ws) ({ frames := 0, cells := 0, slots := 0, locals := 0 } : Room) #[(.ref x), (.int (2 : Int32))] Z h0 (Q_gtn_3 Z x uu kO y0 y1 y2 h0 n0) := by
  refine own_met (own := "java/util/ImmutableCollections$ListN") (nme := "get") rfl rfl (plainFor_of_name pn_10) ?_
  intro p e s m below meth c s₁ hx hby hml hown hnm X0 e0 hret hlk hZ
  have N0 := Fr.nil n0
  rw [ef_gtn_3 m x (2 : Int32)]
  refine own_st (T' := s₁) (g' := (mkF m 1 #[rv x, iv (2 : Int32)] [(.ref x)])) (fun _ k_ => XS.aloadN X0.here hx rfl (hb hby d40_0) rfl rfl  k_) ?_
  obtain ⟨T1, X1, e1, st1⟩ := getF X0 hx hZ hown (host := "") (Or.inl (wd hw 260 rfl)) Via.refl e0 Fl (g := (mkF m 1 #[rv x, iv (2 : Int32)] [(.ref x)])) rfl rfl (hb hby d40_1)
  refine own_st (T' := T1) (g' := (mkF m 4 #[rv x, iv (2 : Int32)] [(.ref uu)])) st1 ?_
  clear st1
  refine own_st (T' := T1) (g' := (mkF m 5 #[rv x, iv (2 : Int32)] [(.int (2 : Int32)), (.ref uu)])) (fun _ k_ => XS.iloadN X1.here hx rfl (hb hby d40_4) rfl  k_) ?_
  obtain ⟨cl2, Ar2, q2, S2, N2, H2, G2⟩ := id V_u
  have hin2 : ¬ ((2 : Int32) < 0 ∨ cl2.slots.size ≤ ((2 : Int32)).toNatClampNeg) := inb_of S2 ⟨by decide, by decide⟩
  refine own_st (T' := T1) (g' := (mkF m 6 #[rv x, iv (2 : Int32)] [(.ref y2)])) (X1.aaload hx (j := (2 : Int32)) (v := (.ref y2)) (by rw [e1]; exact Ar2.1) (State.isArrayOf_alike hZ.alike Ar2.2.1) rfl Ar2.2.2 hin2 (H2.at hin2 rfl) (g := (mkF m 5 #[rv x, iv (2 : Int32)] [(.int (2 : Int32)), (.ref uu)])) rfl rfl (hb hby d40_5)) ?_
  clear hin2 G2 H2 N2 S2 q2 Ar2 cl2
  exact own_retA X1 hx hret rfl rfl hlk (hb hby d40_6) (by decide) (by decide) ⟨rfl, N0, e1⟩
theorem ef_to_3 (m : MethodId) (x0 : Addr) : entryFrame m #[(.ref x0)] 1 = mkF m 0 #[rv x0] [] := by first | (simp [entryFrame, mkF, argsToLocals, Value.category]; done) | rfl
def Q_to_3 (Z : State) (br : Addr) (x : Addr) (uu : Addr) (kO : ClassId) (y0 : Addr) (y1 : Addr) (y2 : Addr) (h0 : Heap) (n0 : Nat) (v : Option Value) (h : Heap) (L : List Loc) : Prop := (v = some (.ref y2)) ∧ (Fr n0 L) ∧ (h = h0)
set_option maxRecDepth 65536 in
set_option maxHeartbeats 40000000 in
theorem rm_to_3 (l : Launch) (Z : State) (a0 : Array Value) (hw : ∀ d ∈ tables_1, d.before a0 Z = true) (ws : List Jvm.Cond) (br : Addr) (x : Addr) (uu : Addr) (kO : ClassId) (y0 : Addr) (y1 : Addr) (y2 : Addr) (h0 : Heap) (n0 : Nat) (O0 : Old Z n0 h0) (Fw : Fld Z h0 br "com/example/rights_leak_checker/rightsleakchecker/takegrant/Bridge" "walk" "Ljava/util/List;" (.ref x)) (E_x : Exa Z h0 x "java/util/ImmutableCollections$ListN") (Fl : Fld Z h0 x "java/util/ImmutableCollections$ListN" "elements" "[Ljava/lang/Object;" (.ref uu)) (V_u : Arv Z h0 uu kO (.object "java/lang/Object") (3 : Int32) [(.ref y0), (.ref y1), (.ref y2)] .null) (E_y : Exa Z h0 y2 "java/lang/String") :
    own_MF l own_m39 (Jvm.Cond.code own_m39 prog_42_method_3_code 1 (some (.object "java/lang/String")) :: ws) ({ frames := 1, cells := 0, slots := 0, locals := 13 } : Room) #[(.ref br)] Z h0 (Q_to_3 Z br x uu kO y0 y1 y2 h0 n0) := by
  refine own_met (own := "com/example/rights_leak_checker/rightsleakchecker/takegrant/Bridge") (nme := "to") rfl rfl (plainFor_of_name pn_15) ?_
  intro p e s m below meth c s₁ hx hby hml hown hnm X0 e0 hret hlk hZ
  have N0 := Fr.nil n0
  rw [ef_to_3 m br]
  refine own_st (T' := s₁) (g' := (mkF m 1 #[rv br] [(.ref br)])) (fun _ k_ => XS.aloadN X0.here hx rfl (hb hby d33_0) rfl rfl  k_) ?_
  obtain ⟨T1, X1, e1, st1⟩ := getF X0 hx hZ hown (host := "") (Or.inl (wd hw 206 rfl)) Via.refl e0 Fw (g := (mkF m 1 #[rv br] [(.ref br)])) rfl rfl (hb hby d33_1)
  refine own_st (T' := T1) (g' := (mkF m 4 #[rv br] [(.ref x)])) st1 ?_
  clear st1
  refine own_st (T' := T1) (g' := (mkF m 5 #[rv br] [(.ref br), (.ref x)])) (fun _ k_ => XS.aloadN X1.here hx rfl (hb hby d33_4) rfl rfl  k_) ?_
  obtain ⟨T2, X2, e2, st2⟩ := getF X1 hx hZ hown (host := "") (Or.inl (wd hw 206 rfl)) Via.refl e1 Fw (g := (mkF m 5 #[rv br] [(.ref br), (.ref x)])) rfl rfl (hb hby d33_5)
  refine own_st (T' := T2) (g' := (mkF m 8 #[rv br] [(.ref x), (.ref x)])) st2 ?_
  clear st2
  obtain ⟨cq3, kq3, q3a, q3b, q3c⟩ := isOf hZ e2 E_x
  obtain ⟨_, T3, L3, X3, hQ3, st3⟩ := own_callF X2 hx (xi := own_m34) (y := own_m40) hown (mvT hZ (wd hw 112 rfl)) (mvT hZ (wd hw 113 rfl)) (mvT hZ (wd hw 114 rfl)) (mvT hZ (wd hw 264 rfl)) (mvT hZ (wd hw 265 rfl)) (mvT hZ (wd hw 266 rfl)) (mvT hZ (wd hw 267 rfl)) (mvT hZ (wd hw 268 rfl)) (by decide) (backOf (W := 1) (rm_szn_3 l Z a0 hw [] x uu kO y0 y1 y2 h0 n0 O0 Fl V_u) hZ (wd hw 269 rfl) (wd hw 251 rfl) (by decide) (by decide)) q3a q3b q3c (g := (mkF m 8 #[rv br] [(.ref x), (.ref x)])) rfl (by rw [hml]; rfl) (argsL := []) (rest := [(.ref x)]) (lenOf pd___I rfl) rfl (by show 2 * 0 + _ ≤ _; exact Nat.le_of_eq rfl) (hb hby d33_8) rfl e2 (by decide) (by decide) (c' := 0) (s' := 0) rfl rfl
  clear q3a q3b q3c kq3 cq3
  obtain ⟨rfl, Nq3, eq3⟩ := hQ3
  have N3 := Fr.app N0 Nq3
  refine own_st (T' := T3) (g' := (mkF m 13 #[rv br] [(.int (3 : Int32)), (.ref x)])) st3 ?_
  clear st3
  refine own_st (T' := T3) (g' := (mkF m 14 #[rv br] [(.int (1 : Int32)), (.int (3 : Int32)), (.ref x)])) (fun _ k_ => XS.iconst X3.here hx rfl (hb hby d33_13) k_) ?_
  refine own_st (T' := T3) (g' := (mkF m 15 #[rv br] [(.int (2 : Int32)), (.ref x)])) (fun _ k_ => XS.isub X3.here hx rfl (hb hby d33_14) rfl k_) ?_
  obtain ⟨cq4, kq4, q4a, q4b, q4c⟩ := isOf hZ eq3 E_x
  obtain ⟨_, T4, L4, X4, hQ4, st4⟩ := own_callF X3 hx (xi := own_m38) (y := own_m41) hown (mvT hZ (wd hw 225 rfl)) (mvT hZ (wd hw 226 rfl)) (mvT hZ (wd hw 227 rfl)) (mvT hZ (wd hw 270 rfl)) (mvT hZ (wd hw 271 rfl)) (mvT hZ (wd hw 272 rfl)) (mvT hZ (wd hw 273 rfl)) (mvT hZ (wd hw 268 rfl)) (by decide) (backOf (W := 0) (rm_gtn_3 l Z a0 hw [] x uu kO y0 y1 y2 h0 n0 O0 Fl V_u) hZ (wd hw 274 rfl) (wd hw 251 rfl) (by decide) (by decide)) q4a q4b q4c (g := (mkF m 15 #[rv br] [(.int (2 : Int32)), (.ref x)])) rfl (by rw [hml]; rfl) (argsL := [(.int (2 : Int32))]) (rest := []) (lenOf pd__I_Ljava_lang_Object_ rfl) rfl (by show 2 * 0 + _ ≤ _; exact Nat.le_of_eq rfl) (hb hby d33_15) rfl eq3 (by decide) (by decide) (c' := 0) (s' := 0) rfl rfl
  clear q4a q4b q4c kq4 cq4
  obtain ⟨rfl, Nq4, eq4⟩ := hQ4
  have N4 := Fr.app N3 Nq4
  refine own_st (T' := T4) (g' := (mkF m 20 #[rv br] [(.ref y2)])) st4 ?_
  clear st4
  obtain ⟨T5, X5, e5, st5⟩ := castY X4 hx hZ hown (wd hw 233 rfl) eq4 (Ins.self E_y) (g := (mkF m 20 #[rv br] [(.ref y2)])) rfl rfl (hb hby d33_20)
  refine own_st (T' := T5) (g' := (mkF m 23 #[rv br] [(.ref y2)])) st5 ?_
  clear st5
  exact own_retA X5 hx hret rfl rfl hlk (hb hby d33_23) (by decide) (by decide) ⟨rfl, N4, e5⟩
theorem ef_szn_4 (m : MethodId) (x0 : Addr) : entryFrame m #[(.ref x0)] 1 = mkF m 0 #[rv x0] [] := by first | (simp [entryFrame, mkF, argsToLocals, Value.category]; done) | rfl
def Q_szn_4 (Z : State) (x : Addr) (uu : Addr) (kO : ClassId) (y0 : Addr) (y1 : Addr) (y2 : Addr) (y3 : Addr) (h0 : Heap) (n0 : Nat) (v : Option Value) (h : Heap) (L : List Loc) : Prop := (v = some (.int (4 : Int32))) ∧ (Fr n0 L) ∧ (h = h0)
set_option maxRecDepth 65536 in
set_option maxHeartbeats 40000000 in
theorem rm_szn_4 (l : Launch) (Z : State) (a0 : Array Value) (hw : ∀ d ∈ tables_1, d.before a0 Z = true) (ws : List Jvm.Cond) (x : Addr) (uu : Addr) (kO : ClassId) (y0 : Addr) (y1 : Addr) (y2 : Addr) (y3 : Addr) (h0 : Heap) (n0 : Nat) (O0 : Old Z n0 h0) (Fl : Fld Z h0 x "java/util/ImmutableCollections$ListN" "elements" "[Ljava/lang/Object;" (.ref uu)) (V_u : Arv Z h0 uu kO (.object "java/lang/Object") (4 : Int32) [(.ref y0), (.ref y1), (.ref y2), (.ref y3)] .null) :
    own_MF l own_m40 (Jvm.Cond.code own_m40 jdk_45_method_3_code 1 (some .int) :: ws) ({ frames := 0, cells := 0, slots := 0, locals := 0 } : Room) #[(.ref x)] Z h0 (Q_szn_4 Z x uu kO y0 y1 y2 y3 h0 n0) := by
  refine own_met (own := "java/util/ImmutableCollections$ListN") (nme := "size") rfl rfl (plainFor_of_name pn_10) ?_
  intro p e s m below meth c s₁ hx hby hml hown hnm X0 e0 hret hlk hZ
  have N0 := Fr.nil n0
  rw [ef_szn_4 m x]
  refine own_st (T' := s₁) (g' := (mkF m 1 #[rv x] [(.ref x)])) (fun _ k_ => XS.aloadN X0.here hx rfl (hb hby d39_0) rfl rfl  k_) ?_
  obtain ⟨T1, X1, e1, st1⟩ := getF X0 hx hZ hown (host := "") (Or.inl (wd hw 260 rfl)) Via.refl e0 Fl (g := (mkF m 1 #[rv x] [(.ref x)])) rfl rfl (hb hby d39_1)
  refine own_st (T' := T1) (g' := (mkF m 4 #[rv x] [(.ref uu)])) st1 ?_
  clear st1
  obtain ⟨cl2, Ar2, -, S2, N2, -, -⟩ := id V_u
  refine own_st (T' := T1) (g' := (mkF m 5 #[rv x] [(.int (4 : Int32))])) (fun t_ k_ => X1.arraylength hx (by rw [e1]; exact Ar2.1) (State.isArrayOf_alike hZ.alike Ar2.2.1) (g := (mkF m 4 #[rv x] [(.ref uu)])) rfl rfl (hb hby d39_4) _ (by rw [len_of S2 N2]; exact k_)) ?_
  exact own_retI X1 hx hret hlk (hb hby d39_5) (by decide) (by decide) ⟨rfl, N0, e1⟩
theorem ef_gtn_4 (m : MethodId) (x0 : Addr) (x1 : Int32) : entryFrame m #[(.ref x0), (.int x1)] 2 = mkF m 0 #[rv x0, iv x1] [] := by first | (simp [entryFrame, mkF, argsToLocals, Value.category]; done) | rfl
def Q_gtn_4 (Z : State) (x : Addr) (uu : Addr) (kO : ClassId) (y0 : Addr) (y1 : Addr) (y2 : Addr) (y3 : Addr) (h0 : Heap) (n0 : Nat) (v : Option Value) (h : Heap) (L : List Loc) : Prop := (v = some (.ref y3)) ∧ (Fr n0 L) ∧ (h = h0)
set_option maxRecDepth 65536 in
set_option maxHeartbeats 40000000 in
theorem rm_gtn_4 (l : Launch) (Z : State) (a0 : Array Value) (hw : ∀ d ∈ tables_1, d.before a0 Z = true) (ws : List Jvm.Cond) (x : Addr) (uu : Addr) (kO : ClassId) (y0 : Addr) (y1 : Addr) (y2 : Addr) (y3 : Addr) (h0 : Heap) (n0 : Nat) (O0 : Old Z n0 h0) (Fl : Fld Z h0 x "java/util/ImmutableCollections$ListN" "elements" "[Ljava/lang/Object;" (.ref uu)) (V_u : Arv Z h0 uu kO (.object "java/lang/Object") (4 : Int32) [(.ref y0), (.ref y1), (.ref y2), (.ref y3)] .null) :
    own_MF l own_m41 (Jvm.Cond.code own_m41 jdk_45_method_4_code 2 (some (.object "java/lang/Object")) :: ws) ({ frames := 0, cells := 0, slots := 0, locals := 0 } : Room) #[(.ref x), (.int (3 : Int32))] Z h0 (Q_gtn_4 Z x uu kO y0 y1 y2 y3 h0 n0) := by
  refine own_met (own := "java/util/ImmutableCollections$ListN") (nme := "get") rfl rfl (plainFor_of_name pn_10) ?_
  intro p e s m below meth c s₁ hx hby hml hown hnm X0 e0 hret hlk hZ
  have N0 := Fr.nil n0
  rw [ef_gtn_4 m x (3 : Int32)]
  refine own_st (T' := s₁) (g' := (mkF m 1 #[rv x, iv (3 : Int32)] [(.ref x)])) (fun _ k_ => XS.aloadN X0.here hx rfl (hb hby d40_0) rfl rfl  k_) ?_
  obtain ⟨T1, X1, e1, st1⟩ := getF X0 hx hZ hown (host := "") (Or.inl (wd hw 260 rfl)) Via.refl e0 Fl (g := (mkF m 1 #[rv x, iv (3 : Int32)] [(.ref x)])) rfl rfl (hb hby d40_1)
  refine own_st (T' := T1) (g' := (mkF m 4 #[rv x, iv (3 : Int32)] [(.ref uu)])) st1 ?_
  clear st1
  refine own_st (T' := T1) (g' := (mkF m 5 #[rv x, iv (3 : Int32)] [(.int (3 : Int32)), (.ref uu)])) (fun _ k_ => XS.iloadN X1.here hx rfl (hb hby d40_4) rfl  k_) ?_
  obtain ⟨cl2, Ar2, q2, S2, N2, H2, G2⟩ := id V_u
  have hin2 : ¬ ((3 : Int32) < 0 ∨ cl2.slots.size ≤ ((3 : Int32)).toNatClampNeg) := inb_of S2 ⟨by decide, by decide⟩
  refine own_st (T' := T1) (g' := (mkF m 6 #[rv x, iv (3 : Int32)] [(.ref y3)])) (X1.aaload hx (j := (3 : Int32)) (v := (.ref y3)) (by rw [e1]; exact Ar2.1) (State.isArrayOf_alike hZ.alike Ar2.2.1) rfl Ar2.2.2 hin2 (H2.at hin2 rfl) (g := (mkF m 5 #[rv x, iv (3 : Int32)] [(.int (3 : Int32)), (.ref uu)])) rfl rfl (hb hby d40_5)) ?_
  clear hin2 G2 H2 N2 S2 q2 Ar2 cl2
  exact own_retA X1 hx hret rfl rfl hlk (hb hby d40_6) (by decide) (by decide) ⟨rfl, N0, e1⟩
theorem ef_to_4 (m : MethodId) (x0 : Addr) : entryFrame m #[(.ref x0)] 1 = mkF m 0 #[rv x0] [] := by first | (simp [entryFrame, mkF, argsToLocals, Value.category]; done) | rfl
def Q_to_4 (Z : State) (br : Addr) (x : Addr) (uu : Addr) (kO : ClassId) (y0 : Addr) (y1 : Addr) (y2 : Addr) (y3 : Addr) (h0 : Heap) (n0 : Nat) (v : Option Value) (h : Heap) (L : List Loc) : Prop := (v = some (.ref y3)) ∧ (Fr n0 L) ∧ (h = h0)
set_option maxRecDepth 65536 in
set_option maxHeartbeats 40000000 in
theorem rm_to_4 (l : Launch) (Z : State) (a0 : Array Value) (hw : ∀ d ∈ tables_1, d.before a0 Z = true) (ws : List Jvm.Cond) (br : Addr) (x : Addr) (uu : Addr) (kO : ClassId) (y0 : Addr) (y1 : Addr) (y2 : Addr) (y3 : Addr) (h0 : Heap) (n0 : Nat) (O0 : Old Z n0 h0) (Fw : Fld Z h0 br "com/example/rights_leak_checker/rightsleakchecker/takegrant/Bridge" "walk" "Ljava/util/List;" (.ref x)) (E_x : Exa Z h0 x "java/util/ImmutableCollections$ListN") (Fl : Fld Z h0 x "java/util/ImmutableCollections$ListN" "elements" "[Ljava/lang/Object;" (.ref uu)) (V_u : Arv Z h0 uu kO (.object "java/lang/Object") (4 : Int32) [(.ref y0), (.ref y1), (.ref y2), (.ref y3)] .null) (E_y : Exa Z h0 y3 "java/lang/String") :
    own_MF l own_m39 (Jvm.Cond.code own_m39 prog_42_method_3_code 1 (some (.object "java/lang/String")) :: ws) ({ frames := 1, cells := 0, slots := 0, locals := 13 } : Room) #[(.ref br)] Z h0 (Q_to_4 Z br x uu kO y0 y1 y2 y3 h0 n0) := by
  refine own_met (own := "com/example/rights_leak_checker/rightsleakchecker/takegrant/Bridge") (nme := "to") rfl rfl (plainFor_of_name pn_15) ?_
  intro p e s m below meth c s₁ hx hby hml hown hnm X0 e0 hret hlk hZ
  have N0 := Fr.nil n0
  rw [ef_to_4 m br]
  refine own_st (T' := s₁) (g' := (mkF m 1 #[rv br] [(.ref br)])) (fun _ k_ => XS.aloadN X0.here hx rfl (hb hby d33_0) rfl rfl  k_) ?_
  obtain ⟨T1, X1, e1, st1⟩ := getF X0 hx hZ hown (host := "") (Or.inl (wd hw 206 rfl)) Via.refl e0 Fw (g := (mkF m 1 #[rv br] [(.ref br)])) rfl rfl (hb hby d33_1)
  refine own_st (T' := T1) (g' := (mkF m 4 #[rv br] [(.ref x)])) st1 ?_
  clear st1
  refine own_st (T' := T1) (g' := (mkF m 5 #[rv br] [(.ref br), (.ref x)])) (fun _ k_ => XS.aloadN X1.here hx rfl (hb hby d33_4) rfl rfl  k_) ?_
  obtain ⟨T2, X2, e2, st2⟩ := getF X1 hx hZ hown (host := "") (Or.inl (wd hw 206 rfl)) Via.refl e1 Fw (g := (mkF m 5 #[rv br] [(.ref br), (.ref x)])) rfl rfl (hb hby d33_5)
  refine own_st (T' := T2) (g' := (mkF m 8 #[rv br] [(.ref x), (.ref x)])) st2 ?_
  clear st2
  obtain ⟨cq3, kq3, q3a, q3b, q3c⟩ := isOf hZ e2 E_x
  obtain ⟨_, T3, L3, X3, hQ3, st3⟩ := own_callF X2 hx (xi := own_m34) (y := own_m40) hown (mvT hZ (wd hw 112 rfl)) (mvT hZ (wd hw 113 rfl)) (mvT hZ (wd hw 114 rfl)) (mvT hZ (wd hw 264 rfl)) (mvT hZ (wd hw 265 rfl)) (mvT hZ (wd hw 266 rfl)) (mvT hZ (wd hw 267 rfl)) (mvT hZ (wd hw 268 rfl)) (by decide) (backOf (W := 1) (rm_szn_4 l Z a0 hw [] x uu kO y0 y1 y2 y3 h0 n0 O0 Fl V_u) hZ (wd hw 269 rfl) (wd hw 251 rfl) (by decide) (by decide)) q3a q3b q3c (g := (mkF m 8 #[rv br] [(.ref x), (.ref x)])) rfl (by rw [hml]; rfl) (argsL := []) (rest := [(.ref x)]) (lenOf pd___I rfl) rfl (by show 2 * 0 + _ ≤ _; exact Nat.le_of_eq rfl) (hb hby d33_8) rfl e2 (by decide) (by decide) (c' := 0) (s' := 0) rfl rfl
  clear q3a q3b q3c kq3 cq3
  obtain ⟨rfl, Nq3, eq3⟩ := hQ3
  have N3 := Fr.app N0 Nq3
  refine own_st (T' := T3) (g' := (mkF m 13 #[rv br] [(.int (4 : Int32)), (.ref x)])) st3 ?_
  clear st3
  refine own_st (T' := T3) (g' := (mkF m 14 #[rv br] [(.int (1 : Int32)), (.int (4 : Int32)), (.ref x)])) (fun _ k_ => XS.iconst X3.here hx rfl (hb hby d33_13) k_) ?_
  refine own_st (T' := T3) (g' := (mkF m 15 #[rv br] [(.int (3 : Int32)), (.ref x)])) (fun _ k_ => XS.isub X3.here hx rfl (hb hby d33_14) rfl k_) ?_
  obtain ⟨cq4, kq4, q4a, q4b, q4c⟩ := isOf hZ eq3 E_x
  obtain ⟨_, T4, L4, X4, hQ4, st4⟩ := own_callF X3 hx (xi := own_m38) (y := own_m41) hown (mvT hZ (wd hw 225 rfl)) (mvT hZ (wd hw 226 rfl)) (mvT hZ (wd hw 227 rfl)) (mvT hZ (wd hw 270 rfl)) (mvT hZ (wd hw 271 rfl)) (mvT hZ (wd hw 272 rfl)) (mvT hZ (wd hw 273 rfl)) (mvT hZ (wd hw 268 rfl)) (by decide) (backOf (W := 0) (rm_gtn_4 l Z a0 hw [] x uu kO y0 y1 y2 y3 h0 n0 O0 Fl V_u) hZ (wd hw 274 rfl) (wd hw 251 rfl) (by decide) (by decide)) q4a q4b q4c (g := (mkF m 15 #[rv br] [(.int (3 : Int32)), (.ref x)])) rfl (by rw [hml]; rfl) (argsL := [(.int (3 : Int32))]) (rest := []) (lenOf pd__I_Ljava_lang_Object_ rfl) rfl (by show 2 * 0 + _ ≤ _; exact Nat.le_of_eq rfl) (hb hby d33_15) rfl eq3 (by decide) (by decide) (c' := 0) (s' := 0) rfl rfl
  clear q4a q4b q4c kq4 cq4
  obtain ⟨rfl, Nq4, eq4⟩ := hQ4
  have N4 := Fr.app N3 Nq4
  refine own_st (T' := T4) (g' := (mkF m 20 #[rv br] [(.ref y3)])) st4 ?_
  clear st4
  obtain ⟨T5, X5, e5, st5⟩ := castY X4 hx hZ hown (wd hw 233 rfl) eq4 (Ins.self E_y) (g := (mkF m 20 #[rv br] [(.ref y3)])) rfl rfl (hb hby d33_20)
  refine own_st (T' := T5) (g' := (mkF m 23 #[rv br] [(.ref y3)])) st5 ?_
  clear st5
  exact own_retA X5 hx hret rfl rfl hlk (hb hby d33_23) (by decide) (by decide) ⟨rfl, N4, e5⟩
theorem ef_szn_5 (m : MethodId) (x0 : Addr) : entryFrame m #[(.ref x0)] 1 = mkF m 0 #[rv x0] [] := by first | (simp [entryFrame, mkF, argsToLocals, Value.category]; done) | rfl
def Q_szn_5 (Z : State) (x : Addr) (uu : Addr) (kO : ClassId) (y0 : Addr) (y1 : Addr) (y2 : Addr) (y3 : Addr) (y4 : Addr) (h0 : Heap) (n0 : Nat) (v : Option Value) (h : Heap) (L : List Loc) : Prop := (v = some (.int (5 : Int32))) ∧ (Fr n0 L) ∧ (h = h0)
set_option maxRecDepth 65536 in
set_option maxHeartbeats 40000000 in
theorem rm_szn_5 (l : Launch) (Z : State) (a0 : Array Value) (hw : ∀ d ∈ tables_1, d.before a0 Z = true) (ws : List Jvm.Cond) (x : Addr) (uu : Addr) (kO : ClassId) (y0 : Addr) (y1 : Addr) (y2 : Addr) (y3 : Addr) (y4 : Addr) (h0 : Heap) (n0 : Nat) (O0 : Old Z n0 h0) (Fl : Fld Z h0 x "java/util/ImmutableCollections$ListN" "elements" "[Ljava/lang/Object;" (.ref uu)) (V_u : Arv Z h0 uu kO (.object "java/lang/Object") (5 : Int32) [(.ref y0), (.ref y1), (.ref y2), (.ref y3), (.ref y4)] .null) :
    own_MF l own_m40 (Jvm.Cond.code own_m40 jdk_45_method_3_code 1 (some .int) :: ws) ({ frames := 0, cells := 0, slots := 0, locals := 0 } : Room) #[(.ref x)] Z h0 (Q_szn_5 Z x uu kO y0 y1 y2 y3 y4 h0 n0) := by
  refine own_met (own := "java/util/ImmutableCollections$ListN") (nme := "size") rfl rfl (plainFor_of_name pn_10) ?_
  intro p e s m below meth c s₁ hx hby hml hown hnm X0 e0 hret hlk hZ
  have N0 := Fr.nil n0
  rw [ef_szn_5 m x]
  refine own_st (T' := s₁) (g' := (mkF m 1 #[rv x] [(.ref x)])) (fun _ k_ => XS.aloadN X0.here hx rfl (hb hby d39_0) rfl rfl  k_) ?_
  obtain ⟨T1, X1, e1, st1⟩ := getF X0 hx hZ hown (host := "") (Or.inl (wd hw 260 rfl)) Via.refl e0 Fl (g := (mkF m 1 #[rv x] [(.ref x)])) rfl rfl (hb hby d39_1)
  refine own_st (T' := T1) (g' := (mkF m 4 #[rv x] [(.ref uu)])) st1 ?_
  clear st1
  obtain ⟨cl2, Ar2, -, S2, N2, -, -⟩ := id V_u
  refine own_st (T' := T1) (g' := (mkF m 5 #[rv x] [(.int (5 : Int32))])) (fun t_ k_ => X1.arraylength hx (by rw [e1]; exact Ar2.1) (State.isArrayOf_alike hZ.alike Ar2.2.1) (g := (mkF m 4 #[rv x] [(.ref uu)])) rfl rfl (hb hby d39_4) _ (by rw [len_of S2 N2]; exact k_)) ?_
  exact own_retI X1 hx hret hlk (hb hby d39_5) (by decide) (by decide) ⟨rfl, N0, e1⟩
theorem ef_gtn_5 (m : MethodId) (x0 : Addr) (x1 : Int32) : entryFrame m #[(.ref x0), (.int x1)] 2 = mkF m 0 #[rv x0, iv x1] [] := by first | (simp [entryFrame, mkF, argsToLocals, Value.category]; done) | rfl
def Q_gtn_5 (Z : State) (x : Addr) (uu : Addr) (kO : ClassId) (y0 : Addr) (y1 : Addr) (y2 : Addr) (y3 : Addr) (y4 : Addr) (h0 : Heap) (n0 : Nat) (v : Option Value) (h : Heap) (L : List Loc) : Prop := (v = some (.ref y4)) ∧ (Fr n0 L) ∧ (h = h0)
set_option maxRecDepth 65536 in
set_option maxHeartbeats 40000000 in
theorem rm_gtn_5 (l : Launch) (Z : State) (a0 : Array Value) (hw : ∀ d ∈ tables_1, d.before a0 Z = true) (ws : List Jvm.Cond) (x : Addr) (uu : Addr) (kO : ClassId) (y0 : Addr) (y1 : Addr) (y2 : Addr) (y3 : Addr) (y4 : Addr) (h0 : Heap) (n0 : Nat) (O0 : Old Z n0 h0) (Fl : Fld Z h0 x "java/util/ImmutableCollections$ListN" "elements" "[Ljava/lang/Object;" (.ref uu)) (V_u : Arv Z h0 uu kO (.object "java/lang/Object") (5 : Int32) [(.ref y0), (.ref y1), (.ref y2), (.ref y3), (.ref y4)] .null) :
    own_MF l own_m41 (Jvm.Cond.code own_m41 jdk_45_method_4_code 2 (some (.object "java/lang/Object")) :: ws) ({ frames := 0, cells := 0, slots := 0, locals := 0 } : Room) #[(.ref x), (.int (4 : Int32))] Z h0 (Q_gtn_5 Z x uu kO y0 y1 y2 y3 y4 h0 n0) := by
  refine own_met (own := "java/util/ImmutableCollections$ListN") (nme := "get") rfl rfl (plainFor_of_name pn_10) ?_
  intro p e s m below meth c s₁ hx hby hml hown hnm X0 e0 hret hlk hZ
  have N0 := Fr.nil n0
  rw [ef_gtn_5 m x (4 : Int32)]
  refine own_st (T' := s₁) (g' := (mkF m 1 #[rv x, iv (4 : Int32)] [(.ref x)])) (fun _ k_ => XS.aloadN X0.here hx rfl (hb hby d40_0) rfl rfl  k_) ?_
  obtain ⟨T1, X1, e1, st1⟩ := getF X0 hx hZ hown (host := "") (Or.inl (wd hw 260 rfl)) Via.refl e0 Fl (g := (mkF m 1 #[rv x, iv (4 : Int32)] [(.ref x)])) rfl rfl (hb hby d40_1)
  refine own_st (T' := T1) (g' := (mkF m 4 #[rv x, iv (4 : Int32)] [(.ref uu)])) st1 ?_
  clear st1
  refine own_st (T' := T1) (g' := (mkF m 5 #[rv x, iv (4 : Int32)] [(.int (4 : Int32)), (.ref uu)])) (fun _ k_ => XS.iloadN X1.here hx rfl (hb hby d40_4) rfl  k_) ?_
  obtain ⟨cl2, Ar2, q2, S2, N2, H2, G2⟩ := id V_u
  have hin2 : ¬ ((4 : Int32) < 0 ∨ cl2.slots.size ≤ ((4 : Int32)).toNatClampNeg) := inb_of S2 ⟨by decide, by decide⟩
  refine own_st (T' := T1) (g' := (mkF m 6 #[rv x, iv (4 : Int32)] [(.ref y4)])) (X1.aaload hx (j := (4 : Int32)) (v := (.ref y4)) (by rw [e1]; exact Ar2.1) (State.isArrayOf_alike hZ.alike Ar2.2.1) rfl Ar2.2.2 hin2 (H2.at hin2 rfl) (g := (mkF m 5 #[rv x, iv (4 : Int32)] [(.int (4 : Int32)), (.ref uu)])) rfl rfl (hb hby d40_5)) ?_
  clear hin2 G2 H2 N2 S2 q2 Ar2 cl2
  exact own_retA X1 hx hret rfl rfl hlk (hb hby d40_6) (by decide) (by decide) ⟨rfl, N0, e1⟩
theorem ef_to_5 (m : MethodId) (x0 : Addr) : entryFrame m #[(.ref x0)] 1 = mkF m 0 #[rv x0] [] := by first | (simp [entryFrame, mkF, argsToLocals, Value.category]; done) | rfl
def Q_to_5 (Z : State) (br : Addr) (x : Addr) (uu : Addr) (kO : ClassId) (y0 : Addr) (y1 : Addr) (y2 : Addr) (y3 : Addr) (y4 : Addr) (h0 : Heap) (n0 : Nat) (v : Option Value) (h : Heap) (L : List Loc) : Prop := (v = some (.ref y4)) ∧ (Fr n0 L) ∧ (h = h0)
set_option maxRecDepth 65536 in
set_option maxHeartbeats 40000000 in
theorem rm_to_5 (l : Launch) (Z : State) (a0 : Array Value) (hw : ∀ d ∈ tables_1, d.before a0 Z = true) (ws : List Jvm.Cond) (br : Addr) (x : Addr) (uu : Addr) (kO : ClassId) (y0 : Addr) (y1 : Addr) (y2 : Addr) (y3 : Addr) (y4 : Addr) (h0 : Heap) (n0 : Nat) (O0 : Old Z n0 h0) (Fw : Fld Z h0 br "com/example/rights_leak_checker/rightsleakchecker/takegrant/Bridge" "walk" "Ljava/util/List;" (.ref x)) (E_x : Exa Z h0 x "java/util/ImmutableCollections$ListN") (Fl : Fld Z h0 x "java/util/ImmutableCollections$ListN" "elements" "[Ljava/lang/Object;" (.ref uu)) (V_u : Arv Z h0 uu kO (.object "java/lang/Object") (5 : Int32) [(.ref y0), (.ref y1), (.ref y2), (.ref y3), (.ref y4)] .null) (E_y : Exa Z h0 y4 "java/lang/String") :
    own_MF l own_m39 (Jvm.Cond.code own_m39 prog_42_method_3_code 1 (some (.object "java/lang/String")) :: ws) ({ frames := 1, cells := 0, slots := 0, locals := 13 } : Room) #[(.ref br)] Z h0 (Q_to_5 Z br x uu kO y0 y1 y2 y3 y4 h0 n0) := by
  refine own_met (own := "com/example/rights_leak_checker/rightsleakchecker/takegrant/Bridge") (nme := "to") rfl rfl (plainFor_of_name pn_15) ?_
  intro p e s m below meth c s₁ hx hby hml hown hnm X0 e0 hret hlk hZ
  have N0 := Fr.nil n0
  rw [ef_to_5 m br]
  refine own_st (T' := s₁) (g' := (mkF m 1 #[rv br] [(.ref br)])) (fun _ k_ => XS.aloadN X0.here hx rfl (hb hby d33_0) rfl rfl  k_) ?_
  obtain ⟨T1, X1, e1, st1⟩ := getF X0 hx hZ hown (host := "") (Or.inl (wd hw 206 rfl)) Via.refl e0 Fw (g := (mkF m 1 #[rv br] [(.ref br)])) rfl rfl (hb hby d33_1)
  refine own_st (T' := T1) (g' := (mkF m 4 #[rv br] [(.ref x)])) st1 ?_
  clear st1
  refine own_st (T' := T1) (g' := (mkF m 5 #[rv br] [(.ref br), (.ref x)])) (fun _ k_ => XS.aloadN X1.here hx rfl (hb hby d33_4) rfl rfl  k_) ?_
  obtain ⟨T2, X2, e2, st2⟩ := getF X1 hx hZ hown (host := "") (Or.inl (wd hw 206 rfl)) Via.refl e1 Fw (g := (mkF m 5 #[rv br] [(.ref br), (.ref x)])) rfl rfl (hb hby d33_5)
  refine own_st (T' := T2) (g' := (mkF m 8 #[rv br] [(.ref x), (.ref x)])) st2 ?_
  clear st2
  obtain ⟨cq3, kq3, q3a, q3b, q3c⟩ := isOf hZ e2 E_x
  obtain ⟨_, T3, L3, X3, hQ3, st3⟩ := own_callF X2 hx (xi := own_m34) (y := own_m40) hown (mvT hZ (wd hw 112 rfl)) (mvT hZ (wd hw 113 rfl)) (mvT hZ (wd hw 114 rfl)) (mvT hZ (wd hw 264 rfl)) (mvT hZ (wd hw 265 rfl)) (mvT hZ (wd hw 266 rfl)) (mvT hZ (wd hw 267 rfl)) (mvT hZ (wd hw 268 rfl)) (by decide) (backOf (W := 1) (rm_szn_5 l Z a0 hw [] x uu kO y0 y1 y2 y3 y4 h0 n0 O0 Fl V_u) hZ (wd hw 269 rfl) (wd hw 251 rfl) (by decide) (by decide)) q3a q3b q3c (g := (mkF m 8 #[rv br] [(.ref x), (.ref x)])) rfl (by rw [hml]; rfl) (argsL := []) (rest := [(.ref x)]) (lenOf pd___I rfl) rfl (by show 2 * 0 + _ ≤ _; exact Nat.le_of_eq rfl) (hb hby d33_8) rfl e2 (by decide) (by decide) (c' := 0) (s' := 0) rfl rfl
  clear q3a q3b q3c kq3 cq3
  obtain ⟨rfl, Nq3, eq3⟩ := hQ3
  have N3 := Fr.app N0 Nq3
  refine own_st (T' := T3) (g' := (mkF m 13 #[rv br] [(.int (5 : Int32)), (.ref x)])) st3 ?_
  clear st3
  refine own_st (T' := T3) (g' := (mkF m 14 #[rv br] [(.int (1 : Int32)), (.int (5 : Int32)), (.ref x)])) (fun _ k_ => XS.iconst X3.here hx rfl (hb hby d33_13) k_) ?_
  refine own_st (T' := T3) (g' := (mkF m 15 #[rv br] [(.int (4 : Int32)), (.ref x)])) (fun _ k_ => XS.isub X3.here hx rfl (hb hby d33_14) rfl k_) ?_
  obtain ⟨cq4, kq4, q4a, q4b, q4c⟩ := isOf hZ eq3 E_x
  obtain ⟨_, T4, L4, X4, hQ4, st4⟩ := own_callF X3 hx (xi := own_m38) (y := own_m41) hown (mvT hZ (wd hw 225 rfl)) (mvT hZ (wd hw 226 rfl)) (mvT hZ (wd hw 227 rfl)) (mvT hZ (wd hw 270 rfl)) (mvT hZ (wd hw 271 rfl)) (mvT hZ (wd hw 272 rfl)) (mvT hZ (wd hw 273 rfl)) (mvT hZ (wd hw 268 rfl)) (by decide) (backOf (W := 0) (rm_gtn_5 l Z a0 hw [] x uu kO y0 y1 y2 y3 y4 h0 n0 O0 Fl V_u) hZ (wd hw 274 rfl) (wd hw 251 rfl) (by decide) (by decide)) q4a q4b q4c (g := (mkF m 15 #[rv br] [(.int (4 : Int32)), (.ref x)])) rfl (by rw [hml]; rfl) (argsL := [(.int (4 : Int32))]) (rest := []) (lenOf pd__I_Ljava_lang_Object_ rfl) rfl (by show 2 * 0 + _ ≤ _; exact Nat.le_of_eq rfl) (hb hby d33_15) rfl eq3 (by decide) (by decide) (c' := 0) (s' := 0) rfl rfl
  clear q4a q4b q4c kq4 cq4
  obtain ⟨rfl, Nq4, eq4⟩ := hQ4
  have N4 := Fr.app N3 Nq4
  refine own_st (T' := T4) (g' := (mkF m 20 #[rv br] [(.ref y4)])) st4 ?_
  clear st4
  obtain ⟨T5, X5, e5, st5⟩ := castY X4 hx hZ hown (wd hw 233 rfl) eq4 (Ins.self E_y) (g := (mkF m 20 #[rv br] [(.ref y4)])) rfl rfl (hb hby d33_20)
  refine own_st (T' := T5) (g' := (mkF m 23 #[rv br] [(.ref y4)])) st5 ?_
  clear st5
  exact own_retA X5 hx hret rfl rfl hlk (hb hby d33_23) (by decide) (by decide) ⟨rfl, N4, e5⟩
theorem d36_0 : decode jdk_42_method_66_code 0 = .ok (.aload_n 0, 1) := by decide +kernel
theorem d36_1 : decode jdk_42_method_66_code 1 = .ok (.aload_n 1, 1) := by decide +kernel
theorem d36_2 : decode jdk_42_method_66_code 2 = .ok (.if_acmp .ne 5, 3) := by decide +kernel
theorem d36_5 : decode jdk_42_method_66_code 5 = .ok (.iconst 1, 1) := by decide +kernel
theorem d36_6 : decode jdk_42_method_66_code 6 = .ok (.ireturn, 1) := by decide +kernel
theorem ef_eqs (m : MethodId) (x0 : Addr) (x1 : Addr) : entryFrame m #[(.ref x0), (.ref x1)] 3 = mkF m 0 #[rv x0, rv x1, .unset] [] := by first | (simp [entryFrame, mkF, argsToLocals, Value.category]; done) | rfl
def Q_eqs (Z : State) (x : Addr) (h0 : Heap) (n0 : Nat) (v : Option Value) (h : Heap) (L : List Loc) : Prop := (v = some (.int (1 : Int32))) ∧ (Fr n0 L) ∧ (h = h0)
set_option maxRecDepth 65536 in
set_option maxHeartbeats 40000000 in
theorem rm_eqs (l : Launch) (Z : State) (a0 : Array Value) (hw : ∀ d ∈ tables_1, d.before a0 Z = true) (ws : List Jvm.Cond) (x : Addr) (h0 : Heap) (n0 : Nat) (O0 : Old Z n0 h0) :
    own_MF l own_m42 (Jvm.Cond.code own_m42 jdk_42_method_66_code 3 (some .boolean) :: ws) ({ frames := 0, cells := 0, slots := 0, locals := 0 } : Room) #[(.ref x), (.ref x)] Z h0 (Q_eqs Z x h0 n0) := by
  refine own_met (own := "java/lang/String") (nme := "equals") rfl rfl (plainFor_of_name pn_2) ?_
  intro p e s m below meth c s₁ hx hby hml hown hnm X0 e0 hret hlk hZ
  have N0 := Fr.nil n0
  rw [ef_eqs m x x]
  refine own_st (T' := s₁) (g' := (mkF m 1 #[rv x, rv x, .unset] [(.ref x)])) (fun _ k_ => XS.aloadN X0.here hx rfl (hb hby d36_0) rfl rfl  k_) ?_
  refine own_st (T' := s₁) (g' := (mkF m 2 #[rv x, rv x, .unset] [(.ref x), (.ref x)])) (fun _ k_ => XS.aloadN X0.here hx rfl (hb hby d36_1) rfl rfl  k_) ?_
  refine own_st (T' := s₁) (g' := (mkF m 5 #[rv x, rv x, .unset] [])) (fun _ k_ => Jvm.RoadKit.acmp (g := (mkF m 2 #[rv x, rv x, .unset] [(.ref x), (.ref x)])) X0 hx rfl rfl rfl (pc0 := 2) (pc' := 5) (same := true) rfl (hb hby d36_2) rfl (decide_eq_true rfl) (by decide) (by decide) k_) ?_
  refine own_st (T' := s₁) (g' := (mkF m 6 #[rv x, rv x, .unset] [(.int (1 : Int32))])) (fun _ k_ => XS.iconst X0.here hx rfl (hb hby d36_5) k_) ?_
  exact own_retN X0 hx (t := .boolean) hret (by simp) hlk (hb hby d36_6) (by decide) (by decide) ⟨rfl, N0, e0⟩
theorem pd__Ljava_util_List_Ljava_util_List__V : parseMethodDescriptor "(Ljava/util/List;Ljava/util/List;)V" = some ⟨[(.object "java/util/List"), (.object "java/util/List")], none⟩ := by decide +kernel
theorem pd___Ljava_lang_String_ : parseMethodDescriptor "()Ljava/lang/String;" = some ⟨[], some (.object "java/lang/String")⟩ := by decide +kernel
theorem pd__Ljava_lang_Object__Z : parseMethodDescriptor "(Ljava/lang/Object;)Z" = some ⟨[(.object "java/lang/Object")], some .boolean⟩ := by decide +kernel
set_option maxRecDepth 65536 in
set_option maxHeartbeats 40000000 in
theorem seg_n2 {p : Program} {l : Launch} {e : Env} {s : State} {m : MethodId} {args : Array Value} {below : List Frame} {meth : Method} {c : Code} {T0 : State} {locs : List Loc} {Z : State} {a0 : Array Value} (h0 : Heap) (hB : Heap) (n0 : Nat) (i0 : Int32) (i1 : Int64) (i2 : Int32) (va : Addr) (kv : ClassId) (s0_ : Addr) (s1_ : Addr) (s2_ : Addr) (s3_ : Addr) (s4_ : Addr) (xs_ : Addr) (a1 : Addr) (a2 : Addr) (t1 : Addr) (t2 : Addr) (f0_ : Addr) (mc1 : Int32) (mc2 : Int32) (kO : ClassId) (mir : Addr) (em : Addr) (w_TAKE_OUT : Addr) (w_TAKE_IN : Addr) (w_GRANT_OUT : Addr) (w_GRANT_IN : Addr)
    (X0 : Stand p l e room_1 s m args below meth c T0 locs 17 67) (hx : p.tables.exec = Jvm.exec) (hZ : Z.Warmed39 s.vm) (hw : ∀ d ∈ tables_1, d.before a0 Z = true) (hby : c.code = code) (hml : c.maxLocals = 12) (hown : s.vm.findClass "com/example/rights_leak_checker/rightsleakchecker/takegrant/BridgeToPinLaw" = some m.cls) (hnm : meth.name = "law") (hret : meth.sig.returnType = some .boolean) (hlk : meth.locks = false) (e0 : T0.heap = hB) (N0 : Fr n0 locs) (O0 : Old Z n0 hB) (VA : Arv Z hB va kv (.object "java/lang/String") (5 : Int32) [(.ref s0_), (.ref s1_), (.ref s2_), (.ref s3_), (.ref s4_)] .null) (E_s0_ : Exa Z hB s0_ "java/lang/String") (E_s1_ : Exa Z hB s1_ "java/lang/String") (E_s2_ : Exa Z hB s2_ "java/lang/String") (E_s3_ : Exa Z hB s3_ "java/lang/String") (E_s4_ : Exa Z hB s4_ "java/lang/String") (E_xs_ : Exa Z hB xs_ "java/lang/String") (PA0 : Exa Z hB a1 "java/util/ArrayList") (PA1 : Fld Z hB a1 "java/util/ArrayList" "elementData" "[Ljava/lang/Object;" (.ref t1)) (PA2 : Fld Z hB a1 "java/util/ArrayList" "size" "I" (.int (2 : Int32))) (PA3 : Fld Z hB a1 "java/util/AbstractList" "modCount" "I" (.int mc1)) (PB0 : Exa Z hB a2 "java/util/ArrayList") (PB1 : Fld Z hB a2 "java/util/ArrayList" "elementData" "[Ljava/lang/Object;" (.ref t2)) (PB2 : Fld Z hB a2 "java/util/ArrayList" "size" "I" (.int (1 : Int32))) (PB3 : Fld Z hB a2 "java/util/AbstractList" "modCount" "I" (.int mc2)) (V1 : Arv Z hB t1 kO (.object "java/lang/Object") (10 : Int32) [(.ref s0_), (.ref s1_), .null, .null, .null, .null, .null, .null, .null, .null] .null) (V2 : Arv Z hB t2 kO (.object "java/lang/Object") (10 : Int32) [(.ref f0_), .null, .null, .null, .null, .null, .null, .null, .null, .null] .null) (f_a1 : n0 ≤ a1) (f_a2 : n0 ≤ a2) (f_t1 : n0 ≤ t1) (f_t2 : n0 ≤ t2) (n12 : a1 ≠ a2) (m12 : t1 ≠ t2) (nv1 : va ≠ t1) (nv2 : va ≠ t2) (nes : s1_ ≠ em) (X_f0 : Exa Z Z.heap f0_ "com/example/rights_leak_checker/rightsleakchecker/takegrant/Bridge$Letter") (OV : Ovr Z kO "java/lang/Object") (FC : Z.vm.findClass "[Ljava/lang/Object;" = some kO) (MIR : own_Mir Z "[Ljava/lang/Object;" mir) (SEm : Sta Z Z.heap "java/util/ImmutableCollections" "EMPTY" "Ljava/lang/Object;" (.ref em)) (S_TAKE_OUT : Sta Z Z.heap "com/example/rights_leak_checker/rightsleakchecker/takegrant/Bridge$Letter" "TAKE_OUT" "Lcom/example/rights_leak_checker/rightsleakchecker/takegrant/Bridge$Letter;" (.ref w_TAKE_OUT)) (X_TAKE_OUT : Exa Z Z.heap w_TAKE_OUT "com/example/rights_leak_checker/rightsleakchecker/takegrant/Bridge$Letter") (S_TAKE_IN : Sta Z Z.heap "com/example/rights_leak_checker/rightsleakchecker/takegrant/Bridge$Letter" "TAKE_IN" "Lcom/example/rights_leak_checker/rightsleakchecker/takegrant/Bridge$Letter;" (.ref w_TAKE_IN)) (X_TAKE_IN : Exa Z Z.heap w_TAKE_IN "com/example/rights_leak_checker/rightsleakchecker/takegrant/Bridge$Letter") (S_GRANT_OUT : Sta Z Z.heap "com/example/rights_leak_checker/rightsleakchecker/takegrant/Bridge$Letter" "GRANT_OUT" "Lcom/example/rights_leak_checker/rightsleakchecker/takegrant/Bridge$Letter;" (.ref w_GRANT_OUT)) (X_GRANT_OUT : Exa Z Z.heap w_GRANT_OUT "com/example/rights_leak_checker/rightsleakchecker/takegrant/Bridge$Letter") (S_GRANT_IN : Sta Z Z.heap "com/example/rights_leak_checker/rightsleakchecker/takegrant/Bridge$Letter" "GRANT_IN" "Lcom/example/rights_leak_checker/rightsleakchecker/takegrant/Bridge$Letter;" (.ref w_GRANT_IN)) (X_GRANT_IN : Exa Z Z.heap w_GRANT_IN "com/example/rights_leak_checker/rightsleakchecker/takegrant/Bridge$Letter") :
    own_E p e below s room_1.cells room_1.slots (own_L n0) T0 (mkF m 114 #[iv i0, .val (.long i1), .second, iv i2, iv (2 : Int32), rv va, rv xs_, rv a1, rv a2, .unset, .unset, .unset] []) := by
  refine own_st (T' := T0) (g' := (mkF m 116 #[iv i0, .val (.long i1), .second, iv i2, iv (2 : Int32), rv va, rv xs_, rv a1, rv a2, .unset, .unset, .unset] [(.int (2 : Int32))])) (fun _ k_ => XS.iload X0.here hx rfl (hb hby at_114) rfl  k_) ?_
  refine own_st (T' := T0) (g' := (mkF m 117 #[iv i0, .val (.long i1), .second, iv i2, iv (2 : Int32), rv va, rv xs_, rv a1, rv a2, .unset, .unset, .unset] [(.int (3 : Int32)), (.int (2 : Int32))])) (fun _ k_ => XS.iconst X0.here hx rfl (hb hby at_116) k_) ?_
  refine own_st (T' := T0) (g' := (mkF m 142 #[iv i0, .val (.long i1), .second, iv i2, iv (2 : Int32), rv va, rv xs_, rv a1, rv a2, .unset, .unset, .unset] [])) (fun _ k_ => XS.icmpYes X0.here hx rfl (pc0 := 117) (pc' := 142) rfl (hb hby at_117) rfl (tlt (by decide : (2 : Int32) < (3 : Int32))).1 (by decide) (by decide) k_) ?_
  refine own_st (T' := T0) (g' := (mkF m 144 #[iv i0, .val (.long i1), .second, iv i2, iv (2 : Int32), rv va, rv xs_, rv a1, rv a2, .unset, .unset, .unset] [(.int (2 : Int32))])) (fun _ k_ => XS.iload X0.here hx rfl (hb hby at_142) rfl  k_) ?_
  refine own_st (T' := T0) (g' := (mkF m 145 #[iv i0, .val (.long i1), .second, iv i2, iv (2 : Int32), rv va, rv xs_, rv a1, rv a2, .unset, .unset, .unset] [(.int (4 : Int32)), (.int (2 : Int32))])) (fun _ k_ => XS.iconst X0.here hx rfl (hb hby at_144) k_) ?_
  refine own_st (T' := T0) (g' := (mkF m 170 #[iv i0, .val (.long i1), .second, iv i2, iv (2 : Int32), rv va, rv xs_, rv a1, rv a2, .unset, .unset, .unset] [])) (fun _ k_ => XS.icmpYes X0.here hx rfl (pc0 := 145) (pc' := 170) rfl (hb hby at_145) rfl (tlt (by decide : (2 : Int32) < (4 : Int32))).1 (by decide) (by decide) k_) ?_
  refine own_st (T' := T0) (g' := (mkF m 172 #[iv i0, .val (.long i1), .second, iv i2, iv (2 : Int32), rv va, rv xs_, rv a1, rv a2, .unset, .unset, .unset] [(.int (2 : Int32))])) (fun _ k_ => XS.iload X0.here hx rfl (hb hby at_170) rfl  k_) ?_
  refine own_st (T' := T0) (g' := (mkF m 173 #[iv i0, .val (.long i1), .second, iv i2, iv (2 : Int32), rv va, rv xs_, rv a1, rv a2, .unset, .unset, .unset] [(.int (5 : Int32)), (.int (2 : Int32))])) (fun _ k_ => XS.iconst X0.here hx rfl (hb hby at_172) k_) ?_
  refine own_st (T' := T0) (g' := (mkF m 199 #[iv i0, .val (.long i1), .second, iv i2, iv (2 : Int32), rv va, rv xs_, rv a1, rv a2, .unset, .unset, .unset] [])) (fun _ k_ => XS.icmpYes X0.here hx rfl (pc0 := 173) (pc' := 199) rfl (hb hby at_173) rfl (tlt (by decide : (2 : Int32) < (5 : Int32))).1 (by decide) (by decide) k_) ?_
  obtain ⟨T1, h1, X1, e1, E1, A1, D1, -, st1⟩ := newO X0 hx hZ hown (wd hw 105 rfl) (wd hw 106 rfl) (wd hw 107 rfl) e0 (g := (mkF m 199 #[iv i0, .val (.long i1), .second, iv i2, iv (2 : Int32), rv va, rv xs_, rv a1, rv a2, .unset, .unset, .unset] [])) rfl (hb hby at_199) (by decide) (by decide)
  obtain ⟨b1, g1⟩ : ∃ z, z = hB.size := ⟨_, rfl⟩
  rw [← g1] at A1 D1 st1
  have fr1 : n0 ≤ b1 := Nat.le_trans (own_z O0) (Nat.le_of_eq g1.symm)
  have F1_walk : Fld Z h1 b1 "com/example/rights_leak_checker/rightsleakchecker/takegrant/Bridge" "walk" "Ljava/util/List;" .null := D1 (Or.inr (wd hw 207 rfl)) (ty := (.object "java/util/List")) (by decide)
  have F1_letters : Fld Z h1 b1 "com/example/rights_leak_checker/rightsleakchecker/takegrant/Bridge" "letters" "Ljava/util/List;" .null := D1 (Or.inr (wd hw 213 rfl)) (ty := (.object "java/util/List")) (by decide)
  refine own_st (T' := T1) (g' := (mkF m 202 #[iv i0, .val (.long i1), .second, iv i2, iv (2 : Int32), rv va, rv xs_, rv a1, rv a2, .unset, .unset, .unset] [(.ref b1)])) st1 ?_
  clear st1
  refine own_st (T' := T1) (g' := (mkF m 203 #[iv i0, .val (.long i1), .second, iv i2, iv (2 : Int32), rv va, rv xs_, rv a1, rv a2, .unset, .unset, .unset] [(.ref b1), (.ref b1)])) (fun _ k_ => XS.dup X1.here hx rfl (hb hby at_202) rfl rfl k_) ?_
  refine own_st (T' := T1) (g' := (mkF m 205 #[iv i0, .val (.long i1), .second, iv i2, iv (2 : Int32), rv va, rv xs_, rv a1, rv a2, .unset, .unset, .unset] [(.ref a1), (.ref b1), (.ref b1)])) (fun _ k_ => XS.aload X1.here hx rfl (hb hby at_203) rfl rfl  k_) ?_
  refine own_st (T' := T1) (g' := (mkF m 207 #[iv i0, .val (.long i1), .second, iv i2, iv (2 : Int32), rv va, rv xs_, rv a1, rv a2, .unset, .unset, .unset] [(.ref a2), (.ref a1), (.ref b1), (.ref b1)])) (fun _ k_ => XS.aload X1.here hx rfl (hb hby at_205) rfl rfl  k_) ?_
  have ne2 : a2 ≠ b1 := Nat.ne_of_lt (Nat.lt_of_lt_of_le PB0.lt (Nat.le_of_eq g1.symm))
  have f3 := PA0.ext E1
  have f4 := PA1.ext E1
  have f5 := PA2.ext E1
  have f6 := V1.ext E1
  have f7 := PB0.ext E1
  have f8 := PB1.ext E1
  have f9 := PB2.ext E1
  have f10 := V2.ext E1
  have f11 := E_s0_.ext E1
  have f12 := E_s1_.ext E1
  have f13 := O0.ext E1
  obtain ⟨_, T14, L14, X14, hQ14, st14⟩ := own_callI X1 hx (y := own_m35) rfl hown (mvT hZ (wd hw 108 rfl)) (mvT hZ (wd hw 109 rfl)) (mvT hZ (wd hw 110 rfl)) (by decide) (backOf (W := 1) (rm_bri_2 l Z a0 hw [] b1 a1 t1 a2 t2 kO mir em s0_ s1_ f0_ h1 n0 f13 A1 F1_walk F1_letters fr1 (Ne.symm ne2) f3 f4 f5 f6 f7 f8 f9 f10 OV FC MIR SEm (Ins.of_exa f11 (wd hw 97 rfl)) (Ins.of_exa f12 (wd hw 97 rfl)) (Ins.of_exa (X_f0.ext f13.2) (wd hw 104 rfl))) hZ (wd hw 110 rfl) (wd hw 107 rfl) (by decide) (by decide)) (g := (mkF m 207 #[iv i0, .val (.long i1), .second, iv i2, iv (2 : Int32), rv va, rv xs_, rv a1, rv a2, .unset, .unset, .unset] [(.ref a2), (.ref a1), (.ref b1), (.ref b1)])) rfl (by rw [hml]; rfl) (a := b1) (argsL := [(.ref a1), (.ref a2)]) (rest := [(.ref b1)]) (lenOf pd__Ljava_util_List_Ljava_util_List__V rfl) rfl (by show 2 * 0 + _ ≤ _; exact Nat.le_of_eq rfl) (hb hby at_207) rfl e1 (by decide) (by decide) (c' := 22) (s' := 76) rfl rfl
  obtain ⟨x14, rfl, Nq14, K14, fq14_0, fq14_1, fq14_2, fq14_3, fq14_4, xq14_fresh_x⟩ := hQ14
  have N14 := Fr.app N0 Nq14
  refine own_st (T' := T14) (g' := (mkF m 210 #[iv i0, .val (.long i1), .second, iv i2, iv (2 : Int32), rv va, rv xs_, rv a1, rv a2, .unset, .unset, .unset] [(.ref b1)])) st14 ?_
  clear st14
  refine own_st (T' := T14) (g' := (mkF m 212 #[iv i0, .val (.long i1), .second, iv i2, iv (2 : Int32), rv va, rv xs_, rv a1, rv a2, rv b1, .unset, .unset] [])) (fun _ k_ => XS.astore X14.here hx rfl (hb hby at_210) rfl rfl (l' := #[iv i0, .val (.long i1), .second, iv i2, iv (2 : Int32), rv va, rv xs_, rv a1, rv a2, rv b1, .unset, .unset]) rfl k_) ?_
  refine own_st (T' := T14) (g' := (mkF m 214 #[iv i0, .val (.long i1), .second, iv i2, iv (2 : Int32), rv va, rv xs_, rv a1, rv a2, rv b1, .unset, .unset] [(.ref b1)])) (fun _ k_ => XS.aload X14.here hx rfl (hb hby at_212) rfl rfl  k_) ?_
  have f15 := f12.keep K14
  have f16 := f13.keep K14 (allS fr1 all0)
  obtain ⟨cq17, kq17, q17a, q17b, q17c⟩ := isOf hZ rfl fq14_0
  obtain ⟨_, T17, L17, X17, hQ17, st17⟩ := own_callV X14 hx (y := own_m39) (z := own_m39) hown (mvT hZ (wd hw 214 rfl)) (mvT hZ (wd hw 215 rfl)) (notFace_of_selects (args := #[]) (mvT hZ (wd hw 217 rfl))) (mvT hZ (wd hw 217 rfl)) (mvT hZ (wd hw 216 rfl)) (by decide) (backOf (W := 0) (rm_to_2 l Z a0 hw [] b1 x14 s1_ em T14.heap n0 f16 fq14_1 fq14_2 fq14_4 nes f15 SEm) hZ (wd hw 218 rfl) (wd hw 107 rfl) (by decide) (by decide)) q17a q17c (g := (mkF m 214 #[iv i0, .val (.long i1), .second, iv i2, iv (2 : Int32), rv va, rv xs_, rv a1, rv a2, rv b1, .unset, .unset] [(.ref b1)])) rfl (by rw [hml]; rfl) (argsL := []) (rest := []) (lenOf pd___Ljava_lang_String_ rfl) rfl (by show 2 * 0 + _ ≤ _; exact Nat.le_of_eq rfl) (hb hby at_214) rfl rfl (by decide) (by decide) (c' := 22) (s' := 76) rfl rfl
  clear q17a q17b q17c kq17 cq17
  obtain ⟨rfl, Nq17, eq17⟩ := hQ17
  have N17 := Fr.app N14 Nq17
  refine own_st (T' := T17) (g' := (mkF m 217 #[iv i0, .val (.long i1), .second, iv i2, iv (2 : Int32), rv va, rv xs_, rv a1, rv a2, rv b1, .unset, .unset] [(.ref s1_)])) st17 ?_
  clear st17
  refine own_st (T' := T17) (g' := (mkF m 219 #[iv i0, .val (.long i1), .second, iv i2, iv (2 : Int32), rv va, rv xs_, rv a1, rv a2, rv b1, rv s1_, .unset] [])) (fun _ k_ => XS.astore X17.here hx rfl (hb hby at_217) rfl rfl (l' := #[iv i0, .val (.long i1), .second, iv i2, iv (2 : Int32), rv va, rv xs_, rv a1, rv a2, rv b1, rv s1_, .unset]) rfl k_) ?_
  refine own_st (T' := T17) (g' := (mkF m 221 #[iv i0, .val (.long i1), .second, iv i2, iv (2 : Int32), rv va, rv xs_, rv a1, rv a2, rv b1, rv s1_, .unset] [(.ref a1)])) (fun _ k_ => XS.aload X17.here hx rfl (hb hby at_219) rfl rfl  k_) ?_
  refine own_st (T' := T17) (g' := (mkF m 223 #[iv i0, .val (.long i1), .second, iv i2, iv (2 : Int32), rv va, rv xs_, rv a1, rv a2, rv b1, rv s1_, .unset] [(.ref xs_), (.ref a1)])) (fun _ k_ => XS.aload X17.here hx rfl (hb hby at_221) rfl rfl  k_) ?_
  have f18 := f3.keep K14
  have ne19 : a1 ≠ b1 := Nat.ne_of_lt (Nat.lt_of_lt_of_le PA0.lt (Nat.le_of_eq g1.symm))
  have f20 := f4.keep K14 (ninS ne19 nin0)
  have f21 := f5.keep K14 (ninS ne19 nin0)
  have f22 := PA3.ext E1
  have f23 := f22.keep K14 (ninS ne19 nin0)
  have ne24 : t1 ≠ b1 := Nat.ne_of_lt (Nat.lt_of_lt_of_le V1.lt (Nat.le_of_eq g1.symm))
  have f25 := f6.keep K14 (ninS ne24 nin0)
  have f26 := E_xs_.ext E1
  have f27 := f26.keep K14
  obtain ⟨cq28, kq28, q28a, q28b, q28c⟩ := isOf hZ eq17 f18
  obtain ⟨_, T28, L28, X28, hQ28, st28⟩ := own_callV X17 hx (y := own_m13) (z := own_m13) hown (mvT hZ (wd hw 67 rfl)) (mvT hZ (wd hw 68 rfl)) (notFace_of_selects (args := #[]) (mvT hZ (wd hw 70 rfl))) (mvT hZ (wd hw 70 rfl)) (mvT hZ (wd hw 69 rfl)) (by decide) (backOf (W := 0) (rm_add_2 l Z a0 hw [] a1 xs_ t1 mc1 kO (.ref s0_) (.ref s1_) T14.heap n0 f16 f18 f20 f21 f23 f25 f_a1 f_t1 OV FC (Ins.of_exa f27 (wd hw 97 rfl))) hZ (wd hw 71 rfl) (wd hw 45 rfl) (by decide) (by decide)) q28a q28c (g := (mkF m 223 #[iv i0, .val (.long i1), .second, iv i2, iv (2 : Int32), rv va, rv xs_, rv a1, rv a2, rv b1, rv s1_, .unset] [(.ref xs_), (.ref a1)])) rfl (by rw [hml]; rfl) (argsL := [(.ref xs_)]) (rest := []) (lenOf pd__Ljava_lang_Object__Z rfl) rfl (by show 2 * 0 + _ ≤ _; exact Nat.le_of_eq rfl) (hb hby at_223) rfl eq17 (by decide) (by decide) (c' := 22) (s' := 76) rfl rfl
  clear q28a q28b q28c kq28 cq28
  obtain ⟨rfl, Nq28, K28, fq28_0, fq28_1, fq28_2, fq28_3, fq28_4⟩ := hQ28
  have N28 := Fr.app N17 Nq28
  refine own_st (T' := T28) (g' := (mkF m 226 #[iv i0, .val (.long i1), .second, iv i2, iv (2 : Int32), rv va, rv xs_, rv a1, rv a2, rv b1, rv s1_, .unset] [(.int (1 : Int32))])) st28 ?_
  clear st28
  refine own_st (T' := T28) (g' := (mkF m 227 #[iv i0, .val (.long i1), .second, iv i2, iv (2 : Int32), rv va, rv xs_, rv a1, rv a2, rv b1, rv s1_, .unset] [])) (fun _ k_ => XS.pop X28.here hx rfl (hb hby at_226) rfl rfl k_) ?_
  refine own_st (T' := T28) (g' := (mkF m 229 #[iv i0, .val (.long i1), .second, iv i2, iv (2 : Int32), rv va, rv xs_, rv a1, rv a2, rv b1, rv s1_, .unset] [(.ref b1)])) (fun _ k_ => XS.aload X28.here hx rfl (hb hby at_227) rfl rfl  k_) ?_
  have f29 := fq14_1.keep K28 (ninS (Ne.symm ne19) (ninS (Ne.symm ne24) nin0))
  have f30 := fq14_2.keep K28
  have ne31 : t1 ≠ x14 := Nat.ne_of_lt (Nat.lt_of_lt_of_le (Nat.lt_of_lt_of_le V1.lt E1.1) xq14_fresh_x)
  have ne32 : a1 ≠ x14 := Nat.ne_of_lt (Nat.lt_of_lt_of_le (Nat.lt_of_lt_of_le PA0.lt E1.1) xq14_fresh_x)
  have f33 := fq14_4.keep K28 (ninS (Ne.symm ne32) (ninS (Ne.symm ne31) nin0))
  have f34 := f15.keep K28
  have f35 := f16.keep K28 (allS f_a1 (allS f_t1 all0))
  have f37 := fq14_0.keep K28
  obtain ⟨cq36, kq36, q36a, q36b, q36c⟩ := isOf hZ rfl f37
  obtain ⟨_, T36, L36, X36, hQ36, st36⟩ := own_callV X28 hx (y := own_m39) (z := own_m39) hown (mvT hZ (wd hw 214 rfl)) (mvT hZ (wd hw 215 rfl)) (notFace_of_selects (args := #[]) (mvT hZ (wd hw 217 rfl))) (mvT hZ (wd hw 217 rfl)) (mvT hZ (wd hw 216 rfl)) (by decide) (backOf (W := 0) (rm_to_2 l Z a0 hw [] b1 x14 s1_ em T28.heap n0 f35 f29 f30 f33 nes f34 SEm) hZ (wd hw 218 rfl) (wd hw 107 rfl) (by decide) (by decide)) q36a q36c (g := (mkF m 229 #[iv i0, .val (.long i1), .second, iv i2, iv (2 : Int32), rv va, rv xs_, rv a1, rv a2, rv b1, rv s1_, .unset] [(.ref b1)])) rfl (by rw [hml]; rfl) (argsL := []) (rest := []) (lenOf pd___Ljava_lang_String_ rfl) rfl (by show 2 * 0 + _ ≤ _; exact Nat.le_of_eq rfl) (hb hby at_229) rfl rfl (by decide) (by decide) (c' := 22) (s' := 76) rfl rfl
  clear q36a q36b q36c kq36 cq36
  obtain ⟨rfl, Nq36, eq36⟩ := hQ36
  have N36 := Fr.app N28 Nq36
  refine own_st (T' := T36) (g' := (mkF m 232 #[iv i0, .val (.long i1), .second, iv i2, iv (2 : Int32), rv va, rv xs_, rv a1, rv a2, rv b1, rv s1_, .unset] [(.ref s1_)])) st36 ?_
  clear st36
  refine own_st (T' := T36) (g' := (mkF m 234 #[iv i0, .val (.long i1), .second, iv i2, iv (2 : Int32), rv va, rv xs_, rv a1, rv a2, rv b1, rv s1_, rv s1_] [])) (fun _ k_ => XS.astore X36.here hx rfl (hb hby at_232) rfl rfl (l' := #[iv i0, .val (.long i1), .second, iv i2, iv (2 : Int32), rv va, rv xs_, rv a1, rv a2, rv b1, rv s1_, rv s1_]) rfl k_) ?_
  refine own_st (T' := T36) (g' := (mkF m 236 #[iv i0, .val (.long i1), .second, iv i2, iv (2 : Int32), rv va, rv xs_, rv a1, rv a2, rv b1, rv s1_, rv s1_] [(.ref s1_)])) (fun _ k_ => XS.aload X36.here hx rfl (hb hby at_234) rfl rfl  k_) ?_
  refine own_st (T' := T36) (g' := (mkF m 238 #[iv i0, .val (.long i1), .second, iv i2, iv (2 : Int32), rv va, rv xs_, rv a1, rv a2, rv b1, rv s1_, rv s1_] [(.ref va), (.ref s1_)])) (fun _ k_ => XS.aload X36.here hx rfl (hb hby at_236) rfl rfl  k_) ?_
  refine own_st (T' := T36) (g' := (mkF m 240 #[iv i0, .val (.long i1), .second, iv i2, iv (2 : Int32), rv va, rv xs_, rv a1, rv a2, rv b1, rv s1_, rv s1_] [(.int (2 : Int32)), (.ref va), (.ref s1_)])) (fun _ k_ => XS.iload X36.here hx rfl (hb hby at_238) rfl  k_) ?_
  refine own_st (T' := T36) (g' := (mkF m 241 #[iv i0, .val (.long i1), .second, iv i2, iv (2 : Int32), rv va, rv xs_, rv a1, rv a2, rv b1, rv s1_, rv s1_] [(.int (1 : Int32)), (.int (2 : Int32)), (.ref va), (.ref s1_)])) (fun _ k_ => XS.iconst X36.here hx rfl (hb hby at_240) k_) ?_
  refine own_st (T' := T36) (g' := (mkF m 242 #[iv i0, .val (.long i1), .second, iv i2, iv (2 : Int32), rv va, rv xs_, rv a1, rv a2, rv b1, rv s1_, rv s1_] [(.int (1 : Int32)), (.ref va), (.ref s1_)])) (fun _ k_ => XS.isub X36.here hx rfl (hb hby at_241) rfl k_) ?_
  have f38 := VA.ext E1
  have ne39 : va ≠ b1 := Nat.ne_of_lt (Nat.lt_of_lt_of_le VA.lt (Nat.le_of_eq g1.symm))
  have f40 := f38.keep K14 (ninS ne39 nin0)
  have xe41 : Exa Z h1 a1 "java/util/ArrayList" := PA0.ext E1
  have xe42 : Exa Z T14.heap a1 "java/util/ArrayList" := xe41.keep K14
  have ne43 : a1 ≠ va := own_neA xe42 (wd hw 44 rfl) f40
  have f44 := f40.keep K28 (ninS (Ne.symm ne43) (ninS nv1 nin0))
  obtain ⟨cl45, Ar45, q45, S45, N45, H45, G45⟩ := id f44
  have hin45 : ¬ ((1 : Int32) < 0 ∨ cl45.slots.size ≤ ((1 : Int32)).toNatClampNeg) := inb_of S45 ⟨by decide, by decide⟩
  refine own_st (T' := T36) (g' := (mkF m 243 #[iv i0, .val (.long i1), .second, iv i2, iv (2 : Int32), rv va, rv xs_, rv a1, rv a2, rv b1, rv s1_, rv s1_] [(.ref s1_), (.ref s1_)])) (X36.aaload hx (j := (1 : Int32)) (v := (.ref s1_)) (by rw [eq36]; exact Ar45.1) (State.isArrayOf_alike hZ.alike Ar45.2.1) rfl Ar45.2.2 hin45 (H45.at hin45 rfl) (g := (mkF m 242 #[iv i0, .val (.long i1), .second, iv i2, iv (2 : Int32), rv va, rv xs_, rv a1, rv a2, rv b1, rv s1_, rv s1_] [(.int (1 : Int32)), (.ref va), (.ref s1_)])) rfl rfl (hb hby at_242)) ?_
  clear hin45 G45 H45 N45 S45 q45 Ar45 cl45
  obtain ⟨cq46, kq46, q46a, q46b, q46c⟩ := isOf hZ eq36 f34
  obtain ⟨_, T46, L46, X46, hQ46, st46⟩ := own_callV X36 hx (y := own_m42) (z := own_m42) hown (mvT hZ (wd hw 234 rfl)) (mvT hZ (wd hw 235 rfl)) (notFace_of_selects (args := #[]) (mvT hZ (wd hw 237 rfl))) (mvT hZ (wd hw 237 rfl)) (mvT hZ (wd hw 236 rfl)) (by decide) (backOf (W := 0) (rm_eqs l Z a0 hw [] s1_ T28.heap n0 f35) hZ (wd hw 238 rfl) (wd hw 9 rfl) (by decide) (by decide)) q46a q46c (g := (mkF m 243 #[iv i0, .val (.long i1), .second, iv i2, iv (2 : Int32), rv va, rv xs_, rv a1, rv a2, rv b1, rv s1_, rv s1_] [(.ref s1_), (.ref s1_)])) rfl (by rw [hml]; rfl) (argsL := [(.ref s1_)]) (rest := []) (lenOf pd__Ljava_lang_Object__Z rfl) rfl (by show 2 * 0 + _ ≤ _; exact Nat.le_of_eq rfl) (hb hby at_243) rfl eq36 (by decide) (by decide) (c' := 22) (s' := 76) rfl rfl
  clear q46a q46b q46c kq46 cq46
  obtain ⟨rfl, Nq46, eq46⟩ := hQ46
  have N46 := Fr.app N36 Nq46
  refine own_st (T' := T46) (g' := (mkF m 246 #[iv i0, .val (.long i1), .second, iv i2, iv (2 : Int32), rv va, rv xs_, rv a1, rv a2, rv b1, rv s1_, rv s1_] [(.int (1 : Int32))])) st46 ?_
  clear st46
  refine own_st (T' := T46) (g' := (mkF m 249 #[iv i0, .val (.long i1), .second, iv i2, iv (2 : Int32), rv va, rv xs_, rv a1, rv a2, rv b1, rv s1_, rv s1_] [])) (fun _ k_ => XS.ifNo X46.here hx rfl (hb hby at_246) rfl ((if0 _ _).trans (feq (by decide : ¬ ((1 : Int32) = (0 : Int32)))).1) k_) ?_
  refine own_st (T' := T46) (g' := (mkF m 251 #[iv i0, .val (.long i1), .second, iv i2, iv (2 : Int32), rv va, rv xs_, rv a1, rv a2, rv b1, rv s1_, rv s1_] [(.ref s1_)])) (fun _ k_ => XS.aload X46.here hx rfl (hb hby at_249) rfl rfl  k_) ?_
  refine own_st (T' := T46) (g' := (mkF m 253 #[iv i0, .val (.long i1), .second, iv i2, iv (2 : Int32), rv va, rv xs_, rv a1, rv a2, rv b1, rv s1_, rv s1_] [(.ref va), (.ref s1_)])) (fun _ k_ => XS.aload X46.here hx rfl (hb hby at_251) rfl rfl  k_) ?_
  refine own_st (T' := T46) (g' := (mkF m 255 #[iv i0, .val (.long i1), .second, iv i2, iv (2 : Int32), rv va, rv xs_, rv a1, rv a2, rv b1, rv s1_, rv s1_] [(.int (2 : Int32)), (.ref va), (.ref s1_)])) (fun _ k_ => XS.iload X46.here hx rfl (hb hby at_253) rfl  k_) ?_
  refine own_st (T' := T46) (g' := (mkF m 256 #[iv i0, .val (.long i1), .second, iv i2, iv (2 : Int32), rv va, rv xs_, rv a1, rv a2, rv b1, rv s1_, rv s1_] [(.int (1 : Int32)), (.int (2 : Int32)), (.ref va), (.ref s1_)])) (fun _ k_ => XS.iconst X46.here hx rfl (hb hby at_255) k_) ?_
  refine own_st (T' := T46) (g' := (mkF m 257 #[iv i0, .val (.long i1), .second, iv i2, iv (2 : Int32), rv va, rv xs_, rv a1, rv a2, rv b1, rv s1_, rv s1_] [(.int (1 : Int32)), (.ref va), (.ref s1_)])) (fun _ k_ => XS.isub X46.here hx rfl (hb hby at_256) rfl k_) ?_
  obtain ⟨cl47, Ar47, q47, S47, N47, H47, G47⟩ := id f44
  have hin47 : ¬ ((1 : Int32) < 0 ∨ cl47.slots.size ≤ ((1 : Int32)).toNatClampNeg) := inb_of S47 ⟨by decide, by decide⟩
  refine own_st (T' := T46) (g' := (mkF m 258 #[iv i0, .val (.long i1), .second, iv i2, iv (2 : Int32), rv va, rv xs_, rv a1, rv a2, rv b1, rv s1_, rv s1_] [(.ref s1_), (.ref s1_)])) (X46.aaload hx (j := (1 : Int32)) (v := (.ref s1_)) (by rw [eq46]; exact Ar47.1) (State.isArrayOf_alike hZ.alike Ar47.2.1) rfl Ar47.2.2 hin47 (H47.at hin47 rfl) (g := (mkF m 257 #[iv i0, .val (.long i1), .second, iv i2, iv (2 : Int32), rv va, rv xs_, rv a1, rv a2, rv b1, rv s1_, rv s1_] [(.int (1 : Int32)), (.ref va), (.ref s1_)])) rfl rfl (hb hby at_257)) ?_
  clear hin47 G47 H47 N47 S47 q47 Ar47 cl47
  obtain ⟨cq48, kq48, q48a, q48b, q48c⟩ := isOf hZ eq46 f34
  obtain ⟨_, T48, L48, X48, hQ48, st48⟩ := own_callV X46 hx (y := own_m42) (z := own_m42) hown (mvT hZ (wd hw 234 rfl)) (mvT hZ (wd hw 235 rfl)) (notFace_of_selects (args := #[]) (mvT hZ (wd hw 237 rfl))) (mvT hZ (wd hw 237 rfl)) (mvT hZ (wd hw 236 rfl)) (by decide) (backOf (W := 0) (rm_eqs l Z a0 hw [] s1_ T28.heap n0 f35) hZ (wd hw 238 rfl) (wd hw 9 rfl) (by decide) (by decide)) q48a q48c (g := (mkF m 258 #[iv i0, .val (.long i1), .second, iv i2, iv (2 : Int32), rv va, rv xs_, rv a1, rv a2, rv b1, rv s1_, rv s1_] [(.ref s1_), (.ref s1_)])) rfl (by rw [hml]; rfl) (argsL := [(.ref s1_)]) (rest := []) (lenOf pd__Ljava_lang_Object__Z rfl) rfl (by show 2 * 0 + _ ≤ _; exact Nat.le_of_eq rfl) (hb hby at_258) rfl eq46 (by decide) (by decide) (c' := 22) (s' := 76) rfl rfl
  clear q48a q48b q48c kq48 cq48
  obtain ⟨rfl, Nq48, eq48⟩ := hQ48
  have N48 := Fr.app N46 Nq48
  refine own_st (T' := T48) (g' := (mkF m 261 #[iv i0, .val (.long i1), .second, iv i2, iv (2 : Int32), rv va, rv xs_, rv a1, rv a2, rv b1, rv s1_, rv s1_] [(.int (1 : Int32))])) st48 ?_
  clear st48
  refine own_st (T' := T48) (g' := (mkF m 264 #[iv i0, .val (.long i1), .second, iv i2, iv (2 : Int32), rv va, rv xs_, rv a1, rv a2, rv b1, rv s1_, rv s1_] [])) (fun _ k_ => XS.ifNo X48.here hx rfl (hb hby at_261) rfl ((if0 _ _).trans (feq (by decide : ¬ ((1 : Int32) = (0 : Int32)))).1) k_) ?_
  refine own_st (T' := T48) (g' := (mkF m 265 #[iv i0, .val (.long i1), .second, iv i2, iv (2 : Int32), rv va, rv xs_, rv a1, rv a2, rv b1, rv s1_, rv s1_] [(.int (1 : Int32))])) (fun _ k_ => XS.iconst X48.here hx rfl (hb hby at_264) k_) ?_
  refine own_st (T' := T48) (g' := (mkF m 269 #[iv i0, .val (.long i1), .second, iv i2, iv (2 : Int32), rv va, rv xs_, rv a1, rv a2, rv b1, rv s1_, rv s1_] [(.int (1 : Int32))])) (fun _ k_ => XS.goto X48.here hx rfl (pc0 := 265) (pc' := 269) rfl (hb hby at_265) (by decide) (by decide) k_) ?_
  exact own_retN X48 hx (t := .boolean) hret (by simp) hlk (hb hby at_269) (by decide) (by decide) ⟨rfl, N48⟩
theorem pd__I_Lcom_example_rights_leak_checker_rightsleakchecker_takegrant_Bridge_Letter_ : parseMethodDescriptor "(I)Lcom/example/rights_leak_checker/rightsleakchecker/takegrant/Bridge$Letter;" = some ⟨[.int], some (.object "com/example/rights_leak_checker/rightsleakchecker/takegrant/Bridge$Letter")⟩ := by decide +kernel
set_option maxRecDepth 65536 in
set_option maxHeartbeats 40000000 in
theorem seg_n3 {p : Program} {l : Launch} {e : Env} {s : State} {m : MethodId} {args : Array Value} {below : List Frame} {meth : Method} {c : Code} {T0 : State} {locs : List Loc} {Z : State} {a0 : Array Value} (h0 : Heap) (hB : Heap) (n0 : Nat) (i0 : Int32) (i1 : Int64) (i2 : Int32) (va : Addr) (kv : ClassId) (s0_ : Addr) (s1_ : Addr) (s2_ : Addr) (s3_ : Addr) (s4_ : Addr) (xs_ : Addr) (a1 : Addr) (a2 : Addr) (t1 : Addr) (t2 : Addr) (f0_ : Addr) (mc1 : Int32) (mc2 : Int32) (kO : ClassId) (mir : Addr) (em : Addr) (w_TAKE_OUT : Addr) (w_TAKE_IN : Addr) (w_GRANT_OUT : Addr) (w_GRANT_IN : Addr)
    (X0 : Stand p l e room_1 s m args below meth c T0 locs 17 67) (hx : p.tables.exec = Jvm.exec) (hZ : Z.Warmed39 s.vm) (hw : ∀ d ∈ tables_1, d.before a0 Z = true) (hby : c.code = code) (hml : c.maxLocals = 12) (hown : s.vm.findClass "com/example/rights_leak_checker/rightsleakchecker/takegrant/BridgeToPinLaw" = some m.cls) (hnm : meth.name = "law") (hret : meth.sig.returnType = some .boolean) (hlk : meth.locks = false) (e0 : T0.heap = hB) (N0 : Fr n0 locs) (O0 : Old Z n0 hB) (VA : Arv Z hB va kv (.object "java/lang/String") (5 : Int32) [(.ref s0_), (.ref s1_), (.ref s2_), (.ref s3_), (.ref s4_)] .null) (E_s0_ : Exa Z hB s0_ "java/lang/String") (E_s1_ : Exa Z hB s1_ "java/lang/String") (E_s2_ : Exa Z hB s2_ "java/lang/String") (E_s3_ : Exa Z hB s3_ "java/lang/String") (E_s4_ : Exa Z hB s4_ "java/lang/String") (E_xs_ : Exa Z hB xs_ "java/lang/String") (PA0 : Exa Z hB a1 "java/util/ArrayList") (PA1 : Fld Z hB a1 "java/util/ArrayList" "elementData" "[Ljava/lang/Object;" (.ref t1)) (PA2 : Fld Z hB a1 "java/util/ArrayList" "size" "I" (.int (2 : Int32))) (PA3 : Fld Z hB a1 "java/util/AbstractList" "modCount" "I" (.int mc1)) (PB0 : Exa Z hB a2 "java/util/ArrayList") (PB1 : Fld Z hB a2 "java/util/ArrayList" "elementData" "[Ljava/lang/Object;" (.ref t2)) (PB2 : Fld Z hB a2 "java/util/ArrayList" "size" "I" (.int (1 : Int32))) (PB3 : Fld Z hB a2 "java/util/AbstractList" "modCount" "I" (.int mc2)) (V1 : Arv Z hB t1 kO (.object "java/lang/Object") (10 : Int32) [(.ref s0_), (.ref s1_), .null, .null, .null, .null, .null, .null, .null, .null] .null) (V2 : Arv Z hB t2 kO (.object "java/lang/Object") (10 : Int32) [(.ref f0_), .null, .null, .null, .null, .null, .null, .null, .null, .null] .null) (f_a1 : n0 ≤ a1) (f_a2 : n0 ≤ a2) (f_t1 : n0 ≤ t1) (f_t2 : n0 ≤ t2) (n12 : a1 ≠ a2) (m12 : t1 ≠ t2) (nv1 : va ≠ t1) (nv2 : va ≠ t2) (nes : s1_ ≠ em) (X_f0 : Exa Z Z.heap f0_ "com/example/rights_leak_checker/rightsleakchecker/takegrant/Bridge$Letter") (OV : Ovr Z kO "java/lang/Object") (FC : Z.vm.findClass "[Ljava/lang/Object;" = some kO) (MIR : own_Mir Z "[Ljava/lang/Object;" mir) (SEm : Sta Z Z.heap "java/util/ImmutableCollections" "EMPTY" "Ljava/lang/Object;" (.ref em)) (S_TAKE_OUT : Sta Z Z.heap "com/example/rights_leak_checker/rightsleakchecker/takegrant/Bridge$Letter" "TAKE_OUT" "Lcom/example/rights_leak_checker/rightsleakchecker/takegrant/Bridge$Letter;" (.ref w_TAKE_OUT)) (X_TAKE_OUT : Exa Z Z.heap w_TAKE_OUT "com/example/rights_leak_checker/rightsleakchecker/takegrant/Bridge$Letter") (S_TAKE_IN : Sta Z Z.heap "com/example/rights_leak_checker/rightsleakchecker/takegrant/Bridge$Letter" "TAKE_IN" "Lcom/example/rights_leak_checker/rightsleakchecker/takegrant/Bridge$Letter;" (.ref w_TAKE_IN)) (X_TAKE_IN : Exa Z Z.heap w_TAKE_IN "com/example/rights_leak_checker/rightsleakchecker/takegrant/Bridge$Letter") (S_GRANT_OUT : Sta Z Z.heap "com/example/rights_leak_checker/rightsleakchecker/takegrant/Bridge$Letter" "GRANT_OUT" "Lcom/example/rights_leak_checker/rightsleakchecker/takegrant/Bridge$Letter;" (.ref w_GRANT_OUT)) (X_GRANT_OUT : Exa Z Z.heap w_GRANT_OUT "com/example/rights_leak_checker/rightsleakchecker/takegrant/Bridge$Letter") (S_GRANT_IN : Sta Z Z.heap "com/example/rights_leak_checker/rightsleakchecker/takegrant/Bridge$Letter" "GRANT_IN" "Lcom/example/rights_leak_checker/rightsleakchecker/takegrant/Bridge$Letter;" (.ref w_GRANT_IN)) (X_GRANT_IN : Exa Z Z.heap w_GRANT_IN "com/example/rights_leak_checker/rightsleakchecker/takegrant/Bridge$Letter") :
    own_E p e below s room_1.cells room_1.slots (own_L n0) T0 (mkF m 114 #[iv i0, .val (.long i1), .second, iv i2, iv (3 : Int32), rv va, rv xs_, rv a1, rv a2, .unset, .unset, .unset] []) := by
  refine own_st (T' := T0) (g' := (mkF m 116 #[iv i0, .val (.long i1), .second, iv i2, iv (3 : Int32), rv va, rv xs_, rv a1, rv a2, .unset, .unset, .unset] [(.int (3 : Int32))])) (fun _ k_ => XS.iload X0.here hx rfl (hb hby at_114) rfl  k_) ?_
  refine own_st (T' := T0) (g' := (mkF m 117 #[iv i0, .val (.long i1), .second, iv i2, iv (3 : Int32), rv va, rv xs_, rv a1, rv a2, .unset, .unset, .unset] [(.int (3 : Int32)), (.int (3 : Int32))])) (fun _ k_ => XS.iconst X0.here hx rfl (hb hby at_116) k_) ?_
  refine own_st (T' := T0) (g' := (mkF m 120 #[iv i0, .val (.long i1), .second, iv i2, iv (3 : Int32), rv va, rv xs_, rv a1, rv a2, .unset, .unset, .unset] [])) (fun _ k_ => XS.icmpNo X0.here hx rfl (hb hby at_117) rfl (flt (by decide : ¬ ((3 : Int32) < (3 : Int32)))).1 k_) ?_
  refine own_st (T' := T0) (g' := (mkF m 122 #[iv i0, .val (.long i1), .second, iv i2, iv (3 : Int32), rv va, rv xs_, rv a1, rv a2, .unset, .unset, .unset] [(.ref a1)])) (fun _ k_ => XS.aload X0.here hx rfl (hb hby at_120) rfl rfl  k_) ?_
  refine own_st (T' := T0) (g' := (mkF m 124 #[iv i0, .val (.long i1), .second, iv i2, iv (3 : Int32), rv va, rv xs_, rv a1, rv a2, .unset, .unset, .unset] [(.ref va), (.ref a1)])) (fun _ k_ => XS.aload X0.here hx rfl (hb hby at_122) rfl rfl  k_) ?_
  refine own_st (T' := T0) (g' := (mkF m 125 #[iv i0, .val (.long i1), .second, iv i2, iv (3 : Int32), rv va, rv xs_, rv a1, rv a2, .unset, .unset, .unset] [(.int (2 : Int32)), (.ref va), (.ref a1)])) (fun _ k_ => XS.iconst X0.here hx rfl (hb hby at_124) k_) ?_
  obtain ⟨cl1, Ar1, q1, S1, N1, H1, G1⟩ := id VA
  have hin1 : ¬ ((2 : Int32) < 0 ∨ cl1.slots.size ≤ ((2 : Int32)).toNatClampNeg) := inb_of S1 ⟨by decide, by decide⟩
  refine own_st (T' := T0) (g' := (mkF m 126 #[iv i0, .val (.long i1), .second, iv i2, iv (3 : Int32), rv va, rv xs_, rv a1, rv a2, .unset, .unset, .unset] [(.ref s2_), (.ref a1)])) (X0.aaload hx (j := (2 : Int32)) (v := (.ref s2_)) (by rw [e0]; exact Ar1.1) (State.isArrayOf_alike hZ.alike Ar1.2.1) rfl Ar1.2.2 hin1 (H1.at hin1 rfl) (g := (mkF m 125 #[iv i0, .val (.long i1), .second, iv i2, iv (3 : Int32), rv va, rv xs_, rv a1, rv a2, .unset, .unset, .unset] [(.int (2 : Int32)), (.ref va), (.ref a1)])) rfl rfl (hb hby at_125)) ?_
  clear hin1 G1 H1 N1 S1 q1 Ar1 cl1
  obtain ⟨cq2, kq2, q2a, q2b, q2c⟩ := isOf hZ e0 PA0
  obtain ⟨_, T2, L2, X2, hQ2, st2⟩ := own_callV X0 hx (y := own_m13) (z := own_m13) hown (mvT hZ (wd hw 67 rfl)) (mvT hZ (wd hw 68 rfl)) (notFace_of_selects (args := #[]) (mvT hZ (wd hw 70 rfl))) (mvT hZ (wd hw 70 rfl)) (mvT hZ (wd hw 69 rfl)) (by decide) (backOf (W := 0) (rm_add_2 l Z a0 hw [] a1 s2_ t1 mc1 kO (.ref s0_) (.ref s1_) hB n0 O0 PA0 PA1 PA2 PA3 V1 f_a1 f_t1 OV FC (Ins.of_exa E_s2_ (wd hw 97 rfl))) hZ (wd hw 71 rfl) (wd hw 45 rfl) (by decide) (by decide)) q2a q2c (g := (mkF m 126 #[iv i0, .val (.long i1), .second, iv i2, iv (3 : Int32), rv va, rv xs_, rv a1, rv a2, .unset, .unset, .unset] [(.ref s2_), (.ref a1)])) rfl (by rw [hml]; rfl) (argsL := [(.ref s2_)]) (rest := []) (lenOf pd__Ljava_lang_Object__Z rfl) rfl (by show 2 * 0 + _ ≤ _; exact Nat.le_of_eq rfl) (hb hby at_126) rfl e0 (by decide) (by decide) (c' := 17) (s' := 67) rfl rfl
  clear q2a q2b q2c kq2 cq2
  obtain ⟨rfl, Nq2, K2, fq2_0, fq2_1, fq2_2, fq2_3, fq2_4⟩ := hQ2
  have N2 := Fr.app N0 Nq2
  refine own_st (T' := T2) (g' := (mkF m 129 #[iv i0, .val (.long i1), .second, iv i2, iv (3 : Int32), rv va, rv xs_, rv a1, rv a2, .unset, .unset, .unset] [(.int (1 : Int32))])) st2 ?_
  clear st2
  refine own_st (T' := T2) (g' := (mkF m 130 #[iv i0, .val (.long i1), .second, iv i2, iv (3 : Int32), rv va, rv xs_, rv a1, rv a2, .unset, .unset, .unset] [])) (fun _ k_ => XS.pop X2.here hx rfl (hb hby at_129) rfl rfl k_) ?_
  refine own_st (T' := T2) (g' := (mkF m 132 #[iv i0, .val (.long i1), .second, iv i2, iv (3 : Int32), rv va, rv xs_, rv a1, rv a2, .unset, .unset, .unset] [(.ref a2)])) (fun _ k_ => XS.aload X2.here hx rfl (hb hby at_130) rfl rfl  k_) ?_
  refine own_st (T' := T2) (g' := (mkF m 133 #[iv i0, .val (.long i1), .second, iv i2, iv (3 : Int32), rv va, rv xs_, rv a1, rv a2, .unset, .unset, .unset] [(.int i2), (.ref a2)])) (fun _ k_ => XS.iloadN X2.here hx rfl (hb hby at_132) rfl  k_) ?_
  refine own_st (T' := T2) (g' := (mkF m 134 #[iv i0, .val (.long i1), .second, iv i2, iv (3 : Int32), rv va, rv xs_, rv a1, rv a2, .unset, .unset, .unset] [(.int (2 : Int32)), (.int i2), (.ref a2)])) (fun _ k_ => XS.iconst X2.here hx rfl (hb hby at_133) k_) ?_
  refine own_st (T' := T2) (g' := (mkF m 135 #[iv i0, .val (.long i1), .second, iv i2, iv (3 : Int32), rv va, rv xs_, rv a1, rv a2, .unset, .unset, .unset] [(.int ((i2.toUInt32 >>> ((2 : Int32) &&& 31).toUInt32).toInt32)), (.ref a2)])) (fun _ k_ => XS.iushr X2.here hx rfl (hb hby at_134) rfl k_) ?_
  have f3 := O0.keep K2 (allS f_a1 (allS f_t1 all0))
  obtain ⟨_, T4, L4, X4, hQ4, st4⟩ := own_callS X2 hx (y := own_m33) hown (mvT hZ (wd hw 98 rfl)) (mvT hZ (wd hw 99 rfl)) (mvT hZ (wd hw 4 rfl)) (mvT hZ (wd hw 100 rfl)) (by decide) (backOf (W := 1) (rm_let l Z a0 hw [] ((i2.toUInt32 >>> ((2 : Int32) &&& 31).toUInt32).toInt32) w_TAKE_OUT w_TAKE_IN w_GRANT_OUT w_GRANT_IN T2.heap n0 f3 S_TAKE_OUT X_TAKE_OUT S_TAKE_IN X_TAKE_IN S_GRANT_OUT X_GRANT_OUT S_GRANT_IN X_GRANT_IN) hZ (wd hw 100 rfl) (wd hw 4 rfl) (by decide) (by decide)) (g := (mkF m 135 #[iv i0, .val (.long i1), .second, iv i2, iv (3 : Int32), rv va, rv xs_, rv a1, rv a2, .unset, .unset, .unset] [(.int ((i2.toUInt32 >>> ((2 : Int32) &&& 31).toUInt32).toInt32)), (.ref a2)])) rfl (by rw [hml]; rfl) (argsL := [(.int ((i2.toUInt32 >>> ((2 : Int32) &&& 31).toUInt32).toInt32))]) (rest := [(.ref a2)]) (lenOf pd__I_Lcom_example_rights_leak_checker_rightsleakchecker_takegrant_Bridge_Letter_ rfl) rfl (by show 2 * 0 + _ ≤ _; exact Nat.le_of_eq rfl) (hb hby at_135) rfl rfl (by decide) (by decide) (c' := 17) (s' := 67) rfl rfl
  obtain ⟨b4, rfl, Nq4, eq4, xq4_old_b⟩ := hQ4
  have N4 := Fr.app N2 Nq4
  refine own_st (T' := T4) (g' := (mkF m 138 #[iv i0, .val (.long i1), .second, iv i2, iv (3 : Int32), rv va, rv xs_, rv a1, rv a2, .unset, .unset, .unset] [(.ref b4), (.ref a2)])) st4 ?_
  clear st4
  have f5 := PB0.keep K2
  have xe6 : Exa Z T2.heap a2 "java/util/ArrayList" := PB0.keep K2
  have ne7 : a2 ≠ t1 := own_neA xe6 (wd hw 44 rfl) fq2_4
  have f8 := PB1.keep K2 (ninS (Ne.symm n12) (ninS ne7 nin0))
  have f9 := PB2.keep K2 (ninS (Ne.symm n12) (ninS ne7 nin0))
  have f10 := PB3.keep K2 (ninS (Ne.symm n12) (ninS ne7 nin0))
  have ne11 : a1 ≠ t2 := own_neA PA0 (wd hw 44 rfl) V2
  have f12 := V2.keep K2 (ninS (Ne.symm ne11) (ninS (Ne.symm m12) nin0))
  obtain ⟨cq13, kq13, q13a, q13b, q13c⟩ := isOf hZ eq4 f5
  obtain ⟨_, T13, L13, X13, hQ13, st13⟩ := own_callV X4 hx (y := own_m13) (z := own_m13) hown (mvT hZ (wd hw 67 rfl)) (mvT hZ (wd hw 68 rfl)) (notFace_of_selects (args := #[]) (mvT hZ (wd hw 70 rfl))) (mvT hZ (wd hw 70 rfl)) (mvT hZ (wd hw 69 rfl)) (by decide) (backOf (W := 0) (rm_add_1 l Z a0 hw [] a2 b4 t2 mc2 kO (.ref f0_) T2.heap n0 f3 f5 f8 f9 f10 f12 f_a2 f_t2 OV FC (Ins.of_exa (xq4_old_b.ext f3.2) (wd hw 104 rfl))) hZ (wd hw 71 rfl) (wd hw 45 rfl) (by decide) (by decide)) q13a q13c (g := (mkF m 138 #[iv i0, .val (.long i1), .second, iv i2, iv (3 : Int32), rv va, rv xs_, rv a1, rv a2, .unset, .unset, .unset] [(.ref b4), (.ref a2)])) rfl (by rw [hml]; rfl) (argsL := [(.ref b4)]) (rest := []) (lenOf pd__Ljava_lang_Object__Z rfl) rfl (by show 2 * 0 + _ ≤ _; exact Nat.le_of_eq rfl) (hb hby at_138) rfl eq4 (by decide) (by decide) (c' := 17) (s' := 67) rfl rfl
  clear q13a q13b q13c kq13 cq13
  obtain ⟨rfl, Nq13, K13, fq13_0, fq13_1, fq13_2, fq13_3, fq13_4⟩ := hQ13
  have N13 := Fr.app N4 Nq13
  refine own_st (T' := T13) (g' := (mkF m 141 #[iv i0, .val (.long i1), .second, iv i2, iv (3 : Int32), rv va, rv xs_, rv a1, rv a2, .unset, .unset, .unset] [(.int (1 : Int32))])) st13 ?_
  clear st13
  refine own_st (T' := T13) (g' := (mkF m 142 #[iv i0, .val (.long i1), .second, iv i2, iv (3 : Int32), rv va, rv xs_, rv a1, rv a2, .unset, .unset, .unset] [])) (fun _ k_ => XS.pop X13.here hx rfl (hb hby at_141) rfl rfl k_) ?_
  refine own_st (T' := T13) (g' := (mkF m 144 #[iv i0, .val (.long i1), .second, iv i2, iv (3 : Int32), rv va, rv xs_, rv a1, rv a2, .unset, .unset, .unset] [(.int (3 : Int32))])) (fun _ k_ => XS.iload X13.here hx rfl (hb hby at_142) rfl  k_) ?_
  refine own_st (T' := T13) (g' := (mkF m 145 #[iv i0, .val (.long i1), .second, iv i2, iv (3 : Int32), rv va, rv xs_, rv a1, rv a2, .unset, .unset, .unset] [(.int (4 : Int32)), (.int (3 : Int32))])) (fun _ k_ => XS.iconst X13.here hx rfl (hb hby at_144) k_) ?_
  refine own_st (T' := T13) (g' := (mkF m 170 #[iv i0, .val (.long i1), .second, iv i2, iv (3 : Int32), rv va, rv xs_, rv a1, rv a2, .unset, .unset, .unset] [])) (fun _ k_ => XS.icmpYes X13.here hx rfl (pc0 := 145) (pc' := 170) rfl (hb hby at_145) rfl (tlt (by decide : (3 : Int32) < (4 : Int32))).1 (by decide) (by decide) k_) ?_
  refine own_st (T' := T13) (g' := (mkF m 172 #[iv i0, .val (.long i1), .second, iv i2, iv (3 : Int32), rv va, rv xs_, rv a1, rv a2, .unset, .unset, .unset] [(.int (3 : Int32))])) (fun _ k_ => XS.iload X13.here hx rfl (hb hby at_170) rfl  k_) ?_
  refine own_st (T' := T13) (g' := (mkF m 173 #[iv i0, .val (.long i1), .second, iv i2, iv (3 : Int32), rv va, rv xs_, rv a1, rv a2, .unset, .unset, .unset] [(.int (5 : Int32)), (.int (3 : Int32))])) (fun _ k_ => XS.iconst X13.here hx rfl (hb hby at_172) k_) ?_
  refine own_st (T' := T13) (g' := (mkF m 199 #[iv i0, .val (.long i1), .second, iv i2, iv (3 : Int32), rv va, rv xs_, rv a1, rv a2, .unset, .unset, .unset] [])) (fun _ k_ => XS.icmpYes X13.here hx rfl (pc0 := 173) (pc' := 199) rfl (hb hby at_173) rfl (tlt (by decide : (3 : Int32) < (5 : Int32))).1 (by decide) (by decide) k_) ?_
  have f14 := f3.keep K13 (allS f_a2 (allS f_t2 all0))
  obtain ⟨T15, h15, X15, e15, E15, A15, D15, -, st15⟩ := newO X13 hx hZ hown (wd hw 105 rfl) (wd hw 106 rfl) (wd hw 107 rfl) rfl (g := (mkF m 199 #[iv i0, .val (.long i1), .second, iv i2, iv (3 : Int32), rv va, rv xs_, rv a1, rv a2, .unset, .unset, .unset] [])) rfl (hb hby at_199) (by decide) (by decide)
  obtain ⟨b15, g15⟩ : ∃ z, z = T13.heap.size := ⟨_, rfl⟩
  rw [← g15] at A15 D15 st15
  have fr15 : n0 ≤ b15 := Nat.le_trans (own_z f14) (Nat.le_of_eq g15.symm)
  have F15_walk : Fld Z h15 b15 "com/example/rights_leak_checker/rightsleakchecker/takegrant/Bridge" "walk" "Ljava/util/List;" .null := D15 (Or.inr (wd hw 207 rfl)) (ty := (.object "java/util/List")) (by decide)
  have F15_letters : Fld Z h15 b15 "com/example/rights_leak_checker/rightsleakchecker/takegrant/Bridge" "letters" "Ljava/util/List;" .null := D15 (Or.inr (wd hw 213 rfl)) (ty := (.object "java/util/List")) (by decide)
  refine own_st (T' := T15) (g' := (mkF m 202 #[iv i0, .val (.long i1), .second, iv i2, iv (3 : Int32), rv va, rv xs_, rv a1, rv a2, .unset, .unset, .unset] [(.ref b15)])) st15 ?_
  clear st15
  refine own_st (T' := T15) (g' := (mkF m 203 #[iv i0, .val (.long i1), .second, iv i2, iv (3 : Int32), rv va, rv xs_, rv a1, rv a2, .unset, .unset, .unset] [(.ref b15), (.ref b15)])) (fun _ k_ => XS.dup X15.here hx rfl (hb hby at_202) rfl rfl k_) ?_
  refine own_st (T' := T15) (g' := (mkF m 205 #[iv i0, .val (.long i1), .second, iv i2, iv (3 : Int32), rv va, rv xs_, rv a1, rv a2, .unset, .unset, .unset] [(.ref a1), (.ref b15), (.ref b15)])) (fun _ k_ => XS.aload X15.here hx rfl (hb hby at_203) rfl rfl  k_) ?_
  refine own_st (T' := T15) (g' := (mkF m 207 #[iv i0, .val (.long i1), .second, iv i2, iv (3 : Int32), rv va, rv xs_, rv a1, rv a2, .unset, .unset, .unset] [(.ref a2), (.ref a1), (.ref b15), (.ref b15)])) (fun _ k_ => XS.aload X15.here hx rfl (hb hby at_205) rfl rfl  k_) ?_
  have ne16 : a2 ≠ b15 := Nat.ne_of_lt (Nat.lt_of_lt_of_le (Nat.lt_of_lt_of_le (Nat.lt_of_lt_of_le PB0.lt K2.1) K13.1) (Nat.le_of_eq g15.symm))
  have f17 := fq2_0.keep K13
  have f18 := f17.ext E15
  have f19 := fq2_1.keep K13 (ninS n12 (ninS ne11 nin0))
  have f20 := f19.ext E15
  have f21 := fq2_2.keep K13 (ninS n12 (ninS ne11 nin0))
  have f22 := f21.ext E15
  have f23 := fq2_4.keep K13 (ninS (Ne.symm ne7) (ninS m12 nin0))
  have f24 := f23.ext E15
  have f25 := fq13_0.ext E15
  have f26 := fq13_1.ext E15
  have f27 := fq13_2.ext E15
  have f28 := fq13_4.ext E15
  have f29 := E_s0_.keep K2
  have f30 := f29.keep K13
  have f31 := f30.ext E15
  have f32 := E_s1_.keep K2
  have f33 := f32.keep K13
  have f34 := f33.ext E15
  have f35 := E_s2_.keep K2
  have f36 := f35.keep K13
  have f37 := f36.ext E15
  have f38 := f14.ext E15
  obtain ⟨_, T39, L39, X39, hQ39, st39⟩ := own_callI X15 hx (y := own_m35) rfl hown (mvT hZ (wd hw 108 rfl)) (mvT hZ (wd hw 109 rfl)) (mvT hZ (wd hw 110 rfl)) (by decide) (backOf (W := 1) (rm_bri_3 l Z a0 hw [] b15 a1 t1 a2 t2 kO mir s0_ s1_ s2_ f0_ b4 h15 n0 f38 A15 F15_walk F15_letters fr15 (Ne.symm ne16) f18 f20 f22 f24 f25 f26 f27 f28 OV FC MIR (Ins.of_exa f31 (wd hw 97 rfl)) (Ins.of_exa f34 (wd hw 97 rfl)) (Ins.of_exa f37 (wd hw 97 rfl)) (Ins.of_exa (X_f0.ext f38.2) (wd hw 104 rfl)) (Ins.of_exa (xq4_old_b.ext f38.2) (wd hw 104 rfl))) hZ (wd hw 110 rfl) (wd hw 107 rfl) (by decide) (by decide)) (g := (mkF m 207 #[iv i0, .val (.long i1), .second, iv i2, iv (3 : Int32), rv va, rv xs_, rv a1, rv a2, .unset, .unset, .unset] [(.ref a2), (.ref a1), (.ref b15), (.ref b15)])) rfl (by rw [hml]; rfl) (a := b15) (argsL := [(.ref a1), (.ref a2)]) (rest := [(.ref b15)]) (lenOf pd__Ljava_util_List_Ljava_util_List__V rfl) rfl (by show 2 * 0 + _ ≤ _; exact Nat.le_of_eq rfl) (hb hby at_207) rfl e15 (by decide) (by decide) (c' := 23) (s' := 81) rfl rfl
  obtain ⟨x39, uu39, rfl, Nq39, K39, fq39_0, fq39_1, fq39_2, fq39_3, fq39_4, fq39_5, xq39_fresh_x, xq39_fresh_uu⟩ := hQ39
  have N39 := Fr.app N13 Nq39
  refine own_st (T' := T39) (g' := (mkF m 210 #[iv i0, .val (.long i1), .second, iv i2, iv (3 : Int32), rv va, rv xs_, rv a1, rv a2, .unset, .unset, .unset] [(.ref b15)])) st39 ?_
  clear st39
  refine own_st (T' := T39) (g' := (mkF m 212 #[iv i0, .val (.long i1), .second, iv i2, iv (3 : Int32), rv va, rv xs_, rv a1, rv a2, rv b15, .unset, .unset] [])) (fun _ k_ => XS.astore X39.here hx rfl (hb hby at_210) rfl rfl (l' := #[iv i0, .val (.long i1), .second, iv i2, iv (3 : Int32), rv va, rv xs_, rv a1, rv a2, rv b15, .unset, .unset]) rfl k_) ?_
  refine own_st (T' := T39) (g' := (mkF m 214 #[iv i0, .val (.long i1), .second, iv i2, iv (3 : Int32), rv va, rv xs_, rv a1, rv a2, rv b15, .unset, .unset] [(.ref b15)])) (fun _ k_ => XS.aload X39.here hx rfl (hb hby at_212) rfl rfl  k_) ?_
  have f40 := f37.keep K39
  have f41 := f38.keep K39 (allS fr15 all0)
  obtain ⟨cq42, kq42, q42a, q42b, q42c⟩ := isOf hZ rfl fq39_0
  obtain ⟨_, T42, L42, X42, hQ42, st42⟩ := own_callV X39 hx (y := own_m39) (z := own_m39) hown (mvT hZ (wd hw 214 rfl)) (mvT hZ (wd hw 215 rfl)) (notFace_of_selects (args := #[]) (mvT hZ (wd hw 217 rfl))) (mvT hZ (wd hw 217 rfl)) (mvT hZ (wd hw 216 rfl)) (by decide) (backOf (W := 0) (rm_to_3 l Z a0 hw [] b15 x39 uu39 kO s0_ s1_ s2_ T39.heap n0 f41 fq39_1 fq39_2 fq39_3 fq39_5 f40) hZ (wd hw 218 rfl) (wd hw 107 rfl) (by decide) (by decide)) q42a q42c (g := (mkF m 214 #[iv i0, .val (.long i1), .second, iv i2, iv (3 : Int32), rv va, rv xs_, rv a1, rv a2, rv b15, .unset, .unset] [(.ref b15)])) rfl (by rw [hml]; rfl) (argsL := []) (rest := []) (lenOf pd___Ljava_lang_String_ rfl) rfl (by show 2 * 0 + _ ≤ _; exact Nat.le_of_eq rfl) (hb hby at_214) rfl rfl (by decide) (by decide) (c' := 23) (s' := 81) rfl rfl
  clear q42a q42b q42c kq42 cq42
  obtain ⟨rfl, Nq42, eq42⟩ := hQ42
  have N42 := Fr.app N39 Nq42
  refine own_st (T' := T42) (g' := (mkF m 217 #[iv i0, .val (.long i1), .second, iv i2, iv (3 : Int32), rv va, rv xs_, rv a1, rv a2, rv b15, .unset, .unset] [(.ref s2_)])) st42 ?_
  clear st42
  refine own_st (T' := T42) (g' := (mkF m 219 #[iv i0, .val (.long i1), .second, iv i2, iv (3 : Int32), rv va, rv xs_, rv a1, rv a2, rv b15, rv s2_, .unset] [])) (fun _ k_ => XS.astore X42.here hx rfl (hb hby at_217) rfl rfl (l' := #[iv i0, .val (.long i1), .second, iv i2, iv (3 : Int32), rv va, rv xs_, rv a1, rv a2, rv b15, rv s2_, .unset]) rfl k_) ?_
  refine own_st (T' := T42) (g' := (mkF m 221 #[iv i0, .val (.long i1), .second, iv i2, iv (3 : Int32), rv va, rv xs_, rv a1, rv a2, rv b15, rv s2_, .unset] [(.ref a1)])) (fun _ k_ => XS.aload X42.here hx rfl (hb hby at_219) rfl rfl  k_) ?_
  refine own_st (T' := T42) (g' := (mkF m 223 #[iv i0, .val (.long i1), .second, iv i2, iv (3 : Int32), rv va, rv xs_, rv a1, rv a2, rv b15, rv s2_, .unset] [(.ref xs_), (.ref a1)])) (fun _ k_ => XS.aload X42.here hx rfl (hb hby at_221) rfl rfl  k_) ?_
  have f43 := f18.keep K39
  have ne44 : a1 ≠ b15 := Nat.ne_of_lt (Nat.lt_of_lt_of_le (Nat.lt_of_lt_of_le (Nat.lt_of_lt_of_le PA0.lt K2.1) K13.1) (Nat.le_of_eq g15.symm))
  have f45 := f20.keep K39 (ninS ne44 nin0)
  have f46 := f22.keep K39 (ninS ne44 nin0)
  have f47 := fq2_3.keep K13 (ninS n12 (ninS ne11 nin0))
  have f48 := f47.ext E15
  have f49 := f48.keep K39 (ninS ne44 nin0)
  have ne50 : t1 ≠ b15 := Nat.ne_of_lt (Nat.lt_of_lt_of_le (Nat.lt_of_lt_of_le (Nat.lt_of_lt_of_le V1.lt K2.1) K13.1) (Nat.le_of_eq g15.symm))
  have f51 := f24.keep K39 (ninS ne50 nin0)
  have f52 := E_xs_.keep K2
  have f53 := f52.keep K13
  have f54 := f53.ext E15
  have f55 := f54.keep K39
  obtain ⟨cq56, kq56, q56a, q56b, q56c⟩ := isOf hZ eq42 f43
  obtain ⟨_, T56, L56, X56, hQ56, st56⟩ := own_callV X42 hx (y := own_m13) (z := own_m13) hown (mvT hZ (wd hw 67 rfl)) (mvT hZ (wd hw 68 rfl)) (notFace_of_selects (args := #[]) (mvT hZ (wd hw 70 rfl))) (mvT hZ (wd hw 70 rfl)) (mvT hZ (wd hw 69 rfl)) (by decide) (backOf (W := 0) (rm_add_3 l Z a0 hw [] a1 xs_ t1 (mc1 + (1 : Int32)) kO (.ref s0_) (.ref s1_) (.ref s2_) T39.heap n0 f41 f43 f45 f46 f49 f51 f_a1 f_t1 OV FC (Ins.of_exa f55 (wd hw 97 rfl))) hZ (wd hw 71 rfl) (wd hw 45 rfl) (by decide) (by decide)) q56a q56c (g := (mkF m 223 #[iv i0, .val (.long i1), .second, iv i2, iv (3 : Int32), rv va, rv xs_, rv a1, rv a2, rv b15, rv s2_, .unset] [(.ref xs_), (.ref a1)])) rfl (by rw [hml]; rfl) (argsL := [(.ref xs_)]) (rest := []) (lenOf pd__Ljava_lang_Object__Z rfl) rfl (by show 2 * 0 + _ ≤ _; exact Nat.le_of_eq rfl) (hb hby at_223) rfl eq42 (by decide) (by decide) (c' := 23) (s' := 81) rfl rfl
  clear q56a q56b q56c kq56 cq56
  obtain ⟨rfl, Nq56, K56, fq56_0, fq56_1, fq56_2, fq56_3, fq56_4⟩ := hQ56
  have N56 := Fr.app N42 Nq56
  refine own_st (T' := T56) (g' := (mkF m 226 #[iv i0, .val (.long i1), .second, iv i2, iv (3 : Int32), rv va, rv xs_, rv a1, rv a2, rv b15, rv s2_, .unset] [(.int (1 : Int32))])) st56 ?_
  clear st56
  refine own_st (T' := T56) (g' := (mkF m 227 #[iv i0, .val (.long i1), .second, iv i2, iv (3 : Int32), rv va, rv xs_, rv a1, rv a2, rv b15, rv s2_, .unset] [])) (fun _ k_ => XS.pop X56.here hx rfl (hb hby at_226) rfl rfl k_) ?_
  refine own_st (T' := T56) (g' := (mkF m 229 #[iv i0, .val (.long i1), .second, iv i2, iv (3 : Int32), rv va, rv xs_, rv a1, rv a2, rv b15, rv s2_, .unset] [(.ref b15)])) (fun _ k_ => XS.aload X56.here hx rfl (hb hby at_227) rfl rfl  k_) ?_
  have f57 := fq39_1.keep K56 (ninS (Ne.symm ne44) (ninS (Ne.symm ne50) nin0))
  have f58 := fq39_2.keep K56
  have ne59 : t1 ≠ x39 := Nat.ne_of_lt (Nat.lt_of_lt_of_le (Nat.lt_of_lt_of_le (Nat.lt_of_lt_of_le (Nat.lt_of_lt_of_le V1.lt K2.1) K13.1) E15.1) xq39_fresh_x)
  have ne60 : a1 ≠ x39 := Nat.ne_of_lt (Nat.lt_of_lt_of_le (Nat.lt_of_lt_of_le (Nat.lt_of_lt_of_le (Nat.lt_of_lt_of_le PA0.lt K2.1) K13.1) E15.1) xq39_fresh_x)
  have f61 := fq39_3.keep K56 (ninS (Ne.symm ne60) (ninS (Ne.symm ne59) nin0))
  have ne62 : t1 ≠ uu39 := Nat.ne_of_lt (Nat.lt_of_lt_of_le (Nat.lt_of_lt_of_le (Nat.lt_of_lt_of_le (Nat.lt_of_lt_of_le V1.lt K2.1) K13.1) E15.1) xq39_fresh_uu)
  have ne63 : a1 ≠ uu39 := Nat.ne_of_lt (Nat.lt_of_lt_of_le (Nat.lt_of_lt_of_le (Nat.lt_of_lt_of_le (Nat.lt_of_lt_of_le PA0.lt K2.1) K13.1) E15.1) xq39_fresh_uu)
  have f64 := fq39_5.keep K56 (ninS (Ne.symm ne63) (ninS (Ne.symm ne62) nin0))
  have f65 := f40.keep K56
  have f66 := f41.keep K56 (allS f_a1 (allS f_t1 all0))
  have f68 := fq39_0.keep K56
  obtain ⟨cq67, kq67, q67a, q67b, q67c⟩ := isOf hZ rfl f68
  obtain ⟨_, T67, L67, X67, hQ67, st67⟩ := own_callV X56 hx (y := own_m39) (z := own_m39) hown (mvT hZ (wd hw 214 rfl)) (mvT hZ (wd hw 215 rfl)) (notFace_of_selects (args := #[]) (mvT hZ (wd hw 217 rfl))) (mvT hZ (wd hw 217 rfl)) (mvT hZ (wd hw 216 rfl)) (by decide) (backOf (W := 0) (rm_to_3 l Z a0 hw [] b15 x39 uu39 kO s0_ s1_ s2_ T56.heap n0 f66 f57 f58 f61 f64 f65) hZ (wd hw 218 rfl) (wd hw 107 rfl) (by decide) (by decide)) q67a q67c (g := (mkF m 229 #[iv i0, .val (.long i1), .second, iv i2, iv (3 : Int32), rv va, rv xs_, rv a1, rv a2, rv b15, rv s2_, .unset] [(.ref b15)])) rfl (by rw [hml]; rfl) (argsL := []) (rest := []) (lenOf pd___Ljava_lang_String_ rfl) rfl (by show 2 * 0 + _ ≤ _; exact Nat.le_of_eq rfl) (hb hby at_229) rfl rfl (by decide) (by decide) (c' := 23) (s' := 81) rfl rfl
  clear q67a q67b q67c kq67 cq67
  obtain ⟨rfl, Nq67, eq67⟩ := hQ67
  have N67 := Fr.app N56 Nq67
  refine own_st (T' := T67) (g' := (mkF m 232 #[iv i0, .val (.long i1), .second, iv i2, iv (3 : Int32), rv va, rv xs_, rv a1, rv a2, rv b15, rv s2_, .unset] [(.ref s2_)])) st67 ?_
  clear st67
  refine own_st (T' := T67) (g' := (mkF m 234 #[iv i0, .val (.long i1), .second, iv i2, iv (3 : Int32), rv va, rv xs_, rv a1, rv a2, rv b15, rv s2_, rv s2_] [])) (fun _ k_ => XS.astore X67.here hx rfl (hb hby at_232) rfl rfl (l' := #[iv i0, .val (.long i1), .second, iv i2, iv (3 : Int32), rv va, rv xs_, rv a1, rv a2, rv b15, rv s2_, rv s2_]) rfl k_) ?_
  refine own_st (T' := T67) (g' := (mkF m 236 #[iv i0, .val (.long i1), .second, iv i2, iv (3 : Int32), rv va, rv xs_, rv a1, rv a2, rv b15, rv s2_, rv s2_] [(.ref s2_)])) (fun _ k_ => XS.aload X67.here hx rfl (hb hby at_234) rfl rfl  k_) ?_
  refine own_st (T' := T67) (g' := (mkF m 238 #[iv i0, .val (.long i1), .second, iv i2, iv (3 : Int32), rv va, rv xs_, rv a1, rv a2, rv b15, rv s2_, rv s2_] [(.ref va), (.ref s2_)])) (fun _ k_ => XS.aload X67.here hx rfl (hb hby at_236) rfl rfl  k_) ?_
  refine own_st (T' := T67) (g' := (mkF m 240 #[iv i0, .val (.long i1), .second, iv i2, iv (3 : Int32), rv va, rv xs_, rv a1, rv a2, rv b15, rv s2_, rv s2_] [(.int (3 : Int32)), (.ref va), (.ref s2_)])) (fun _ k_ => XS.iload X67.here hx rfl (hb hby at_238) rfl  k_) ?_
  refine own_st (T' := T67) (g' := (mkF m 241 #[iv i0, .val (.long i1), .second, iv i2, iv (3 : Int32), rv va, rv xs_, rv a1, rv a2, rv b15, rv s2_, rv s2_] [(.int (1 : Int32)), (.int (3 : Int32)), (.ref va), (.ref s2_)])) (fun _ k_ => XS.iconst X67.here hx rfl (hb hby at_240) k_) ?_
  refine own_st (T' := T67) (g' := (mkF m 242 #[iv i0, .val (.long i1), .second, iv i2, iv (3 : Int32), rv va, rv xs_, rv a1, rv a2, rv b15, rv s2_, rv s2_] [(.int (2 : Int32)), (.ref va), (.ref s2_)])) (fun _ k_ => XS.isub X67.here hx rfl (hb hby at_241) rfl k_) ?_
  have ne69 : a1 ≠ va := own_neA PA0 (wd hw 44 rfl) VA
  have f70 := VA.keep K2 (ninS (Ne.symm ne69) (ninS nv1 nin0))
  have xe71 : Exa Z T2.heap a2 "java/util/ArrayList" := PB0.keep K2
  have ne72 : a2 ≠ va := own_neA xe71 (wd hw 44 rfl) f70
  have f73 := f70.keep K13 (ninS (Ne.symm ne72) (ninS nv2 nin0))
  have f74 := f73.ext E15
  have ne75 : va ≠ b15 := Nat.ne_of_lt (Nat.lt_of_lt_of_le (Nat.lt_of_lt_of_le (Nat.lt_of_lt_of_le VA.lt K2.1) K13.1) (Nat.le_of_eq g15.symm))
  have f76 := f74.keep K39 (ninS ne75 nin0)
  have f77 := f76.keep K56 (ninS (Ne.symm ne69) (ninS nv1 nin0))
  obtain ⟨cl78, Ar78, q78, S78, N78, H78, G78⟩ := id f77
  have hin78 : ¬ ((2 : Int32) < 0 ∨ cl78.slots.size ≤ ((2 : Int32)).toNatClampNeg) := inb_of S78 ⟨by decide, by decide⟩
  refine own_st (T' := T67) (g' := (mkF m 243 #[iv i0, .val (.long i1), .second, iv i2, iv (3 : Int32), rv va, rv xs_, rv a1, rv a2, rv b15, rv s2_, rv s2_] [(.ref s2_), (.ref s2_)])) (X67.aaload hx (j := (2 : Int32)) (v := (.ref s2_)) (by rw [eq67]; exact Ar78.1) (State.isArrayOf_alike hZ.alike Ar78.2.1) rfl Ar78.2.2 hin78 (H78.at hin78 rfl) (g := (mkF m 242 #[iv i0, .val (.long i1), .second, iv i2, iv (3 : Int32), rv va, rv xs_, rv a1, rv a2, rv b15, rv s2_, rv s2_] [(.int (2 : Int32)), (.ref va), (.ref s2_)])) rfl rfl (hb hby at_242)) ?_
  clear hin78 G78 H78 N78 S78 q78 Ar78 cl78
  obtain ⟨cq79, kq79, q79a, q79b, q79c⟩ := isOf hZ eq67 f65
  obtain ⟨_, T79, L79, X79, hQ79, st79⟩ := own_callV X67 hx (y := own_m42) (z := own_m42) hown (mvT hZ (wd hw 234 rfl)) (mvT hZ (wd hw 235 rfl)) (notFace_of_selects (args := #[]) (mvT hZ (wd hw 237 rfl))) (mvT hZ (wd hw 237 rfl)) (mvT hZ (wd hw 236 rfl)) (by decide) (backOf (W := 0) (rm_eqs l Z a0 hw [] s2_ T56.heap n0 f66) hZ (wd hw 238 rfl) (wd hw 9 rfl) (by decide) (by decide)) q79a q79c (g := (mkF m 243 #[iv i0, .val (.long i1), .second, iv i2, iv (3 : Int32), rv va, rv xs_, rv a1, rv a2, rv b15, rv s2_, rv s2_] [(.ref s2_), (.ref s2_)])) rfl (by rw [hml]; rfl) (argsL := [(.ref s2_)]) (rest := []) (lenOf pd__Ljava_lang_Object__Z rfl) rfl (by show 2 * 0 + _ ≤ _; exact Nat.le_of_eq rfl) (hb hby at_243) rfl eq67 (by decide) (by decide) (c' := 23) (s' := 81) rfl rfl
  clear q79a q79b q79c kq79 cq79
  obtain ⟨rfl, Nq79, eq79⟩ := hQ79
  have N79 := Fr.app N67 Nq79
  refine own_st (T' := T79) (g' := (mkF m 246 #[iv i0, .val (.long i1), .second, iv i2, iv (3 : Int32), rv va, rv xs_, rv a1, rv a2, rv b15, rv s2_, rv s2_] [(.int (1 : Int32))])) st79 ?_
  clear st79
  refine own_st (T' := T79) (g' := (mkF m 249 #[iv i0, .val (.long i1), .second, iv i2, iv (3 : Int32), rv va, rv xs_, rv a1, rv a2, rv b15, rv s2_, rv s2_] [])) (fun _ k_ => XS.ifNo X79.here hx rfl (hb hby at_246) rfl ((if0 _ _).trans (feq (by decide : ¬ ((1 : Int32) = (0 : Int32)))).1) k_) ?_
  refine own_st (T' := T79) (g' := (mkF m 251 #[iv i0, .val (.long i1), .second, iv i2, iv (3 : Int32), rv va, rv xs_, rv a1, rv a2, rv b15, rv s2_, rv s2_] [(.ref s2_)])) (fun _ k_ => XS.aload X79.here hx rfl (hb hby at_249) rfl rfl  k_) ?_
  refine own_st (T' := T79) (g' := (mkF m 253 #[iv i0, .val (.long i1), .second, iv i2, iv (3 : Int32), rv va, rv xs_, rv a1, rv a2, rv b15, rv s2_, rv s2_] [(.ref va), (.ref s2_)])) (fun _ k_ => XS.aload X79.here hx rfl (hb hby at_251) rfl rfl  k_) ?_
  refine own_st (T' := T79) (g' := (mkF m 255 #[iv i0, .val (.long i1), .second, iv i2, iv (3 : Int32), rv va, rv xs_, rv a1, rv a2, rv b15, rv s2_, rv s2_] [(.int (3 : Int32)), (.ref va), (.ref s2_)])) (fun _ k_ => XS.iload X79.here hx rfl (hb hby at_253) rfl  k_) ?_
  refine own_st (T' := T79) (g' := (mkF m 256 #[iv i0, .val (.long i1), .second, iv i2, iv (3 : Int32), rv va, rv xs_, rv a1, rv a2, rv b15, rv s2_, rv s2_] [(.int (1 : Int32)), (.int (3 : Int32)), (.ref va), (.ref s2_)])) (fun _ k_ => XS.iconst X79.here hx rfl (hb hby at_255) k_) ?_
  refine own_st (T' := T79) (g' := (mkF m 257 #[iv i0, .val (.long i1), .second, iv i2, iv (3 : Int32), rv va, rv xs_, rv a1, rv a2, rv b15, rv s2_, rv s2_] [(.int (2 : Int32)), (.ref va), (.ref s2_)])) (fun _ k_ => XS.isub X79.here hx rfl (hb hby at_256) rfl k_) ?_
  obtain ⟨cl80, Ar80, q80, S80, N80, H80, G80⟩ := id f77
  have hin80 : ¬ ((2 : Int32) < 0 ∨ cl80.slots.size ≤ ((2 : Int32)).toNatClampNeg) := inb_of S80 ⟨by decide, by decide⟩
  refine own_st (T' := T79) (g' := (mkF m 258 #[iv i0, .val (.long i1), .second, iv i2, iv (3 : Int32), rv va, rv xs_, rv a1, rv a2, rv b15, rv s2_, rv s2_] [(.ref s2_), (.ref s2_)])) (X79.aaload hx (j := (2 : Int32)) (v := (.ref s2_)) (by rw [eq79]; exact Ar80.1) (State.isArrayOf_alike hZ.alike Ar80.2.1) rfl Ar80.2.2 hin80 (H80.at hin80 rfl) (g := (mkF m 257 #[iv i0, .val (.long i1), .second, iv i2, iv (3 : Int32), rv va, rv xs_, rv a1, rv a2, rv b15, rv s2_, rv s2_] [(.int (2 : Int32)), (.ref va), (.ref s2_)])) rfl rfl (hb hby at_257)) ?_
  clear hin80 G80 H80 N80 S80 q80 Ar80 cl80
  obtain ⟨cq81, kq81, q81a, q81b, q81c⟩ := isOf hZ eq79 f65
  obtain ⟨_, T81, L81, X81, hQ81, st81⟩ := own_callV X79 hx (y := own_m42) (z := own_m42) hown (mvT hZ (wd hw 234 rfl)) (mvT hZ (wd hw 235 rfl)) (notFace_of_selects (args := #[]) (mvT hZ (wd hw 237 rfl))) (mvT hZ (wd hw 237 rfl)) (mvT hZ (wd hw 236 rfl)) (by decide) (backOf (W := 0) (rm_eqs l Z a0 hw [] s2_ T56.heap n0 f66) hZ (wd hw 238 rfl) (wd hw 9 rfl) (by decide) (by decide)) q81a q81c (g := (mkF m 258 #[iv i0, .val (.long i1), .second, iv i2, iv (3 : Int32), rv va, rv xs_, rv a1, rv a2, rv b15, rv s2_, rv s2_] [(.ref s2_), (.ref s2_)])) rfl (by rw [hml]; rfl) (argsL := [(.ref s2_)]) (rest := []) (lenOf pd__Ljava_lang_Object__Z rfl) rfl (by show 2 * 0 + _ ≤ _; exact Nat.le_of_eq rfl) (hb hby at_258) rfl eq79 (by decide) (by decide) (c' := 23) (s' := 81) rfl rfl
  clear q81a q81b q81c kq81 cq81
  obtain ⟨rfl, Nq81, eq81⟩ := hQ81
  have N81 := Fr.app N79 Nq81
  refine own_st (T' := T81) (g' := (mkF m 261 #[iv i0, .val (.long i1), .second, iv i2, iv (3 : Int32), rv va, rv xs_, rv a1, rv a2, rv b15, rv s2_, rv s2_] [(.int (1 : Int32))])) st81 ?_
  clear st81
  refine own_st (T' := T81) (g' := (mkF m 264 #[iv i0, .val (.long i1), .second, iv i2, iv (3 : Int32), rv va, rv xs_, rv a1, rv a2, rv b15, rv s2_, rv s2_] [])) (fun _ k_ => XS.ifNo X81.here hx rfl (hb hby at_261) rfl ((if0 _ _).trans (feq (by decide : ¬ ((1 : Int32) = (0 : Int32)))).1) k_) ?_
  refine own_st (T' := T81) (g' := (mkF m 265 #[iv i0, .val (.long i1), .second, iv i2, iv (3 : Int32), rv va, rv xs_, rv a1, rv a2, rv b15, rv s2_, rv s2_] [(.int (1 : Int32))])) (fun _ k_ => XS.iconst X81.here hx rfl (hb hby at_264) k_) ?_
  refine own_st (T' := T81) (g' := (mkF m 269 #[iv i0, .val (.long i1), .second, iv i2, iv (3 : Int32), rv va, rv xs_, rv a1, rv a2, rv b15, rv s2_, rv s2_] [(.int (1 : Int32))])) (fun _ k_ => XS.goto X81.here hx rfl (pc0 := 265) (pc' := 269) rfl (hb hby at_265) (by decide) (by decide) k_) ?_
  exact own_retN X81 hx (t := .boolean) hret (by simp) hlk (hb hby at_269) (by decide) (by decide) ⟨rfl, N81⟩
set_option maxRecDepth 65536 in
set_option maxHeartbeats 40000000 in
theorem seg_n4 {p : Program} {l : Launch} {e : Env} {s : State} {m : MethodId} {args : Array Value} {below : List Frame} {meth : Method} {c : Code} {T0 : State} {locs : List Loc} {Z : State} {a0 : Array Value} (h0 : Heap) (hB : Heap) (n0 : Nat) (i0 : Int32) (i1 : Int64) (i2 : Int32) (va : Addr) (kv : ClassId) (s0_ : Addr) (s1_ : Addr) (s2_ : Addr) (s3_ : Addr) (s4_ : Addr) (xs_ : Addr) (a1 : Addr) (a2 : Addr) (t1 : Addr) (t2 : Addr) (f0_ : Addr) (mc1 : Int32) (mc2 : Int32) (kO : ClassId) (mir : Addr) (em : Addr) (w_TAKE_OUT : Addr) (w_TAKE_IN : Addr) (w_GRANT_OUT : Addr) (w_GRANT_IN : Addr)
    (X0 : Stand p l e room_1 s m args below meth c T0 locs 17 67) (hx : p.tables.exec = Jvm.exec) (hZ : Z.Warmed39 s.vm) (hw : ∀ d ∈ tables_1, d.before a0 Z = true) (hby : c.code = code) (hml : c.maxLocals = 12) (hown : s.vm.findClass "com/example/rights_leak_checker/rightsleakchecker/takegrant/BridgeToPinLaw" = some m.cls) (hnm : meth.name = "law") (hret : meth.sig.returnType = some .boolean) (hlk : meth.locks = false) (e0 : T0.heap = hB) (N0 : Fr n0 locs) (O0 : Old Z n0 hB) (VA : Arv Z hB va kv (.object "java/lang/String") (5 : Int32) [(.ref s0_), (.ref s1_), (.ref s2_), (.ref s3_), (.ref s4_)] .null) (E_s0_ : Exa Z hB s0_ "java/lang/String") (E_s1_ : Exa Z hB s1_ "java/lang/String") (E_s2_ : Exa Z hB s2_ "java/lang/String") (E_s3_ : Exa Z hB s3_ "java/lang/String") (E_s4_ : Exa Z hB s4_ "java/lang/String") (E_xs_ : Exa Z hB xs_ "java/lang/String") (PA0 : Exa Z hB a1 "java/util/ArrayList") (PA1 : Fld Z hB a1 "java/util/ArrayList" "elementData" "[Ljava/lang/Object;" (.ref t1)) (PA2 : Fld Z hB a1 "java/util/ArrayList" "size" "I" (.int (2 : Int32))) (PA3 : Fld Z hB a1 "java/util/AbstractList" "modCount" "I" (.int mc1)) (PB0 : Exa Z hB a2 "java/util/ArrayList") (PB1 : Fld Z hB a2 "java/util/ArrayList" "elementData" "[Ljava/lang/Object;" (.ref t2)) (PB2 : Fld Z hB a2 "java/util/ArrayList" "size" "I" (.int (1 : Int32))) (PB3 : Fld Z hB a2 "java/util/AbstractList" "modCount" "I" (.int mc2)) (V1 : Arv Z hB t1 kO (.object "java/lang/Object") (10 : Int32) [(.ref s0_), (.ref s1_), .null, .null, .null, .null, .null, .null, .null, .null] .null) (V2 : Arv Z hB t2 kO (.object "java/lang/Object") (10 : Int32) [(.ref f0_), .null, .null, .null, .null, .null, .null, .null, .null, .null] .null) (f_a1 : n0 ≤ a1) (f_a2 : n0 ≤ a2) (f_t1 : n0 ≤ t1) (f_t2 : n0 ≤ t2) (n12 : a1 ≠ a2) (m12 : t1 ≠ t2) (nv1 : va ≠ t1) (nv2 : va ≠ t2) (nes : s1_ ≠ em) (X_f0 : Exa Z Z.heap f0_ "com/example/rights_leak_checker/rightsleakchecker/takegrant/Bridge$Letter") (OV : Ovr Z kO "java/lang/Object") (FC : Z.vm.findClass "[Ljava/lang/Object;" = some kO) (MIR : own_Mir Z "[Ljava/lang/Object;" mir) (SEm : Sta Z Z.heap "java/util/ImmutableCollections" "EMPTY" "Ljava/lang/Object;" (.ref em)) (S_TAKE_OUT : Sta Z Z.heap "com/example/rights_leak_checker/rightsleakchecker/takegrant/Bridge$Letter" "TAKE_OUT" "Lcom/example/rights_leak_checker/rightsleakchecker/takegrant/Bridge$Letter;" (.ref w_TAKE_OUT)) (X_TAKE_OUT : Exa Z Z.heap w_TAKE_OUT "com/example/rights_leak_checker/rightsleakchecker/takegrant/Bridge$Letter") (S_TAKE_IN : Sta Z Z.heap "com/example/rights_leak_checker/rightsleakchecker/takegrant/Bridge$Letter" "TAKE_IN" "Lcom/example/rights_leak_checker/rightsleakchecker/takegrant/Bridge$Letter;" (.ref w_TAKE_IN)) (X_TAKE_IN : Exa Z Z.heap w_TAKE_IN "com/example/rights_leak_checker/rightsleakchecker/takegrant/Bridge$Letter") (S_GRANT_OUT : Sta Z Z.heap "com/example/rights_leak_checker/rightsleakchecker/takegrant/Bridge$Letter" "GRANT_OUT" "Lcom/example/rights_leak_checker/rightsleakchecker/takegrant/Bridge$Letter;" (.ref w_GRANT_OUT)) (X_GRANT_OUT : Exa Z Z.heap w_GRANT_OUT "com/example/rights_leak_checker/rightsleakchecker/takegrant/Bridge$Letter") (S_GRANT_IN : Sta Z Z.heap "com/example/rights_leak_checker/rightsleakchecker/takegrant/Bridge$Letter" "GRANT_IN" "Lcom/example/rights_leak_checker/rightsleakchecker/takegrant/Bridge$Letter;" (.ref w_GRANT_IN)) (X_GRANT_IN : Exa Z Z.heap w_GRANT_IN "com/example/rights_leak_checker/rightsleakchecker/takegrant/Bridge$Letter") :
    own_E p e below s room_1.cells room_1.slots (own_L n0) T0 (mkF m 114 #[iv i0, .val (.long i1), .second, iv i2, iv (4 : Int32), rv va, rv xs_, rv a1, rv a2, .unset, .unset, .unset] []) := by
  refine own_st (T' := T0) (g' := (mkF m 116 #[iv i0, .val (.long i1), .second, iv i2, iv (4 : Int32), rv va, rv xs_, rv a1, rv a2, .unset, .unset, .unset] [(.int (4 : Int32))])) (fun _ k_ => XS.iload X0.here hx rfl (hb hby at_114) rfl  k_) ?_
  refine own_st (T' := T0) (g' := (mkF m 117 #[iv i0, .val (.long i1), .second, iv i2, iv (4 : Int32), rv va, rv xs_, rv a1, rv a2, .unset, .unset, .unset] [(.int (3 : Int32)), (.int (4 : Int32))])) (fun _ k_ => XS.iconst X0.here hx rfl (hb hby at_116) k_) ?_
  refine own_st (T' := T0) (g' := (mkF m 120 #[iv i0, .val (.long i1), .second, iv i2, iv (4 : Int32), rv va, rv xs_, rv a1, rv a2, .unset, .unset, .unset] [])) (fun _ k_ => XS.icmpNo X0.here hx rfl (hb hby at_117) rfl (flt (by decide : ¬ ((4 : Int32) < (3 : Int32)))).1 k_) ?_
  refine own_st (T' := T0) (g' := (mkF m 122 #[iv i0, .val (.long i1), .second, iv i2, iv (4 : Int32), rv va, rv xs_, rv a1, rv a2, .unset, .unset, .unset] [(.ref a1)])) (fun _ k_ => XS.aload X0.here hx rfl (hb hby at_120) rfl rfl  k_) ?_
  refine own_st (T' := T0) (g' := (mkF m 124 #[iv i0, .val (.long i1), .second, iv i2, iv (4 : Int32), rv va, rv xs_, rv a1, rv a2, .unset, .unset, .unset] [(.ref va), (.ref a1)])) (fun _ k_ => XS.aload X0.here hx rfl (hb hby at_122) rfl rfl  k_) ?_
  refine own_st (T' := T0) (g' := (mkF m 125 #[iv i0, .val (.long i1), .second, iv i2, iv (4 : Int32), rv va, rv xs_, rv a1, rv a2, .unset, .unset, .unset] [(.int (2 : Int32)), (.ref va), (.ref a1)])) (fun _ k_ => XS.iconst X0.here hx rfl (hb hby at_124) k_) ?_
  obtain ⟨cl1, Ar1, q1, S1, N1, H1, G1⟩ := id VA
  have hin1 : ¬ ((2 : Int32) < 0 ∨ cl1.slots.size ≤ ((2 : Int32)).toNatClampNeg) := inb_of S1 ⟨by decide, by decide⟩
  refine own_st (T' := T0) (g' := (mkF m 126 #[iv i0, .val (.long i1), .second, iv i2, iv (4 : Int32), rv va, rv xs_, rv a1, rv a2, .unset, .unset, .unset] [(.ref s2_), (.ref a1)])) (X0.aaload hx (j := (2 : Int32)) (v := (.ref s2_)) (by rw [e0]; exact Ar1.1) (State.isArrayOf_alike hZ.alike Ar1.2.1) rfl Ar1.2.2 hin1 (H1.at hin1 rfl) (g := (mkF m 125 #[iv i0, .val (.long i1), .second, iv i2, iv (4 : Int32), rv va, rv xs_, rv a1, rv a2, .unset, .unset, .unset] [(.int (2 : Int32)), (.ref va), (.ref a1)])) rfl rfl (hb hby at_125)) ?_
  clear hin1 G1 H1 N1 S1 q1 Ar1 cl1
  obtain ⟨cq2, kq2, q2a, q2b, q2c⟩ := isOf hZ e0 PA0
  obtain ⟨_, T2, L2, X2, hQ2, st2⟩ := own_callV X0 hx (y := own_m13) (z := own_m13) hown (mvT hZ (wd hw 67 rfl)) (mvT hZ (wd hw 68 rfl)) (notFace_of_selects (args := #[]) (mvT hZ (wd hw 70 rfl))) (mvT hZ (wd hw 70 rfl)) (mvT hZ (wd hw 69 rfl)) (by decide) (backOf (W := 0) (rm_add_2 l Z a0 hw [] a1 s2_ t1 mc1 kO (.ref s0_) (.ref s1_) hB n0 O0 PA0 PA1 PA2 PA3 V1 f_a1 f_t1 OV FC (Ins.of_exa E_s2_ (wd hw 97 rfl))) hZ (wd hw 71 rfl) (wd hw 45 rfl) (by decide) (by decide)) q2a q2c (g := (mkF m 126 #[iv i0, .val (.long i1), .second, iv i2, iv (4 : Int32), rv va, rv xs_, rv a1, rv a2, .unset, .unset, .unset] [(.ref s2_), (.ref a1)])) rfl (by rw [hml]; rfl) (argsL := [(.ref s2_)]) (rest := []) (lenOf pd__Ljava_lang_Object__Z rfl) rfl (by show 2 * 0 + _ ≤ _; exact Nat.le_of_eq rfl) (hb hby at_126) rfl e0 (by decide) (by decide) (c' := 17) (s' := 67) rfl rfl
  clear q2a q2b q2c kq2 cq2
  obtain ⟨rfl, Nq2, K2, fq2_0, fq2_1, fq2_2, fq2_3, fq2_4⟩ := hQ2
  have N2 := Fr.app N0 Nq2
  refine own_st (T' := T2) (g' := (mkF m 129 #[iv i0, .val (.long i1), .second, iv i2, iv (4 : Int32), rv va, rv xs_, rv a1, rv a2, .unset, .unset, .unset] [(.int (1 : Int32))])) st2 ?_
  clear st2
  refine own_st (T' := T2) (g' := (mkF m 130 #[iv i0, .val (.long i1), .second, iv i2, iv (4 : Int32), rv va, rv xs_, rv a1, rv a2, .unset, .unset, .unset] [])) (fun _ k_ => XS.pop X2.here hx rfl (hb hby at_129) rfl rfl k_) ?_
  refine own_st (T' := T2) (g' := (mkF m 132 #[iv i0, .val (.long i1), .second, iv i2, iv (4 : Int32), rv va, rv xs_, rv a1, rv a2, .unset, .unset, .unset] [(.ref a2)])) (fun _ k_ => XS.aload X2.here hx rfl (hb hby at_130) rfl rfl  k_) ?_
  refine own_st (T' := T2) (g' := (mkF m 133 #[iv i0, .val (.long i1), .second, iv i2, iv (4 : Int32), rv va, rv xs_, rv a1, rv a2, .unset, .unset, .unset] [(.int i2), (.ref a2)])) (fun _ k_ => XS.iloadN X2.here hx rfl (hb hby at_132) rfl  k_) ?_
  refine own_st (T' := T2) (g' := (mkF m 134 #[iv i0, .val (.long i1), .second, iv i2, iv (4 : Int32), rv va, rv xs_, rv a1, rv a2, .unset, .unset, .unset] [(.int (2 : Int32)), (.int i2), (.ref a2)])) (fun _ k_ => XS.iconst X2.here hx rfl (hb hby at_133) k_) ?_
  refine own_st (T' := T2) (g' := (mkF m 135 #[iv i0, .val (.long i1), .second, iv i2, iv (4 : Int32), rv va, rv xs_, rv a1, rv a2, .unset, .unset, .unset] [(.int ((i2.toUInt32 >>> ((2 : Int32) &&& 31).toUInt32).toInt32)), (.ref a2)])) (fun _ k_ => XS.iushr X2.here hx rfl (hb hby at_134) rfl k_) ?_
  have f3 := O0.keep K2 (allS f_a1 (allS f_t1 all0))
  obtain ⟨_, T4, L4, X4, hQ4, st4⟩ := own_callS X2 hx (y := own_m33) hown (mvT hZ (wd hw 98 rfl)) (mvT hZ (wd hw 99 rfl)) (mvT hZ (wd hw 4 rfl)) (mvT hZ (wd hw 100 rfl)) (by decide) (backOf (W := 1) (rm_let l Z a0 hw [] ((i2.toUInt32 >>> ((2 : Int32) &&& 31).toUInt32).toInt32) w_TAKE_OUT w_TAKE_IN w_GRANT_OUT w_GRANT_IN T2.heap n0 f3 S_TAKE_OUT X_TAKE_OUT S_TAKE_IN X_TAKE_IN S_GRANT_OUT X_GRANT_OUT S_GRANT_IN X_GRANT_IN) hZ (wd hw 100 rfl) (wd hw 4 rfl) (by decide) (by decide)) (g := (mkF m 135 #[iv i0, .val (.long i1), .second, iv i2, iv (4 : Int32), rv va, rv xs_, rv a1, rv a2, .unset, .unset, .unset] [(.int ((i2.toUInt32 >>> ((2 : Int32) &&& 31).toUInt32).toInt32)), (.ref a2)])) rfl (by rw [hml]; rfl) (argsL := [(.int ((i2.toUInt32 >>> ((2 : Int32) &&& 31).toUInt32).toInt32))]) (rest := [(.ref a2)]) (lenOf pd__I_Lcom_example_rights_leak_checker_rightsleakchecker_takegrant_Bridge_Letter_ rfl) rfl (by show 2 * 0 + _ ≤ _; exact Nat.le_of_eq rfl) (hb hby at_135) rfl rfl (by decide) (by decide) (c' := 17) (s' := 67) rfl rfl
  obtain ⟨b4, rfl, Nq4, eq4, xq4_old_b⟩ := hQ4
  have N4 := Fr.app N2 Nq4
  refine own_st (T' := T4) (g' := (mkF m 138 #[iv i0, .val (.long i1), .second, iv i2, iv (4 : Int32), rv va, rv xs_, rv a1, rv a2, .unset, .unset, .unset] [(.ref b4), (.ref a2)])) st4 ?_
  clear st4
  have f5 := PB0.keep K2
  have xe6 : Exa Z T2.heap a2 "java/util/ArrayList" := PB0.keep K2
  have ne7 : a2 ≠ t1 := own_neA xe6 (wd hw 44 rfl) fq2_4
  have f8 := PB1.keep K2 (ninS (Ne.symm n12) (ninS ne7 nin0))
  have f9 := PB2.keep K2 (ninS (Ne.symm n12) (ninS ne7 nin0))
  have f10 := PB3.keep K2 (ninS (Ne.symm n12) (ninS ne7 nin0))
  have ne11 : a1 ≠ t2 := own_neA PA0 (wd hw 44 rfl) V2
  have f12 := V2.keep K2 (ninS (Ne.symm ne11) (ninS (Ne.symm m12) nin0))
  obtain ⟨cq13, kq13, q13a, q13b, q13c⟩ := isOf hZ eq4 f5
  obtain ⟨_, T13, L13, X13, hQ13, st13⟩ := own_callV X4 hx (y := own_m13) (z := own_m13) hown (mvT hZ (wd hw 67 rfl)) (mvT hZ (wd hw 68 rfl)) (notFace_of_selects (args := #[]) (mvT hZ (wd hw 70 rfl))) (mvT hZ (wd hw 70 rfl)) (mvT hZ (wd hw 69 rfl)) (by decide) (backOf (W := 0) (rm_add_1 l Z a0 hw [] a2 b4 t2 mc2 kO (.ref f0_) T2.heap n0 f3 f5 f8 f9 f10 f12 f_a2 f_t2 OV FC (Ins.of_exa (xq4_old_b.ext f3.2) (wd hw 104 rfl))) hZ (wd hw 71 rfl) (wd hw 45 rfl) (by decide) (by decide)) q13a q13c (g := (mkF m 138 #[iv i0, .val (.long i1), .second, iv i2, iv (4 : Int32), rv va, rv xs_, rv a1, rv a2, .unset, .unset, .unset] [(.ref b4), (.ref a2)])) rfl (by rw [hml]; rfl) (argsL := [(.ref b4)]) (rest := []) (lenOf pd__Ljava_lang_Object__Z rfl) rfl (by show 2 * 0 + _ ≤ _; exact Nat.le_of_eq rfl) (hb hby at_138) rfl eq4 (by decide) (by decide) (c' := 17) (s' := 67) rfl rfl
  clear q13a q13b q13c kq13 cq13
  obtain ⟨rfl, Nq13, K13, fq13_0, fq13_1, fq13_2, fq13_3, fq13_4⟩ := hQ13
  have N13 := Fr.app N4 Nq13
  refine own_st (T' := T13) (g' := (mkF m 141 #[iv i0, .val (.long i1), .second, iv i2, iv (4 : Int32), rv va, rv xs_, rv a1, rv a2, .unset, .unset, .unset] [(.int (1 : Int32))])) st13 ?_
  clear st13
  refine own_st (T' := T13) (g' := (mkF m 142 #[iv i0, .val (.long i1), .second, iv i2, iv (4 : Int32), rv va, rv xs_, rv a1, rv a2, .unset, .unset, .unset] [])) (fun _ k_ => XS.pop X13.here hx rfl (hb hby at_141) rfl rfl k_) ?_
  refine own_st (T' := T13) (g' := (mkF m 144 #[iv i0, .val (.long i1), .second, iv i2, iv (4 : Int32), rv va, rv xs_, rv a1, rv a2, .unset, .unset, .unset] [(.int (4 : Int32))])) (fun _ k_ => XS.iload X13.here hx rfl (hb hby at_142) rfl  k_) ?_
  refine own_st (T' := T13) (g' := (mkF m 145 #[iv i0, .val (.long i1), .second, iv i2, iv (4 : Int32), rv va, rv xs_, rv a1, rv a2, .unset, .unset, .unset] [(.int (4 : Int32)), (.int (4 : Int32))])) (fun _ k_ => XS.iconst X13.here hx rfl (hb hby at_144) k_) ?_
  refine own_st (T' := T13) (g' := (mkF m 148 #[iv i0, .val (.long i1), .second, iv i2, iv (4 : Int32), rv va, rv xs_, rv a1, rv a2, .unset, .unset, .unset] [])) (fun _ k_ => XS.icmpNo X13.here hx rfl (hb hby at_145) rfl (flt (by decide : ¬ ((4 : Int32) < (4 : Int32)))).1 k_) ?_
  refine own_st (T' := T13) (g' := (mkF m 150 #[iv i0, .val (.long i1), .second, iv i2, iv (4 : Int32), rv va, rv xs_, rv a1, rv a2, .unset, .unset, .unset] [(.ref a1)])) (fun _ k_ => XS.aload X13.here hx rfl (hb hby at_148) rfl rfl  k_) ?_
  refine own_st (T' := T13) (g' := (mkF m 152 #[iv i0, .val (.long i1), .second, iv i2, iv (4 : Int32), rv va, rv xs_, rv a1, rv a2, .unset, .unset, .unset] [(.ref va), (.ref a1)])) (fun _ k_ => XS.aload X13.here hx rfl (hb hby at_150) rfl rfl  k_) ?_
  refine own_st (T' := T13) (g' := (mkF m 153 #[iv i0, .val (.long i1), .second, iv i2, iv (4 : Int32), rv va, rv xs_, rv a1, rv a2, .unset, .unset, .unset] [(.int (3 : Int32)), (.ref va), (.ref a1)])) (fun _ k_ => XS.iconst X13.here hx rfl (hb hby at_152) k_) ?_
  have ne14 : a1 ≠ va := own_neA PA0 (wd hw 44 rfl) VA
  have f15 := VA.keep K2 (ninS (Ne.symm ne14) (ninS nv1 nin0))
  have xe16 : Exa Z T2.heap a2 "java/util/ArrayList" := PB0.keep K2
  have ne17 : a2 ≠ va := own_neA xe16 (wd hw 44 rfl) f15
  have f18 := f15.keep K13 (ninS (Ne.symm ne17) (ninS nv2 nin0))
  obtain ⟨cl19, Ar19, q19, S19, N19, H19, G19⟩ := id f18
  have hin19 : ¬ ((3 : Int32) < 0 ∨ cl19.slots.size ≤ ((3 : Int32)).toNatClampNeg) := inb_of S19 ⟨by decide, by decide⟩
  refine own_st (T' := T13) (g' := (mkF m 154 #[iv i0, .val (.long i1), .second, iv i2, iv (4 : Int32), rv va, rv xs_, rv a1, rv a2, .unset, .unset, .unset] [(.ref s3_), (.ref a1)])) (X13.aaload hx (j := (3 : Int32)) (v := (.ref s3_)) Ar19.1 (State.isArrayOf_alike hZ.alike Ar19.2.1) rfl Ar19.2.2 hin19 (H19.at hin19 rfl) (g := (mkF m 153 #[iv i0, .val (.long i1), .second, iv i2, iv (4 : Int32), rv va, rv xs_, rv a1, rv a2, .unset, .unset, .unset] [(.int (3 : Int32)), (.ref va), (.ref a1)])) rfl rfl (hb hby at_153)) ?_
  clear hin19 G19 H19 N19 S19 q19 Ar19 cl19
  have f20 := fq2_0.keep K13
  have f21 := fq2_1.keep K13 (ninS n12 (ninS ne11 nin0))
  have f22 := fq2_2.keep K13 (ninS n12 (ninS ne11 nin0))
  have f23 := fq2_3.keep K13 (ninS n12 (ninS ne11 nin0))
  have f24 := fq2_4.keep K13 (ninS (Ne.symm ne7) (ninS m12 nin0))
  have f25 := E_s3_.keep K2
  have f26 := f25.keep K13
  have f27 := f3.keep K13 (allS f_a2 (allS f_t2 all0))
  obtain ⟨cq28, kq28, q28a, q28b, q28c⟩ := isOf hZ rfl f20
  obtain ⟨_, T28, L28, X28, hQ28, st28⟩ := own_callV X13 hx (y := own_m13) (z := own_m13) hown (mvT hZ (wd hw 67 rfl)) (mvT hZ (wd hw 68 rfl)) (notFace_of_selects (args := #[]) (mvT hZ (wd hw 70 rfl))) (mvT hZ (wd hw 70 rfl)) (mvT hZ (wd hw 69 rfl)) (by decide) (backOf (W := 0) (rm_add_3 l Z a0 hw [] a1 s3_ t1 (mc1 + (1 : Int32)) kO (.ref s0_) (.ref s1_) (.ref s2_) T13.heap n0 f27 f20 f21 f22 f23 f24 f_a1 f_t1 OV FC (Ins.of_exa f26 (wd hw 97 rfl))) hZ (wd hw 71 rfl) (wd hw 45 rfl) (by decide) (by decide)) q28a q28c (g := (mkF m 154 #[iv i0, .val (.long i1), .second, iv i2, iv (4 : Int32), rv va, rv xs_, rv a1, rv a2, .unset, .unset, .unset] [(.ref s3_), (.ref a1)])) rfl (by rw [hml]; rfl) (argsL := [(.ref s3_)]) (rest := []) (lenOf pd__Ljava_lang_Object__Z rfl) rfl (by show 2 * 0 + _ ≤ _; exact Nat.le_of_eq rfl) (hb hby at_154) rfl rfl (by decide) (by decide) (c' := 17) (s' := 67) rfl rfl
  clear q28a q28b q28c kq28 cq28
  obtain ⟨rfl, Nq28, K28, fq28_0, fq28_1, fq28_2, fq28_3, fq28_4⟩ := hQ28
  have N28 := Fr.app N13 Nq28
  refine own_st (T' := T28) (g' := (mkF m 157 #[iv i0, .val (.long i1), .second, iv i2, iv (4 : Int32), rv va, rv xs_, rv a1, rv a2, .unset, .unset, .unset] [(.int (1 : Int32))])) st28 ?_
  clear st28
  refine own_st (T' := T28) (g' := (mkF m 158 #[iv i0, .val (.long i1), .second, iv i2, iv (4 : Int32), rv va, rv xs_, rv a1, rv a2, .unset, .unset, .unset] [])) (fun _ k_ => XS.pop X28.here hx rfl (hb hby at_157) rfl rfl k_) ?_
  refine own_st (T' := T28) (g' := (mkF m 160 #[iv i0, .val (.long i1), .second, iv i2, iv (4 : Int32), rv va, rv xs_, rv a1, rv a2, .unset, .unset, .unset] [(.ref a2)])) (fun _ k_ => XS.aload X28.here hx rfl (hb hby at_158) rfl rfl  k_) ?_
  refine own_st (T' := T28) (g' := (mkF m 161 #[iv i0, .val (.long i1), .second, iv i2, iv (4 : Int32), rv va, rv xs_, rv a1, rv a2, .unset, .unset, .unset] [(.int i2), (.ref a2)])) (fun _ k_ => XS.iloadN X28.here hx rfl (hb hby at_160) rfl  k_) ?_
  refine own_st (T' := T28) (g' := (mkF m 162 #[iv i0, .val (.long i1), .second, iv i2, iv (4 : Int32), rv va, rv xs_, rv a1, rv a2, .unset, .unset, .unset] [(.int (4 : Int32)), (.int i2), (.ref a2)])) (fun _ k_ => XS.iconst X28.here hx rfl (hb hby at_161) k_) ?_
  refine own_st (T' := T28) (g' := (mkF m 163 #[iv i0, .val (.long i1), .second, iv i2, iv (4 : Int32), rv va, rv xs_, rv a1, rv a2, .unset, .unset, .unset] [(.int ((i2.toUInt32 >>> ((4 : Int32) &&& 31).toUInt32).toInt32)), (.ref a2)])) (fun _ k_ => XS.iushr X28.here hx rfl (hb hby at_162) rfl k_) ?_
  have f29 := f27.keep K28 (allS f_a1 (allS f_t1 all0))
  obtain ⟨_, T30, L30, X30, hQ30, st30⟩ := own_callS X28 hx (y := own_m33) hown (mvT hZ (wd hw 98 rfl)) (mvT hZ (wd hw 99 rfl)) (mvT hZ (wd hw 4 rfl)) (mvT hZ (wd hw 100 rfl)) (by decide) (backOf (W := 1) (rm_let l Z a0 hw [] ((i2.toUInt32 >>> ((4 : Int32) &&& 31).toUInt32).toInt32) w_TAKE_OUT w_TAKE_IN w_GRANT_OUT w_GRANT_IN T28.heap n0 f29 S_TAKE_OUT X_TAKE_OUT S_TAKE_IN X_TAKE_IN S_GRANT_OUT X_GRANT_OUT S_GRANT_IN X_GRANT_IN) hZ (wd hw 100 rfl) (wd hw 4 rfl) (by decide) (by decide)) (g := (mkF m 163 #[iv i0, .val (.long i1), .second, iv i2, iv (4 : Int32), rv va, rv xs_, rv a1, rv a2, .unset, .unset, .unset] [(.int ((i2.toUInt32 >>> ((4 : Int32) &&& 31).toUInt32).toInt32)), (.ref a2)])) rfl (by rw [hml]; rfl) (argsL := [(.int ((i2.toUInt32 >>> ((4 : Int32) &&& 31).toUInt32).toInt32))]) (rest := [(.ref a2)]) (lenOf pd__I_Lcom_example_rights_leak_checker_rightsleakchecker_takegrant_Bridge_Letter_ rfl) rfl (by show 2 * 0 + _ ≤ _; exact Nat.le_of_eq rfl) (hb hby at_163) rfl rfl (by decide) (by decide) (c' := 17) (s' := 67) rfl rfl
  obtain ⟨b30, rfl, Nq30, eq30, xq30_old_b⟩ := hQ30
  have N30 := Fr.app N28 Nq30
  refine own_st (T' := T30) (g' := (mkF m 166 #[iv i0, .val (.long i1), .second, iv i2, iv (4 : Int32), rv va, rv xs_, rv a1, rv a2, .unset, .unset, .unset] [(.ref b30), (.ref a2)])) st30 ?_
  clear st30
  have f31 := fq13_0.keep K28
  have f32 := fq13_1.keep K28 (ninS (Ne.symm n12) (ninS ne7 nin0))
  have f33 := fq13_2.keep K28 (ninS (Ne.symm n12) (ninS ne7 nin0))
  have f34 := fq13_3.keep K28 (ninS (Ne.symm n12) (ninS ne7 nin0))
  have f35 := fq13_4.keep K28 (ninS (Ne.symm ne11) (ninS (Ne.symm m12) nin0))
  obtain ⟨cq36, kq36, q36a, q36b, q36c⟩ := isOf hZ eq30 f31
  obtain ⟨_, T36, L36, X36, hQ36, st36⟩ := own_callV X30 hx (y := own_m13) (z := own_m13) hown (mvT hZ (wd hw 67 rfl)) (mvT hZ (wd hw 68 rfl)) (notFace_of_selects (args := #[]) (mvT hZ (wd hw 70 rfl))) (mvT hZ (wd hw 70 rfl)) (mvT hZ (wd hw 69 rfl)) (by decide) (backOf (W := 0) (rm_add_2 l Z a0 hw [] a2 b30 t2 (mc2 + (1 : Int32)) kO (.ref f0_) (.ref b4) T28.heap n0 f29 f31 f32 f33 f34 f35 f_a2 f_t2 OV FC (Ins.of_exa (xq30_old_b.ext f29.2) (wd hw 104 rfl))) hZ (wd hw 71 rfl) (wd hw 45 rfl) (by decide) (by decide)) q36a q36c (g := (mkF m 166 #[iv i0, .val (.long i1), .second, iv i2, iv (4 : Int32), rv va, rv xs_, rv a1, rv a2, .unset, .unset, .unset] [(.ref b30), (.ref a2)])) rfl (by rw [hml]; rfl) (argsL := [(.ref b30)]) (rest := []) (lenOf pd__Ljava_lang_Object__Z rfl) rfl (by show 2 * 0 + _ ≤ _; exact Nat.le_of_eq rfl) (hb hby at_166) rfl eq30 (by decide) (by decide) (c' := 17) (s' := 67) rfl rfl
  clear q36a q36b q36c kq36 cq36
  obtain ⟨rfl, Nq36, K36, fq36_0, fq36_1, fq36_2, fq36_3, fq36_4⟩ := hQ36
  have N36 := Fr.app N30 Nq36
  refine own_st (T' := T36) (g' := (mkF m 169 #[iv i0, .val (.long i1), .second, iv i2, iv (4 : Int32), rv va, rv xs_, rv a1, rv a2, .unset, .unset, .unset] [(.int (1 : Int32))])) st36 ?_
  clear st36
  refine own_st (T' := T36) (g' := (mkF m 170 #[iv i0, .val (.long i1), .second, iv i2, iv (4 : Int32), rv va, rv xs_, rv a1, rv a2, .unset, .unset, .unset] [])) (fun _ k_ => XS.pop X36.here hx rfl (hb hby at_169) rfl rfl k_) ?_
  refine own_st (T' := T36) (g' := (mkF m 172 #[iv i0, .val (.long i1), .second, iv i2, iv (4 : Int32), rv va, rv xs_, rv a1, rv a2, .unset, .unset, .unset] [(.int (4 : Int32))])) (fun _ k_ => XS.iload X36.here hx rfl (hb hby at_170) rfl  k_) ?_
  refine own_st (T' := T36) (g' := (mkF m 173 #[iv i0, .val (.long i1), .second, iv i2, iv (4 : Int32), rv va, rv xs_, rv a1, rv a2, .unset, .unset, .unset] [(.int (5 : Int32)), (.int (4 : Int32))])) (fun _ k_ => XS.iconst X36.here hx rfl (hb hby at_172) k_) ?_
  refine own_st (T' := T36) (g' := (mkF m 199 #[iv i0, .val (.long i1), .second, iv i2, iv (4 : Int32), rv va, rv xs_, rv a1, rv a2, .unset, .unset, .unset] [])) (fun _ k_ => XS.icmpYes X36.here hx rfl (pc0 := 173) (pc' := 199) rfl (hb hby at_173) rfl (tlt (by decide : (4 : Int32) < (5 : Int32))).1 (by decide) (by decide) k_) ?_
  have f37 := f29.keep K36 (allS f_a2 (allS f_t2 all0))
  obtain ⟨T38, h38, X38, e38, E38, A38, D38, -, st38⟩ := newO X36 hx hZ hown (wd hw 105 rfl) (wd hw 106 rfl) (wd hw 107 rfl) rfl (g := (mkF m 199 #[iv i0, .val (.long i1), .second, iv i2, iv (4 : Int32), rv va, rv xs_, rv a1, rv a2, .unset, .unset, .unset] [])) rfl (hb hby at_199) (by decide) (by decide)
  obtain ⟨b38, g38⟩ : ∃ z, z = T36.heap.size := ⟨_, rfl⟩
  rw [← g38] at A38 D38 st38
  have fr38 : n0 ≤ b38 := Nat.le_trans (own_z f37) (Nat.le_of_eq g38.symm)
  have F38_walk : Fld Z h38 b38 "com/example/rights_leak_checker/rightsleakchecker/takegrant/Bridge" "walk" "Ljava/util/List;" .null := D38 (Or.inr (wd hw 207 rfl)) (ty := (.object "java/util/List")) (by decide)
  have F38_letters : Fld Z h38 b38 "com/example/rights_leak_checker/rightsleakchecker/takegrant/Bridge" "letters" "Ljava/util/List;" .null := D38 (Or.inr (wd hw 213 rfl)) (ty := (.object "java/util/List")) (by decide)
  refine own_st (T' := T38) (g' := (mkF m 202 #[iv i0, .val (.long i1), .second, iv i2, iv (4 : Int32), rv va, rv xs_, rv a1, rv a2, .unset, .unset, .unset] [(.ref b38)])) st38 ?_
  clear st38
  refine own_st (T' := T38) (g' := (mkF m 203 #[iv i0, .val (.long i1), .second, iv i2, iv (4 : Int32), rv va, rv xs_, rv a1, rv a2, .unset, .unset, .unset] [(.ref b38), (.ref b38)])) (fun _ k_ => XS.dup X38.here hx rfl (hb hby at_202) rfl rfl k_) ?_
  refine own_st (T' := T38) (g' := (mkF m 205 #[iv i0, .val (.long i1), .second, iv i2, iv (4 : Int32), rv va, rv xs_, rv a1, rv a2, .unset, .unset, .unset] [(.ref a1), (.ref b38), (.ref b38)])) (fun _ k_ => XS.aload X38.here hx rfl (hb hby at_203) rfl rfl  k_) ?_
  refine own_st (T' := T38) (g' := (mkF m 207 #[iv i0, .val (.long i1), .second, iv i2, iv (4 : Int32), rv va, rv xs_, rv a1, rv a2, .unset, .unset, .unset] [(.ref a2), (.ref a1), (.ref b38), (.ref b38)])) (fun _ k_ => XS.aload X38.here hx rfl (hb hby at_205) rfl rfl  k_) ?_
  have ne39 : a2 ≠ b38 := Nat.ne_of_lt (Nat.lt_of_lt_of_le (Nat.lt_of_lt_of_le (Nat.lt_of_lt_of_le (Nat.lt_of_lt_of_le (Nat.lt_of_lt_of_le PB0.lt K2.1) K13.1) K28.1) K36.1) (Nat.le_of_eq g38.symm))
  have f40 := fq28_0.keep K36
  have f41 := f40.ext E38
  have f42 := fq28_1.keep K36 (ninS n12 (ninS ne11 nin0))
  have f43 := f42.ext E38
  have f44 := fq28_2.keep K36 (ninS n12 (ninS ne11 nin0))
  have f45 := f44.ext E38
  have f46 := fq28_4.keep K36 (ninS (Ne.symm ne7) (ninS m12 nin0))
  have f47 := f46.ext E38
  have f48 := fq36_0.ext E38
  have f49 := fq36_1.ext E38
  have f50 := fq36_2.ext E38
  have f51 := fq36_4.ext E38
  have f52 := E_s0_.keep K2
  have f53 := f52.keep K13
  have f54 := f53.keep K28
  have f55 := f54.keep K36
  have f56 := f55.ext E38
  have f57 := E_s1_.keep K2
  have f58 := f57.keep K13
  have f59 := f58.keep K28
  have f60 := f59.keep K36
  have f61 := f60.ext E38
  have f62 := E_s2_.keep K2
  have f63 := f62.keep K13
  have f64 := f63.keep K28
  have f65 := f64.keep K36
  have f66 := f65.ext E38
  have f67 := f26.keep K28
  have f68 := f67.keep K36
  have f69 := f68.ext E38
  have f70 := f37.ext E38
  obtain ⟨_, T71, L71, X71, hQ71, st71⟩ := own_callI X38 hx (y := own_m35) rfl hown (mvT hZ (wd hw 108 rfl)) (mvT hZ (wd hw 109 rfl)) (mvT hZ (wd hw 110 rfl)) (by decide) (backOf (W := 1) (rm_bri_4 l Z a0 hw [] b38 a1 t1 a2 t2 kO mir s0_ s1_ s2_ s3_ f0_ b4 b30 h38 n0 f70 A38 F38_walk F38_letters fr38 (Ne.symm ne39) f41 f43 f45 f47 f48 f49 f50 f51 OV FC MIR (Ins.of_exa f56 (wd hw 97 rfl)) (Ins.of_exa f61 (wd hw 97 rfl)) (Ins.of_exa f66 (wd hw 97 rfl)) (Ins.of_exa f69 (wd hw 97 rfl)) (Ins.of_exa (X_f0.ext f70.2) (wd hw 104 rfl)) (Ins.of_exa (xq4_old_b.ext f70.2) (wd hw 104 rfl)) (Ins.of_exa (xq30_old_b.ext f70.2) (wd hw 104 rfl))) hZ (wd hw 110 rfl) (wd hw 107 rfl) (by decide) (by decide)) (g := (mkF m 207 #[iv i0, .val (.long i1), .second, iv i2, iv (4 : Int32), rv va, rv xs_, rv a1, rv a2, .unset, .unset, .unset] [(.ref a2), (.ref a1), (.ref b38), (.ref b38)])) rfl (by rw [hml]; rfl) (a := b38) (argsL := [(.ref a1), (.ref a2)]) (rest := [(.ref b38)]) (lenOf pd__Ljava_util_List_Ljava_util_List__V rfl) rfl (by show 2 * 0 + _ ≤ _; exact Nat.le_of_eq rfl) (hb hby at_207) rfl e38 (by decide) (by decide) (c' := 24) (s' := 87) rfl rfl
  obtain ⟨x71, uu71, rfl, Nq71, K71, fq71_0, fq71_1, fq71_2, fq71_3, fq71_4, fq71_5, xq71_fresh_x, xq71_fresh_uu⟩ := hQ71
  have N71 := Fr.app N36 Nq71
  refine own_st (T' := T71) (g' := (mkF m 210 #[iv i0, .val (.long i1), .second, iv i2, iv (4 : Int32), rv va, rv xs_, rv a1, rv a2, .unset, .unset, .unset] [(.ref b38)])) st71 ?_
  clear st71
  refine own_st (T' := T71) (g' := (mkF m 212 #[iv i0, .val (.long i1), .second, iv i2, iv (4 : Int32), rv va, rv xs_, rv a1, rv a2, rv b38, .unset, .unset] [])) (fun _ k_ => XS.astore X71.here hx rfl (hb hby at_210) rfl rfl (l' := #[iv i0, .val (.long i1), .second, iv i2, iv (4 : Int32), rv va, rv xs_, rv a1, rv a2, rv b38, .unset, .unset]) rfl k_) ?_
  refine own_st (T' := T71) (g' := (mkF m 214 #[iv i0, .val (.long i1), .second, iv i2, iv (4 : Int32), rv va, rv xs_, rv a1, rv a2, rv b38, .unset, .unset] [(.ref b38)])) (fun _ k_ => XS.aload X71.here hx rfl (hb hby at_212) rfl rfl  k_) ?_
  have f72 := f69.keep K71
  have f73 := f70.keep K71 (allS fr38 all0)
  obtain ⟨cq74, kq74, q74a, q74b, q74c⟩ := isOf hZ rfl fq71_0
  obtain ⟨_, T74, L74, X74, hQ74, st74⟩ := own_callV X71 hx (y := own_m39) (z := own_m39) hown (mvT hZ (wd hw 214 rfl)) (mvT hZ (wd hw 215 rfl)) (notFace_of_selects (args := #[]) (mvT hZ (wd hw 217 rfl))) (mvT hZ (wd hw 217 rfl)) (mvT hZ (wd hw 216 rfl)) (by decide) (backOf (W := 0) (rm_to_4 l Z a0 hw [] b38 x71 uu71 kO s0_ s1_ s2_ s3_ T71.heap n0 f73 fq71_1 fq71_2 fq71_3 fq71_5 f72) hZ (wd hw 218 rfl) (wd hw 107 rfl) (by decide) (by decide)) q74a q74c (g := (mkF m 214 #[iv i0, .val (.long i1), .second, iv i2, iv (4 : Int32), rv va, rv xs_, rv a1, rv a2, rv b38, .unset, .unset] [(.ref b38)])) rfl (by rw [hml]; rfl) (argsL := []) (rest := []) (lenOf pd___Ljava_lang_String_ rfl) rfl (by show 2 * 0 + _ ≤ _; exact Nat.le_of_eq rfl) (hb hby at_214) rfl rfl (by decide) (by decide) (c' := 24) (s' := 87) rfl rfl
  clear q74a q74b q74c kq74 cq74
  obtain ⟨rfl, Nq74, eq74⟩ := hQ74
  have N74 := Fr.app N71 Nq74
  refine own_st (T' := T74) (g' := (mkF m 217 #[iv i0, .val (.long i1), .second, iv i2, iv (4 : Int32), rv va, rv xs_, rv a1, rv a2, rv b38, .unset, .unset] [(.ref s3_)])) st74 ?_
  clear st74
  refine own_st (T' := T74) (g' := (mkF m 219 #[iv i0, .val (.long i1), .second, iv i2, iv (4 : Int32), rv va, rv xs_, rv a1, rv a2, rv b38, rv s3_, .unset] [])) (fun _ k_ => XS.astore X74.here hx rfl (hb hby at_217) rfl rfl (l' := #[iv i0, .val (.long i1), .second, iv i2, iv (4 : Int32), rv va, rv xs_, rv a1, rv a2, rv b38, rv s3_, .unset]) rfl k_) ?_
  refine own_st (T' := T74) (g' := (mkF m 221 #[iv i0, .val (.long i1), .second, iv i2, iv (4 : Int32), rv va, rv xs_, rv a1, rv a2, rv b38, rv s3_, .unset] [(.ref a1)])) (fun _ k_ => XS.aload X74.here hx rfl (hb hby at_219) rfl rfl  k_) ?_
  refine own_st (T' := T74) (g' := (mkF m 223 #[iv i0, .val (.long i1), .second, iv i2, iv (4 : Int32), rv va, rv xs_, rv a1, rv a2, rv b38, rv s3_, .unset] [(.ref xs_), (.ref a1)])) (fun _ k_ => XS.aload X74.here hx rfl (hb hby at_221) rfl rfl  k_) ?_
  have f75 := f41.keep K71
  have ne76 : a1 ≠ b38 := Nat.ne_of_lt (Nat.lt_of_lt_of_le (Nat.lt_of_lt_of_le (Nat.lt_of_lt_of_le (Nat.lt_of_lt_of_le (Nat.lt_of_lt_of_le PA0.lt K2.1) K13.1) K28.1) K36.1) (Nat.le_of_eq g38.symm))
  have f77 := f43.keep K71 (ninS ne76 nin0)
  have f78 := f45.keep K71 (ninS ne76 nin0)
  have f79 := fq28_3.keep K36 (ninS n12 (ninS ne11 nin0))
  have f80 := f79.ext E38
  have f81 := f80.keep K71 (ninS ne76 nin0)
  have ne82 : t1 ≠ b38 := Nat.ne_of_lt (Nat.lt_of_lt_of_le (Nat.lt_of_lt_of_le (Nat.lt_of_lt_of_le (Nat.lt_of_lt_of_le (Nat.lt_of_lt_of_le V1.lt K2.1) K13.1) K28.1) K36.1) (Nat.le_of_eq g38.symm))
  have f83 := f47.keep K71 (ninS ne82 nin0)
  have f84 := E_xs_.keep K2
  have f85 := f84.keep K13
  have f86 := f85.keep K28
  have f87 := f86.keep K36
  have f88 := f87.ext E38
  have f89 := f88.keep K71
  obtain ⟨cq90, kq90, q90a, q90b, q90c⟩ := isOf hZ eq74 f75
  obtain ⟨_, T90, L90, X90, hQ90, st90⟩ := own_callV X74 hx (y := own_m13) (z := own_m13) hown (mvT hZ (wd hw 67 rfl)) (mvT hZ (wd hw 68 rfl)) (notFace_of_selects (args := #[]) (mvT hZ (wd hw 70 rfl))) (mvT hZ (wd hw 70 rfl)) (mvT hZ (wd hw 69 rfl)) (by decide) (backOf (W := 0) (rm_add_4 l Z a0 hw [] a1 xs_ t1 ((mc1 + (1 : Int32)) + (1 : Int32)) kO (.ref s0_) (.ref s1_) (.ref s2_) (.ref s3_) T71.heap n0 f73 f75 f77 f78 f81 f83 f_a1 f_t1 OV FC (Ins.of_exa f89 (wd hw 97 rfl))) hZ (wd hw 71 rfl) (wd hw 45 rfl) (by decide) (by decide)) q90a q90c (g := (mkF m 223 #[iv i0, .val (.long i1), .second, iv i2, iv (4 : Int32), rv va, rv xs_, rv a1, rv a2, rv b38, rv s3_, .unset] [(.ref xs_), (.ref a1)])) rfl (by rw [hml]; rfl) (argsL := [(.ref xs_)]) (rest := []) (lenOf pd__Ljava_lang_Object__Z rfl) rfl (by show 2 * 0 + _ ≤ _; exact Nat.le_of_eq rfl) (hb hby at_223) rfl eq74 (by decide) (by decide) (c' := 24) (s' := 87) rfl rfl
  clear q90a q90b q90c kq90 cq90
  obtain ⟨rfl, Nq90, K90, fq90_0, fq90_1, fq90_2, fq90_3, fq90_4⟩ := hQ90
  have N90 := Fr.app N74 Nq90
  refine own_st (T' := T90) (g' := (mkF m 226 #[iv i0, .val (.long i1), .second, iv i2, iv (4 : Int32), rv va, rv xs_, rv a1, rv a2, rv b38, rv s3_, .unset] [(.int (1 : Int32))])) st90 ?_
  clear st90
  refine own_st (T' := T90) (g' := (mkF m 227 #[iv i0, .val (.long i1), .second, iv i2, iv (4 : Int32), rv va, rv xs_, rv a1, rv a2, rv b38, rv s3_, .unset] [])) (fun _ k_ => XS.pop X90.here hx rfl (hb hby at_226) rfl rfl k_) ?_
  refine own_st (T' := T90) (g' := (mkF m 229 #[iv i0, .val (.long i1), .second, iv i2, iv (4 : Int32), rv va, rv xs_, rv a1, rv a2, rv b38, rv s3_, .unset] [(.ref b38)])) (fun _ k_ => XS.aload X90.here hx rfl (hb hby at_227) rfl rfl  k_) ?_
  have f91 := fq71_1.keep K90 (ninS (Ne.symm ne76) (ninS (Ne.symm ne82) nin0))
  have f92 := fq71_2.keep K90
  have ne93 : t1 ≠ x71 := Nat.ne_of_lt (Nat.lt_of_lt_of_le (Nat.lt_of_lt_of_le (Nat.lt_of_lt_of_le (Nat.lt_of_lt_of_le (Nat.lt_of_lt_of_le (Nat.lt_of_lt_of_le V1.lt K2.1) K13.1) K28.1) K36.1) E38.1) xq71_fresh_x)
  have ne94 : a1 ≠ x71 := Nat.ne_of_lt (Nat.lt_of_lt_of_le (Nat.lt_of_lt_of_le (Nat.lt_of_lt_of_le (Nat.lt_of_lt_of_le (Nat.lt_of_lt_of_le (Nat.lt_of_lt_of_le PA0.lt K2.1) K13.1) K28.1) K36.1) E38.1) xq71_fresh_x)
  have f95 := fq71_3.keep K90 (ninS (Ne.symm ne94) (ninS (Ne.symm ne93) nin0))
  have ne96 : t1 ≠ uu71 := Nat.ne_of_lt (Nat.lt_of_lt_of_le (Nat.lt_of_lt_of_le (Nat.lt_of_lt_of_le (Nat.lt_of_lt_of_le (Nat.lt_of_lt_of_le (Nat.lt_of_lt_of_le V1.lt K2.1) K13.1) K28.1) K36.1) E38.1) xq71_fresh_uu)
  have ne97 : a1 ≠ uu71 := Nat.ne_of_lt (Nat.lt_of_lt_of_le (Nat.lt_of_lt_of_le (Nat.lt_of_lt_of_le (Nat.lt_of_lt_of_le (Nat.lt_of_lt_of_le (Nat.lt_of_lt_of_le PA0.lt K2.1) K13.1) K28.1) K36.1) E38.1) xq71_fresh_uu)
  have f98 := fq71_5.keep K90 (ninS (Ne.symm ne97) (ninS (Ne.symm ne96) nin0))
  have f99 := f72.keep K90
  have f100 := f73.keep K90 (allS f_a1 (allS f_t1 all0))
  have f102 := fq71_0.keep K90
  obtain ⟨cq101, kq101, q101a, q101b, q101c⟩ := isOf hZ rfl f102
  obtain ⟨_, T101, L101, X101, hQ101, st101⟩ := own_callV X90 hx (y := own_m39) (z := own_m39) hown (mvT hZ (wd hw 214 rfl)) (mvT hZ (wd hw 215 rfl)) (notFace_of_selects (args := #[]) (mvT hZ (wd hw 217 rfl))) (mvT hZ (wd hw 217 rfl)) (mvT hZ (wd hw 216 rfl)) (by decide) (backOf (W := 0) (rm_to_4 l Z a0 hw [] b38 x71 uu71 kO s0_ s1_ s2_ s3_ T90.heap n0 f100 f91 f92 f95 f98 f99) hZ (wd hw 218 rfl) (wd hw 107 rfl) (by decide) (by decide)) q101a q101c (g := (mkF m 229 #[iv i0, .val (.long i1), .second, iv i2, iv (4 : Int32), rv va, rv xs_, rv a1, rv a2, rv b38, rv s3_, .unset] [(.ref b38)])) rfl (by rw [hml]; rfl) (argsL := []) (rest := []) (lenOf pd___Ljava_lang_String_ rfl) rfl (by show 2 * 0 + _ ≤ _; exact Nat.le_of_eq rfl) (hb hby at_229) rfl rfl (by decide) (by decide) (c' := 24) (s' := 87) rfl rfl
  clear q101a q101b q101c kq101 cq101
  obtain ⟨rfl, Nq101, eq101⟩ := hQ101
  have N101 := Fr.app N90 Nq101
  refine own_st (T' := T101) (g' := (mkF m 232 #[iv i0, .val (.long i1), .second, iv i2, iv (4 : Int32), rv va, rv xs_, rv a1, rv a2, rv b38, rv s3_, .unset] [(.ref s3_)])) st101 ?_
  clear st101
  refine own_st (T' := T101) (g' := (mkF m 234 #[iv i0, .val (.long i1), .second, iv i2, iv (4 : Int32), rv va, rv xs_, rv a1, rv a2, rv b38, rv s3_, rv s3_] [])) (fun _ k_ => XS.astore X101.here hx rfl (hb hby at_232) rfl rfl (l' := #[iv i0, .val (.long i1), .second, iv i2, iv (4 : Int32), rv va, rv xs_, rv a1, rv a2, rv b38, rv s3_, rv s3_]) rfl k_) ?_
  refine own_st (T' := T101) (g' := (mkF m 236 #[iv i0, .val (.long i1), .second, iv i2, iv (4 : Int32), rv va, rv xs_, rv a1, rv a2, rv b38, rv s3_, rv s3_] [(.ref s3_)])) (fun _ k_ => XS.aload X101.here hx rfl (hb hby at_234) rfl rfl  k_) ?_
  refine own_st (T' := T101) (g' := (mkF m 238 #[iv i0, .val (.long i1), .second, iv i2, iv (4 : Int32), rv va, rv xs_, rv a1, rv a2, rv b38, rv s3_, rv s3_] [(.ref va), (.ref s3_)])) (fun _ k_ => XS.aload X101.here hx rfl (hb hby at_236) rfl rfl  k_) ?_
  refine own_st (T' := T101) (g' := (mkF m 240 #[iv i0, .val (.long i1), .second, iv i2, iv (4 : Int32), rv va, rv xs_, rv a1, rv a2, rv b38, rv s3_, rv s3_] [(.int (4 : Int32)), (.ref va), (.ref s3_)])) (fun _ k_ => XS.iload X101.here hx rfl (hb hby at_238) rfl  k_) ?_
  refine own_st (T' := T101) (g' := (mkF m 241 #[iv i0, .val (.long i1), .second, iv i2, iv (4 : Int32), rv va, rv xs_, rv a1, rv a2, rv b38, rv s3_, rv s3_] [(.int (1 : Int32)), (.int (4 : Int32)), (.ref va), (.ref s3_)])) (fun _ k_ => XS.iconst X101.here hx rfl (hb hby at_240) k_) ?_
  refine own_st (T' := T101) (g' := (mkF m 242 #[iv i0, .val (.long i1), .second, iv i2, iv (4 : Int32), rv va, rv xs_, rv a1, rv a2, rv b38, rv s3_, rv s3_] [(.int (3 : Int32)), (.ref va), (.ref s3_)])) (fun _ k_ => XS.isub X101.here hx rfl (hb hby at_241) rfl k_) ?_
  have f103 := f18.keep K28 (ninS (Ne.symm ne14) (ninS nv1 nin0))
  have f104 := f103.keep K36 (ninS (Ne.symm ne17) (ninS nv2 nin0))
  have f105 := f104.ext E38
  have ne106 : va ≠ b38 := Nat.ne_of_lt (Nat.lt_of_lt_of_le (Nat.lt_of_lt_of_le (Nat.lt_of_lt_of_le (Nat.lt_of_lt_of_le (Nat.lt_of_lt_of_le VA.lt K2.1) K13.1) K28.1) K36.1) (Nat.le_of_eq g38.symm))
  have f107 := f105.keep K71 (ninS ne106 nin0)
  have f108 := f107.keep K90 (ninS (Ne.symm ne14) (ninS nv1 nin0))
  obtain ⟨cl109, Ar109, q109, S109, N109, H109, G109⟩ := id f108
  have hin109 : ¬ ((3 : Int32) < 0 ∨ cl109.slots.size ≤ ((3 : Int32)).toNatClampNeg) := inb_of S109 ⟨by decide, by decide⟩
  refine own_st (T' := T101) (g' := (mkF m 243 #[iv i0, .val (.long i1), .second, iv i2, iv (4 : Int32), rv va, rv xs_, rv a1, rv a2, rv b38, rv s3_, rv s3_] [(.ref s3_), (.ref s3_)])) (X101.aaload hx (j := (3 : Int32)) (v := (.ref s3_)) (by rw [eq101]; exact Ar109.1) (State.isArrayOf_alike hZ.alike Ar109.2.1) rfl Ar109.2.2 hin109 (H109.at hin109 rfl) (g := (mkF m 242 #[iv i0, .val (.long i1), .second, iv i2, iv (4 : Int32), rv va, rv xs_, rv a1, rv a2, rv b38, rv s3_, rv s3_] [(.int (3 : Int32)), (.ref va), (.ref s3_)])) rfl rfl (hb hby at_242)) ?_
  clear hin109 G109 H109 N109 S109 q109 Ar109 cl109
  obtain ⟨cq110, kq110, q110a, q110b, q110c⟩ := isOf hZ eq101 f99
  obtain ⟨_, T110, L110, X110, hQ110, st110⟩ := own_callV X101 hx (y := own_m42) (z := own_m42) hown (mvT hZ (wd hw 234 rfl)) (mvT hZ (wd hw 235 rfl)) (notFace_of_selects (args := #[]) (mvT hZ (wd hw 237 rfl))) (mvT hZ (wd hw 237 rfl)) (mvT hZ (wd hw 236 rfl)) (by decide) (backOf (W := 0) (rm_eqs l Z a0 hw [] s3_ T90.heap n0 f100) hZ (wd hw 238 rfl) (wd hw 9 rfl) (by decide) (by decide)) q110a q110c (g := (mkF m 243 #[iv i0, .val (.long i1), .second, iv i2, iv (4 : Int32), rv va, rv xs_, rv a1, rv a2, rv b38, rv s3_, rv s3_] [(.ref s3_), (.ref s3_)])) rfl (by rw [hml]; rfl) (argsL := [(.ref s3_)]) (rest := []) (lenOf pd__Ljava_lang_Object__Z rfl) rfl (by show 2 * 0 + _ ≤ _; exact Nat.le_of_eq rfl) (hb hby at_243) rfl eq101 (by decide) (by decide) (c' := 24) (s' := 87) rfl rfl
  clear q110a q110b q110c kq110 cq110
  obtain ⟨rfl, Nq110, eq110⟩ := hQ110
  have N110 := Fr.app N101 Nq110
  refine own_st (T' := T110) (g' := (mkF m 246 #[iv i0, .val (.long i1), .second, iv i2, iv (4 : Int32), rv va, rv xs_, rv a1, rv a2, rv b38, rv s3_, rv s3_] [(.int (1 : Int32))])) st110 ?_
  clear st110
  refine own_st (T' := T110) (g' := (mkF m 249 #[iv i0, .val (.long i1), .second, iv i2, iv (4 : Int32), rv va, rv xs_, rv a1, rv a2, rv b38, rv s3_, rv s3_] [])) (fun _ k_ => XS.ifNo X110.here hx rfl (hb hby at_246) rfl ((if0 _ _).trans (feq (by decide : ¬ ((1 : Int32) = (0 : Int32)))).1) k_) ?_
  refine own_st (T' := T110) (g' := (mkF m 251 #[iv i0, .val (.long i1), .second, iv i2, iv (4 : Int32), rv va, rv xs_, rv a1, rv a2, rv b38, rv s3_, rv s3_] [(.ref s3_)])) (fun _ k_ => XS.aload X110.here hx rfl (hb hby at_249) rfl rfl  k_) ?_
  refine own_st (T' := T110) (g' := (mkF m 253 #[iv i0, .val (.long i1), .second, iv i2, iv (4 : Int32), rv va, rv xs_, rv a1, rv a2, rv b38, rv s3_, rv s3_] [(.ref va), (.ref s3_)])) (fun _ k_ => XS.aload X110.here hx rfl (hb hby at_251) rfl rfl  k_) ?_
  refine own_st (T' := T110) (g' := (mkF m 255 #[iv i0, .val (.long i1), .second, iv i2, iv (4 : Int32), rv va, rv xs_, rv a1, rv a2, rv b38, rv s3_, rv s3_] [(.int (4 : Int32)), (.ref va), (.ref s3_)])) (fun _ k_ => XS.iload X110.here hx rfl (hb hby at_253) rfl  k_) ?_
  refine own_st (T' := T110) (g' := (mkF m 256 #[iv i0, .val (.long i1), .second, iv i2, iv (4 : Int32), rv va, rv xs_, rv a1, rv a2, rv b38, rv s3_, rv s3_] [(.int (1 : Int32)), (.int (4 : Int32)), (.ref va), (.ref s3_)])) (fun _ k_ => XS.iconst X110.here hx rfl (hb hby at_255) k_) ?_
  refine own_st (T' := T110) (g' := (mkF m 257 #[iv i0, .val (.long i1), .second, iv i2, iv (4 : Int32), rv va, rv xs_, rv a1, rv a2, rv b38, rv s3_, rv s3_] [(.int (3 : Int32)), (.ref va), (.ref s3_)])) (fun _ k_ => XS.isub X110.here hx rfl (hb hby at_256) rfl k_) ?_
  obtain ⟨cl111, Ar111, q111, S111, N111, H111, G111⟩ := id f108
  have hin111 : ¬ ((3 : Int32) < 0 ∨ cl111.slots.size ≤ ((3 : Int32)).toNatClampNeg) := inb_of S111 ⟨by decide, by decide⟩
  refine own_st (T' := T110) (g' := (mkF m 258 #[iv i0, .val (.long i1), .second, iv i2, iv (4 : Int32), rv va, rv xs_, rv a1, rv a2, rv b38, rv s3_, rv s3_] [(.ref s3_), (.ref s3_)])) (X110.aaload hx (j := (3 : Int32)) (v := (.ref s3_)) (by rw [eq110]; exact Ar111.1) (State.isArrayOf_alike hZ.alike Ar111.2.1) rfl Ar111.2.2 hin111 (H111.at hin111 rfl) (g := (mkF m 257 #[iv i0, .val (.long i1), .second, iv i2, iv (4 : Int32), rv va, rv xs_, rv a1, rv a2, rv b38, rv s3_, rv s3_] [(.int (3 : Int32)), (.ref va), (.ref s3_)])) rfl rfl (hb hby at_257)) ?_
  clear hin111 G111 H111 N111 S111 q111 Ar111 cl111
  obtain ⟨cq112, kq112, q112a, q112b, q112c⟩ := isOf hZ eq110 f99
  obtain ⟨_, T112, L112, X112, hQ112, st112⟩ := own_callV X110 hx (y := own_m42) (z := own_m42) hown (mvT hZ (wd hw 234 rfl)) (mvT hZ (wd hw 235 rfl)) (notFace_of_selects (args := #[]) (mvT hZ (wd hw 237 rfl))) (mvT hZ (wd hw 237 rfl)) (mvT hZ (wd hw 236 rfl)) (by decide) (backOf (W := 0) (rm_eqs l Z a0 hw [] s3_ T90.heap n0 f100) hZ (wd hw 238 rfl) (wd hw 9 rfl) (by decide) (by decide)) q112a q112c (g := (mkF m 258 #[iv i0, .val (.long i1), .second, iv i2, iv (4 : Int32), rv va, rv xs_, rv a1, rv a2, rv b38, rv s3_, rv s3_] [(.ref s3_), (.ref s3_)])) rfl (by rw [hml]; rfl) (argsL := [(.ref s3_)]) (rest := []) (lenOf pd__Ljava_lang_Object__Z rfl) rfl (by show 2 * 0 + _ ≤ _; exact Nat.le_of_eq rfl) (hb hby at_258) rfl eq110 (by decide) (by decide) (c' := 24) (s' := 87) rfl rfl
  clear q112a q112b q112c kq112 cq112
  obtain ⟨rfl, Nq112, eq112⟩ := hQ112
  have N112 := Fr.app N110 Nq112
  refine own_st (T' := T112) (g' := (mkF m 261 #[iv i0, .val (.long i1), .second, iv i2, iv (4 : Int32), rv va, rv xs_, rv a1, rv a2, rv b38, rv s3_, rv s3_] [(.int (1 : Int32))])) st112 ?_
  clear st112
  refine own_st (T' := T112) (g' := (mkF m 264 #[iv i0, .val (.long i1), .second, iv i2, iv (4 : Int32), rv va, rv xs_, rv a1, rv a2, rv b38, rv s3_, rv s3_] [])) (fun _ k_ => XS.ifNo X112.here hx rfl (hb hby at_261) rfl ((if0 _ _).trans (feq (by decide : ¬ ((1 : Int32) = (0 : Int32)))).1) k_) ?_
  refine own_st (T' := T112) (g' := (mkF m 265 #[iv i0, .val (.long i1), .second, iv i2, iv (4 : Int32), rv va, rv xs_, rv a1, rv a2, rv b38, rv s3_, rv s3_] [(.int (1 : Int32))])) (fun _ k_ => XS.iconst X112.here hx rfl (hb hby at_264) k_) ?_
  refine own_st (T' := T112) (g' := (mkF m 269 #[iv i0, .val (.long i1), .second, iv i2, iv (4 : Int32), rv va, rv xs_, rv a1, rv a2, rv b38, rv s3_, rv s3_] [(.int (1 : Int32))])) (fun _ k_ => XS.goto X112.here hx rfl (pc0 := 265) (pc' := 269) rfl (hb hby at_265) (by decide) (by decide) k_) ?_
  exact own_retN X112 hx (t := .boolean) hret (by simp) hlk (hb hby at_269) (by decide) (by decide) ⟨rfl, N112⟩
set_option maxRecDepth 65536 in
set_option maxHeartbeats 40000000 in
theorem seg_n5 {p : Program} {l : Launch} {e : Env} {s : State} {m : MethodId} {args : Array Value} {below : List Frame} {meth : Method} {c : Code} {T0 : State} {locs : List Loc} {Z : State} {a0 : Array Value} (h0 : Heap) (hB : Heap) (n0 : Nat) (i0 : Int32) (i1 : Int64) (i2 : Int32) (va : Addr) (kv : ClassId) (s0_ : Addr) (s1_ : Addr) (s2_ : Addr) (s3_ : Addr) (s4_ : Addr) (xs_ : Addr) (a1 : Addr) (a2 : Addr) (t1 : Addr) (t2 : Addr) (f0_ : Addr) (mc1 : Int32) (mc2 : Int32) (kO : ClassId) (mir : Addr) (em : Addr) (w_TAKE_OUT : Addr) (w_TAKE_IN : Addr) (w_GRANT_OUT : Addr) (w_GRANT_IN : Addr)
    (X0 : Stand p l e room_1 s m args below meth c T0 locs 17 67) (hx : p.tables.exec = Jvm.exec) (hZ : Z.Warmed39 s.vm) (hw : ∀ d ∈ tables_1, d.before a0 Z = true) (hby : c.code = code) (hml : c.maxLocals = 12) (hown : s.vm.findClass "com/example/rights_leak_checker/rightsleakchecker/takegrant/BridgeToPinLaw" = some m.cls) (hnm : meth.name = "law") (hret : meth.sig.returnType = some .boolean) (hlk : meth.locks = false) (e0 : T0.heap = hB) (N0 : Fr n0 locs) (O0 : Old Z n0 hB) (VA : Arv Z hB va kv (.object "java/lang/String") (5 : Int32) [(.ref s0_), (.ref s1_), (.ref s2_), (.ref s3_), (.ref s4_)] .null) (E_s0_ : Exa Z hB s0_ "java/lang/String") (E_s1_ : Exa Z hB s1_ "java/lang/String") (E_s2_ : Exa Z hB s2_ "java/lang/String") (E_s3_ : Exa Z hB s3_ "java/lang/String") (E_s4_ : Exa Z hB s4_ "java/lang/String") (E_xs_ : Exa Z hB xs_ "java/lang/String") (PA0 : Exa Z hB a1 "java/util/ArrayList") (PA1 : Fld Z hB a1 "java/util/ArrayList" "elementData" "[Ljava/lang/Object;" (.ref t1)) (PA2 : Fld Z hB a1 "java/util/ArrayList" "size" "I" (.int (2 : Int32))) (PA3 : Fld Z hB a1 "java/util/AbstractList" "modCount" "I" (.int mc1)) (PB0 : Exa Z hB a2 "java/util/ArrayList") (PB1 : Fld Z hB a2 "java/util/ArrayList" "elementData" "[Ljava/lang/Object;" (.ref t2)) (PB2 : Fld Z hB a2 "java/util/ArrayList" "size" "I" (.int (1 : Int32))) (PB3 : Fld Z hB a2 "java/util/AbstractList" "modCount" "I" (.int mc2)) (V1 : Arv Z hB t1 kO (.object "java/lang/Object") (10 : Int32) [(.ref s0_), (.ref s1_), .null, .null, .null, .null, .null, .null, .null, .null] .null) (V2 : Arv Z hB t2 kO (.object "java/lang/Object") (10 : Int32) [(.ref f0_), .null, .null, .null, .null, .null, .null, .null, .null, .null] .null) (f_a1 : n0 ≤ a1) (f_a2 : n0 ≤ a2) (f_t1 : n0 ≤ t1) (f_t2 : n0 ≤ t2) (n12 : a1 ≠ a2) (m12 : t1 ≠ t2) (nv1 : va ≠ t1) (nv2 : va ≠ t2) (nes : s1_ ≠ em) (X_f0 : Exa Z Z.heap f0_ "com/example/rights_leak_checker/rightsleakchecker/takegrant/Bridge$Letter") (OV : Ovr Z kO "java/lang/Object") (FC : Z.vm.findClass "[Ljava/lang/Object;" = some kO) (MIR : own_Mir Z "[Ljava/lang/Object;" mir) (SEm : Sta Z Z.heap "java/util/ImmutableCollections" "EMPTY" "Ljava/lang/Object;" (.ref em)) (S_TAKE_OUT : Sta Z Z.heap "com/example/rights_leak_checker/rightsleakchecker/takegrant/Bridge$Letter" "TAKE_OUT" "Lcom/example/rights_leak_checker/rightsleakchecker/takegrant/Bridge$Letter;" (.ref w_TAKE_OUT)) (X_TAKE_OUT : Exa Z Z.heap w_TAKE_OUT "com/example/rights_leak_checker/rightsleakchecker/takegrant/Bridge$Letter") (S_TAKE_IN : Sta Z Z.heap "com/example/rights_leak_checker/rightsleakchecker/takegrant/Bridge$Letter" "TAKE_IN" "Lcom/example/rights_leak_checker/rightsleakchecker/takegrant/Bridge$Letter;" (.ref w_TAKE_IN)) (X_TAKE_IN : Exa Z Z.heap w_TAKE_IN "com/example/rights_leak_checker/rightsleakchecker/takegrant/Bridge$Letter") (S_GRANT_OUT : Sta Z Z.heap "com/example/rights_leak_checker/rightsleakchecker/takegrant/Bridge$Letter" "GRANT_OUT" "Lcom/example/rights_leak_checker/rightsleakchecker/takegrant/Bridge$Letter;" (.ref w_GRANT_OUT)) (X_GRANT_OUT : Exa Z Z.heap w_GRANT_OUT "com/example/rights_leak_checker/rightsleakchecker/takegrant/Bridge$Letter") (S_GRANT_IN : Sta Z Z.heap "com/example/rights_leak_checker/rightsleakchecker/takegrant/Bridge$Letter" "GRANT_IN" "Lcom/example/rights_leak_checker/rightsleakchecker/takegrant/Bridge$Letter;" (.ref w_GRANT_IN)) (X_GRANT_IN : Exa Z Z.heap w_GRANT_IN "com/example/rights_leak_checker/rightsleakchecker/takegrant/Bridge$Letter") :
    own_E p e below s room_1.cells room_1.slots (own_L n0) T0 (mkF m 114 #[iv i0, .val (.long i1), .second, iv i2, iv (5 : Int32), rv va, rv xs_, rv a1, rv a2, .unset, .unset, .unset] []) := by
  refine own_st (T' := T0) (g' := (mkF m 116 #[iv i0, .val (.long i1), .second, iv i2, iv (5 : Int32), rv va, rv xs_, rv a1, rv a2, .unset, .unset, .unset] [(.int (5 : Int32))])) (fun _ k_ => XS.iload X0.here hx rfl (hb hby at_114) rfl  k_) ?_
  refine own_st (T' := T0) (g' := (mkF m 117 #[iv i0, .val (.long i1), .second, iv i2, iv (5 : Int32), rv va, rv xs_, rv a1, rv a2, .unset, .unset, .unset] [(.int (3 : Int32)), (.int (5 : Int32))])) (fun _ k_ => XS.iconst X0.here hx rfl (hb hby at_116) k_) ?_
  refine own_st (T' := T0) (g' := (mkF m 120 #[iv i0, .val (.long i1), .second, iv i2, iv (5 : Int32), rv va, rv xs_, rv a1, rv a2, .unset, .unset, .unset] [])) (fun _ k_ => XS.icmpNo X0.here hx rfl (hb hby at_117) rfl (flt (by decide : ¬ ((5 : Int32) < (3 : Int32)))).1 k_) ?_
  refine own_st (T' := T0) (g' := (mkF m 122 #[iv i0, .val (.long i1), .second, iv i2, iv (5 : Int32), rv va, rv xs_, rv a1, rv a2, .unset, .unset, .unset] [(.ref a1)])) (fun _ k_ => XS.aload X0.here hx rfl (hb hby at_120) rfl rfl  k_) ?_
  refine own_st (T' := T0) (g' := (mkF m 124 #[iv i0, .val (.long i1), .second, iv i2, iv (5 : Int32), rv va, rv xs_, rv a1, rv a2, .unset, .unset, .unset] [(.ref va), (.ref a1)])) (fun _ k_ => XS.aload X0.here hx rfl (hb hby at_122) rfl rfl  k_) ?_
  refine own_st (T' := T0) (g' := (mkF m 125 #[iv i0, .val (.long i1), .second, iv i2, iv (5 : Int32), rv va, rv xs_, rv a1, rv a2, .unset, .unset, .unset] [(.int (2 : Int32)), (.ref va), (.ref a1)])) (fun _ k_ => XS.iconst X0.here hx rfl (hb hby at_124) k_) ?_
  obtain ⟨cl1, Ar1, q1, S1, N1, H1, G1⟩ := id VA
  have hin1 : ¬ ((2 : Int32) < 0 ∨ cl1.slots.size ≤ ((2 : Int32)).toNatClampNeg) := inb_of S1 ⟨by decide, by decide⟩
  refine own_st (T' := T0) (g' := (mkF m 126 #[iv i0, .val (.long i1), .second, iv i2, iv (5 : Int32), rv va, rv xs_, rv a1, rv a2, .unset, .unset, .unset] [(.ref s2_), (.ref a1)])) (X0.aaload hx (j := (2 : Int32)) (v := (.ref s2_)) (by rw [e0]; exact Ar1.1) (State.isArrayOf_alike hZ.alike Ar1.2.1) rfl Ar1.2.2 hin1 (H1.at hin1 rfl) (g := (mkF m 125 #[iv i0, .val (.long i1), .second, iv i2, iv (5 : Int32), rv va, rv xs_, rv a1, rv a2, .unset, .unset, .unset] [(.int (2 : Int32)), (.ref va), (.ref a1)])) rfl rfl (hb hby at_125)) ?_
  clear hin1 G1 H1 N1 S1 q1 Ar1 cl1
  obtain ⟨cq2, kq2, q2a, q2b, q2c⟩ := isOf hZ e0 PA0
  obtain ⟨_, T2, L2, X2, hQ2, st2⟩ := own_callV X0 hx (y := own_m13) (z := own_m13) hown (mvT hZ (wd hw 67 rfl)) (mvT hZ (wd hw 68 rfl)) (notFace_of_selects (args := #[]) (mvT hZ (wd hw 70 rfl))) (mvT hZ (wd hw 70 rfl)) (mvT hZ (wd hw 69 rfl)) (by decide) (backOf (W := 0) (rm_add_2 l Z a0 hw [] a1 s2_ t1 mc1 kO (.ref s0_) (.ref s1_) hB n0 O0 PA0 PA1 PA2 PA3 V1 f_a1 f_t1 OV FC (Ins.of_exa E_s2_ (wd hw 97 rfl))) hZ (wd hw 71 rfl) (wd hw 45 rfl) (by decide) (by decide)) q2a q2c (g := (mkF m 126 #[iv i0, .val (.long i1), .second, iv i2, iv (5 : Int32), rv va, rv xs_, rv a1, rv a2, .unset, .unset, .unset] [(.ref s2_), (.ref a1)])) rfl (by rw [hml]; rfl) (argsL := [(.ref s2_)]) (rest := []) (lenOf pd__Ljava_lang_Object__Z rfl) rfl (by show 2 * 0 + _ ≤ _; exact Nat.le_of_eq rfl) (hb hby at_126) rfl e0 (by decide) (by decide) (c' := 17) (s' := 67) rfl rfl
  clear q2a q2b q2c kq2 cq2
  obtain ⟨rfl, Nq2, K2, fq2_0, fq2_1, fq2_2, fq2_3, fq2_4⟩ := hQ2
  have N2 := Fr.app N0 Nq2
  refine own_st (T' := T2) (g' := (mkF m 129 #[iv i0, .val (.long i1), .second, iv i2, iv (5 : Int32), rv va, rv xs_, rv a1, rv a2, .unset, .unset, .unset] [(.int (1 : Int32))])) st2 ?_
  clear st2
  refine own_st (T' := T2) (g' := (mkF m 130 #[iv i0, .val (.long i1), .second, iv i2, iv (5 : Int32), rv va, rv xs_, rv a1, rv a2, .unset, .unset, .unset] [])) (fun _ k_ => XS.pop X2.here hx rfl (hb hby at_129) rfl rfl k_) ?_
  refine own_st (T' := T2) (g' := (mkF m 132 #[iv i0, .val (.long i1), .second, iv i2, iv (5 : Int32), rv va, rv xs_, rv a1, rv a2, .unset, .unset, .unset] [(.ref a2)])) (fun _ k_ => XS.aload X2.here hx rfl (hb hby at_130) rfl rfl  k_) ?_
  refine own_st (T' := T2) (g' := (mkF m 133 #[iv i0, .val (.long i1), .second, iv i2, iv (5 : Int32), rv va, rv xs_, rv a1, rv a2, .unset, .unset, .unset] [(.int i2), (.ref a2)])) (fun _ k_ => XS.iloadN X2.here hx rfl (hb hby at_132) rfl  k_) ?_
  refine own_st (T' := T2) (g' := (mkF m 134 #[iv i0, .val (.long i1), .second, iv i2, iv (5 : Int32), rv va, rv xs_, rv a1, rv a2, .unset, .unset, .unset] [(.int (2 : Int32)), (.int i2), (.ref a2)])) (fun _ k_ => XS.iconst X2.here hx rfl (hb hby at_133) k_) ?_
  refine own_st (T' := T2) (g' := (mkF m 135 #[iv i0, .val (.long i1), .second, iv i2, iv (5 : Int32), rv va, rv xs_, rv a1, rv a2, .unset, .unset, .unset] [(.int ((i2.toUInt32 >>> ((2 : Int32) &&& 31).toUInt32).toInt32)), (.ref a2)])) (fun _ k_ => XS.iushr X2.here hx rfl (hb hby at_134) rfl k_) ?_
  have f3 := O0.keep K2 (allS f_a1 (allS f_t1 all0))
  obtain ⟨_, T4, L4, X4, hQ4, st4⟩ := own_callS X2 hx (y := own_m33) hown (mvT hZ (wd hw 98 rfl)) (mvT hZ (wd hw 99 rfl)) (mvT hZ (wd hw 4 rfl)) (mvT hZ (wd hw 100 rfl)) (by decide) (backOf (W := 1) (rm_let l Z a0 hw [] ((i2.toUInt32 >>> ((2 : Int32) &&& 31).toUInt32).toInt32) w_TAKE_OUT w_TAKE_IN w_GRANT_OUT w_GRANT_IN T2.heap n0 f3 S_TAKE_OUT X_TAKE_OUT S_TAKE_IN X_TAKE_IN S_GRANT_OUT X_GRANT_OUT S_GRANT_IN X_GRANT_IN) hZ (wd hw 100 rfl) (wd hw 4 rfl) (by decide) (by decide)) (g := (mkF m 135 #[iv i0, .val (.long i1), .second, iv i2, iv (5 : Int32), rv va, rv xs_, rv a1, rv a2, .unset, .unset, .unset] [(.int ((i2.toUInt32 >>> ((2 : Int32) &&& 31).toUInt32).toInt32)), (.ref a2)])) rfl (by rw [hml]; rfl) (argsL := [(.int ((i2.toUInt32 >>> ((2 : Int32) &&& 31).toUInt32).toInt32))]) (rest := [(.ref a2)]) (lenOf pd__I_Lcom_example_rights_leak_checker_rightsleakchecker_takegrant_Bridge_Letter_ rfl) rfl (by show 2 * 0 + _ ≤ _; exact Nat.le_of_eq rfl) (hb hby at_135) rfl rfl (by decide) (by decide) (c' := 17) (s' := 67) rfl rfl
  obtain ⟨b4, rfl, Nq4, eq4, xq4_old_b⟩ := hQ4
  have N4 := Fr.app N2 Nq4
  refine own_st (T' := T4) (g' := (mkF m 138 #[iv i0, .val (.long i1), .second, iv i2, iv (5 : Int32), rv va, rv xs_, rv a1, rv a2, .unset, .unset, .unset] [(.ref b4), (.ref a2)])) st4 ?_
  clear st4
  have f5 := PB0.keep K2
  have xe6 : Exa Z T2.heap a2 "java/util/ArrayList" := PB0.keep K2
  have ne7 : a2 ≠ t1 := own_neA xe6 (wd hw 44 rfl) fq2_4
  have f8 := PB1.keep K2 (ninS (Ne.symm n12) (ninS ne7 nin0))
  have f9 := PB2.keep K2 (ninS (Ne.symm n12) (ninS ne7 nin0))
  have f10 := PB3.keep K2 (ninS (Ne.symm n12) (ninS ne7 nin0))
  have ne11 : a1 ≠ t2 := own_neA PA0 (wd hw 44 rfl) V2
  have f12 := V2.keep K2 (ninS (Ne.symm ne11) (ninS (Ne.symm m12) nin0))
  obtain ⟨cq13, kq13, q13a, q13b, q13c⟩ := isOf hZ eq4 f5
  obtain ⟨_, T13, L13, X13, hQ13, st13⟩ := own_callV X4 hx (y := own_m13) (z := own_m13) hown (mvT hZ (wd hw 67 rfl)) (mvT hZ (wd hw 68 rfl)) (notFace_of_selects (args := #[]) (mvT hZ (wd hw 70 rfl))) (mvT hZ (wd hw 70 rfl)) (mvT hZ (wd hw 69 rfl)) (by decide) (backOf (W := 0) (rm_add_1 l Z a0 hw [] a2 b4 t2 mc2 kO (.ref f0_) T2.heap n0 f3 f5 f8 f9 f10 f12 f_a2 f_t2 OV FC (Ins.of_exa (xq4_old_b.ext f3.2) (wd hw 104 rfl))) hZ (wd hw 71 rfl) (wd hw 45 rfl) (by decide) (by decide)) q13a q13c (g := (mkF m 138 #[iv i0, .val (.long i1), .second, iv i2, iv (5 : Int32), rv va, rv xs_, rv a1, rv a2, .unset, .unset, .unset] [(.ref b4), (.ref a2)])) rfl (by rw [hml]; rfl) (argsL := [(.ref b4)]) (rest := []) (lenOf pd__Ljava_lang_Object__Z rfl) rfl (by show 2 * 0 + _ ≤ _; exact Nat.le_of_eq rfl) (hb hby at_138) rfl eq4 (by decide) (by decide) (c' := 17) (s' := 67) rfl rfl
  clear q13a q13b q13c kq13 cq13
  obtain ⟨rfl, Nq13, K13, fq13_0, fq13_1, fq13_2, fq13_3, fq13_4⟩ := hQ13
  have N13 := Fr.app N4 Nq13
  refine own_st (T' := T13) (g' := (mkF m 141 #[iv i0, .val (.long i1), .second, iv i2, iv (5 : Int32), rv va, rv xs_, rv a1, rv a2, .unset, .unset, .unset] [(.int (1 : Int32))])) st13 ?_
  clear st13
  refine own_st (T' := T13) (g' := (mkF m 142 #[iv i0, .val (.long i1), .second, iv i2, iv (5 : Int32), rv va, rv xs_, rv a1, rv a2, .unset, .unset, .unset] [])) (fun _ k_ => XS.pop X13.here hx rfl (hb hby at_141) rfl rfl k_) ?_
  refine own_st (T' := T13) (g' := (mkF m 144 #[iv i0, .val (.long i1), .second, iv i2, iv (5 : Int32), rv va, rv xs_, rv a1, rv a2, .unset, .unset, .unset] [(.int (5 : Int32))])) (fun _ k_ => XS.iload X13.here hx rfl (hb hby at_142) rfl  k_) ?_
  refine own_st (T' := T13) (g' := (mkF m 145 #[iv i0, .val (.long i1), .second, iv i2, iv (5 : Int32), rv va, rv xs_, rv a1, rv a2, .unset, .unset, .unset] [(.int (4 : Int32)), (.int (5 : Int32))])) (fun _ k_ => XS.iconst X13.here hx rfl (hb hby at_144) k_) ?_
  refine own_st (T' := T13) (g' := (mkF m 148 #[iv i0, .val (.long i1), .second, iv i2, iv (5 : Int32), rv va, rv xs_, rv a1, rv a2, .unset, .unset, .unset] [])) (fun _ k_ => XS.icmpNo X13.here hx rfl (hb hby at_145) rfl (flt (by decide : ¬ ((5 : Int32) < (4 : Int32)))).1 k_) ?_
  refine own_st (T' := T13) (g' := (mkF m 150 #[iv i0, .val (.long i1), .second, iv i2, iv (5 : Int32), rv va, rv xs_, rv a1, rv a2, .unset, .unset, .unset] [(.ref a1)])) (fun _ k_ => XS.aload X13.here hx rfl (hb hby at_148) rfl rfl  k_) ?_
  refine own_st (T' := T13) (g' := (mkF m 152 #[iv i0, .val (.long i1), .second, iv i2, iv (5 : Int32), rv va, rv xs_, rv a1, rv a2, .unset, .unset, .unset] [(.ref va), (.ref a1)])) (fun _ k_ => XS.aload X13.here hx rfl (hb hby at_150) rfl rfl  k_) ?_
  refine own_st (T' := T13) (g' := (mkF m 153 #[iv i0, .val (.long i1), .second, iv i2, iv (5 : Int32), rv va, rv xs_, rv a1, rv a2, .unset, .unset, .unset] [(.int (3 : Int32)), (.ref va), (.ref a1)])) (fun _ k_ => XS.iconst X13.here hx rfl (hb hby at_152) k_) ?_
  have ne14 : a1 ≠ va := own_neA PA0 (wd hw 44 rfl) VA
  have f15 := VA.keep K2 (ninS (Ne.symm ne14) (ninS nv1 nin0))
  have xe16 : Exa Z T2.heap a2 "java/util/ArrayList" := PB0.keep K2
  have ne17 : a2 ≠ va := own_neA xe16 (wd hw 44 rfl) f15
  have f18 := f15.keep K13 (ninS (Ne.symm ne17) (ninS nv2 nin0))
  obtain ⟨cl19, Ar19, q19, S19, N19, H19, G19⟩ := id f18
  have hin19 : ¬ ((3 : Int32) < 0 ∨ cl19.slots.size ≤ ((3 : Int32)).toNatClampNeg) := inb_of S19 ⟨by decide, by decide⟩
  refine own_st (T' := T13) (g' := (mkF m 154 #[iv i0, .val (.long i1), .second, iv i2, iv (5 : Int32), rv va, rv xs_, rv a1, rv a2, .unset, .unset, .unset] [(.ref s3_), (.ref a1)])) (X13.aaload hx (j := (3 : Int32)) (v := (.ref s3_)) Ar19.1 (State.isArrayOf_alike hZ.alike Ar19.2.1) rfl Ar19.2.2 hin19 (H19.at hin19 rfl) (g := (mkF m 153 #[iv i0, .val (.long i1), .second, iv i2, iv (5 : Int32), rv va, rv xs_, rv a1, rv a2, .unset, .unset, .unset] [(.int (3 : Int32)), (.ref va), (.ref a1)])) rfl rfl (hb hby at_153)) ?_
  clear hin19 G19 H19 N19 S19 q19 Ar19 cl19
  have f20 := fq2_0.keep K13
  have f21 := fq2_1.keep K13 (ninS n12 (ninS ne11 nin0))
  have f22 := fq2_2.keep K13 (ninS n12 (ninS ne11 nin0))
  have f23 := fq2_3.keep K13 (ninS n12 (ninS ne11 nin0))
  have f24 := fq2_4.keep K13 (ninS (Ne.symm ne7) (ninS m12 nin0))
  have f25 := E_s3_.keep K2
  have f26 := f25.keep K13
  have f27 := f3.keep K13 (allS f_a2 (allS f_t2 all0))
  obtain ⟨cq28, kq28, q28a, q28b, q28c⟩ := isOf hZ rfl f20
  obtain ⟨_, T28, L28, X28, hQ28, st28⟩ := own_callV X13 hx (y := own_m13) (z := own_m13) hown (mvT hZ (wd hw 67 rfl)) (mvT hZ (wd hw 68 rfl)) (notFace_of_selects (args := #[]) (mvT hZ (wd hw 70 rfl))) (mvT hZ (wd hw 70 rfl)) (mvT hZ (wd hw 69 rfl)) (by decide) (backOf (W := 0) (rm_add_3 l Z a0 hw [] a1 s3_ t1 (mc1 + (1 : Int32)) kO (.ref s0_) (.ref s1_) (.ref s2_) T13.heap n0 f27 f20 f21 f22 f23 f24 f_a1 f_t1 OV FC (Ins.of_exa f26 (wd hw 97 rfl))) hZ (wd hw 71 rfl) (wd hw 45 rfl) (by decide) (by decide)) q28a q28c (g := (mkF m 154 #[iv i0, .val (.long i1), .second, iv i2, iv (5 : Int32), rv va, rv xs_, rv a1, rv a2, .unset, .unset, .unset] [(.ref s3_), (.ref a1)])) rfl (by rw [hml]; rfl) (argsL := [(.ref s3_)]) (rest := []) (lenOf pd__Ljava_lang_Object__Z rfl) rfl (by show 2 * 0 + _ ≤ _; exact Nat.le_of_eq rfl) (hb hby at_154) rfl rfl (by decide) (by decide) (c' := 17) (s' := 67) rfl rfl
  clear q28a q28b q28c kq28 cq28
  obtain ⟨rfl, Nq28, K28, fq28_0, fq28_1, fq28_2, fq28_3, fq28_4⟩ := hQ28
  have N28 := Fr.app N13 Nq28
  refine own_st (T' := T28) (g' := (mkF m 157 #[iv i0, .val (.long i1), .second, iv i2, iv (5 : Int32), rv va, rv xs_, rv a1, rv a2, .unset, .unset, .unset] [(.int (1 : Int32))])) st28 ?_
  clear st28
  refine own_st (T' := T28) (g' := (mkF m 158 #[iv i0, .val (.long i1), .second, iv i2, iv (5 : Int32), rv va, rv xs_, rv a1, rv a2, .unset, .unset, .unset] [])) (fun _ k_ => XS.pop X28.here hx rfl (hb hby at_157) rfl rfl k_) ?_
  refine own_st (T' := T28) (g' := (mkF m 160 #[iv i0, .val (.long i1), .second, iv i2, iv (5 : Int32), rv va, rv xs_, rv a1, rv a2, .unset, .unset, .unset] [(.ref a2)])) (fun _ k_ => XS.aload X28.here hx rfl (hb hby at_158) rfl rfl  k_) ?_
  refine own_st (T' := T28) (g' := (mkF m 161 #[iv i0, .val (.long i1), .second, iv i2, iv (5 : Int32), rv va, rv xs_, rv a1, rv a2, .unset, .unset, .unset] [(.int i2), (.ref a2)])) (fun _ k_ => XS.iloadN X28.here hx rfl (hb hby at_160) rfl  k_) ?_
  refine own_st (T' := T28) (g' := (mkF m 162 #[iv i0, .val (.long i1), .second, iv i2, iv (5 : Int32), rv va, rv xs_, rv a1, rv a2, .unset, .unset, .unset] [(.int (4 : Int32)), (.int i2), (.ref a2)])) (fun _ k_ => XS.iconst X28.here hx rfl (hb hby at_161) k_) ?_
  refine own_st (T' := T28) (g' := (mkF m 163 #[iv i0, .val (.long i1), .second, iv i2, iv (5 : Int32), rv va, rv xs_, rv a1, rv a2, .unset, .unset, .unset] [(.int ((i2.toUInt32 >>> ((4 : Int32) &&& 31).toUInt32).toInt32)), (.ref a2)])) (fun _ k_ => XS.iushr X28.here hx rfl (hb hby at_162) rfl k_) ?_
  have f29 := f27.keep K28 (allS f_a1 (allS f_t1 all0))
  obtain ⟨_, T30, L30, X30, hQ30, st30⟩ := own_callS X28 hx (y := own_m33) hown (mvT hZ (wd hw 98 rfl)) (mvT hZ (wd hw 99 rfl)) (mvT hZ (wd hw 4 rfl)) (mvT hZ (wd hw 100 rfl)) (by decide) (backOf (W := 1) (rm_let l Z a0 hw [] ((i2.toUInt32 >>> ((4 : Int32) &&& 31).toUInt32).toInt32) w_TAKE_OUT w_TAKE_IN w_GRANT_OUT w_GRANT_IN T28.heap n0 f29 S_TAKE_OUT X_TAKE_OUT S_TAKE_IN X_TAKE_IN S_GRANT_OUT X_GRANT_OUT S_GRANT_IN X_GRANT_IN) hZ (wd hw 100 rfl) (wd hw 4 rfl) (by decide) (by decide)) (g := (mkF m 163 #[iv i0, .val (.long i1), .second, iv i2, iv (5 : Int32), rv va, rv xs_, rv a1, rv a2, .unset, .unset, .unset] [(.int ((i2.toUInt32 >>> ((4 : Int32) &&& 31).toUInt32).toInt32)), (.ref a2)])) rfl (by rw [hml]; rfl) (argsL := [(.int ((i2.toUInt32 >>> ((4 : Int32) &&& 31).toUInt32).toInt32))]) (rest := [(.ref a2)]) (lenOf pd__I_Lcom_example_rights_leak_checker_rightsleakchecker_takegrant_Bridge_Letter_ rfl) rfl (by show 2 * 0 + _ ≤ _; exact Nat.le_of_eq rfl) (hb hby at_163) rfl rfl (by decide) (by decide) (c' := 17) (s' := 67) rfl rfl
  obtain ⟨b30, rfl, Nq30, eq30, xq30_old_b⟩ := hQ30
  have N30 := Fr.app N28 Nq30
  refine own_st (T' := T30) (g' := (mkF m 166 #[iv i0, .val (.long i1), .second, iv i2, iv (5 : Int32), rv va, rv xs_, rv a1, rv a2, .unset, .unset, .unset] [(.ref b30), (.ref a2)])) st30 ?_
  clear st30
  have f31 := fq13_0.keep K28
  have f32 := fq13_1.keep K28 (ninS (Ne.symm n12) (ninS ne7 nin0))
  have f33 := fq13_2.keep K28 (ninS (Ne.symm n12) (ninS ne7 nin0))
  have f34 := fq13_3.keep K28 (ninS (Ne.symm n12) (ninS ne7 nin0))
  have f35 := fq13_4.keep K28 (ninS (Ne.symm ne11) (ninS (Ne.symm m12) nin0))
  obtain ⟨cq36, kq36, q36a, q36b, q36c⟩ := isOf hZ eq30 f31
  obtain ⟨_, T36, L36, X36, hQ36, st36⟩ := own_callV X30 hx (y := own_m13) (z := own_m13) hown (mvT hZ (wd hw 67 rfl)) (mvT hZ (wd hw 68 rfl)) (notFace_of_selects (args := #[]) (mvT hZ (wd hw 70 rfl))) (mvT hZ (wd hw 70 rfl)) (mvT hZ (wd hw 69 rfl)) (by decide) (backOf (W := 0) (rm_add_2 l Z a0 hw [] a2 b30 t2 (mc2 + (1 : Int32)) kO (.ref f0_) (.ref b4) T28.heap n0 f29 f31 f32 f33 f34 f35 f_a2 f_t2 OV FC (Ins.of_exa (xq30_old_b.ext f29.2) (wd hw 104 rfl))) hZ (wd hw 71 rfl) (wd hw 45 rfl) (by decide) (by decide)) q36a q36c (g := (mkF m 166 #[iv i0, .val (.long i1), .second, iv i2, iv (5 : Int32), rv va, rv xs_, rv a1, rv a2, .unset, .unset, .unset] [(.ref b30), (.ref a2)])) rfl (by rw [hml]; rfl) (argsL := [(.ref b30)]) (rest := []) (lenOf pd__Ljava_lang_Object__Z rfl) rfl (by show 2 * 0 + _ ≤ _; exact Nat.le_of_eq rfl) (hb hby at_166) rfl eq30 (by decide) (by decide) (c' := 17) (s' := 67) rfl rfl
  clear q36a q36b q36c kq36 cq36
  obtain ⟨rfl, Nq36, K36, fq36_0, fq36_1, fq36_2, fq36_3, fq36_4⟩ := hQ36
  have N36 := Fr.app N30 Nq36
  refine own_st (T' := T36) (g' := (mkF m 169 #[iv i0, .val (.long i1), .second, iv i2, iv (5 : Int32), rv va, rv xs_, rv a1, rv a2, .unset, .unset, .unset] [(.int (1 : Int32))])) st36 ?_
  clear st36
  refine own_st (T' := T36) (g' := (mkF m 170 #[iv i0, .val (.long i1), .second, iv i2, iv (5 : Int32), rv va, rv xs_, rv a1, rv a2, .unset, .unset, .unset] [])) (fun _ k_ => XS.pop X36.here hx rfl (hb hby at_169) rfl rfl k_) ?_
  refine own_st (T' := T36) (g' := (mkF m 172 #[iv i0, .val (.long i1), .second, iv i2, iv (5 : Int32), rv va, rv xs_, rv a1, rv a2, .unset, .unset, .unset] [(.int (5 : Int32))])) (fun _ k_ => XS.iload X36.here hx rfl (hb hby at_170) rfl  k_) ?_
  refine own_st (T' := T36) (g' := (mkF m 173 #[iv i0, .val (.long i1), .second, iv i2, iv (5 : Int32), rv va, rv xs_, rv a1, rv a2, .unset, .unset, .unset] [(.int (5 : Int32)), (.int (5 : Int32))])) (fun _ k_ => XS.iconst X36.here hx rfl (hb hby at_172) k_) ?_
  refine own_st (T' := T36) (g' := (mkF m 176 #[iv i0, .val (.long i1), .second, iv i2, iv (5 : Int32), rv va, rv xs_, rv a1, rv a2, .unset, .unset, .unset] [])) (fun _ k_ => XS.icmpNo X36.here hx rfl (hb hby at_173) rfl (flt (by decide : ¬ ((5 : Int32) < (5 : Int32)))).1 k_) ?_
  refine own_st (T' := T36) (g' := (mkF m 178 #[iv i0, .val (.long i1), .second, iv i2, iv (5 : Int32), rv va, rv xs_, rv a1, rv a2, .unset, .unset, .unset] [(.ref a1)])) (fun _ k_ => XS.aload X36.here hx rfl (hb hby at_176) rfl rfl  k_) ?_
  refine own_st (T' := T36) (g' := (mkF m 180 #[iv i0, .val (.long i1), .second, iv i2, iv (5 : Int32), rv va, rv xs_, rv a1, rv a2, .unset, .unset, .unset] [(.ref va), (.ref a1)])) (fun _ k_ => XS.aload X36.here hx rfl (hb hby at_178) rfl rfl  k_) ?_
  refine own_st (T' := T36) (g' := (mkF m 181 #[iv i0, .val (.long i1), .second, iv i2, iv (5 : Int32), rv va, rv xs_, rv a1, rv a2, .unset, .unset, .unset] [(.int (4 : Int32)), (.ref va), (.ref a1)])) (fun _ k_ => XS.iconst X36.here hx rfl (hb hby at_180) k_) ?_
  have f37 := f18.keep K28 (ninS (Ne.symm ne14) (ninS nv1 nin0))
  have f38 := f37.keep K36 (ninS (Ne.symm ne17) (ninS nv2 nin0))
  obtain ⟨cl39, Ar39, q39, S39, N39, H39, G39⟩ := id f38
  have hin39 : ¬ ((4 : Int32) < 0 ∨ cl39.slots.size ≤ ((4 : Int32)).toNatClampNeg) := inb_of S39 ⟨by decide, by decide⟩
  refine own_st (T' := T36) (g' := (mkF m 182 #[iv i0, .val (.long i1), .second, iv i2, iv (5 : Int32), rv va, rv xs_, rv a1, rv a2, .unset, .unset, .unset] [(.ref s4_), (.ref a1)])) (X36.aaload hx (j := (4 : Int32)) (v := (.ref s4_)) Ar39.1 (State.isArrayOf_alike hZ.alike Ar39.2.1) rfl Ar39.2.2 hin39 (H39.at hin39 rfl) (g := (mkF m 181 #[iv i0, .val (.long i1), .second, iv i2, iv (5 : Int32), rv va, rv xs_, rv a1, rv a2, .unset, .unset, .unset] [(.int (4 : Int32)), (.ref va), (.ref a1)])) rfl rfl (hb hby at_181)) ?_
  clear hin39 G39 H39 N39 S39 q39 Ar39 cl39
  have f40 := fq28_0.keep K36
  have f41 := fq28_1.keep K36 (ninS n12 (ninS ne11 nin0))
  have f42 := fq28_2.keep K36 (ninS n12 (ninS ne11 nin0))
  have f43 := fq28_3.keep K36 (ninS n12 (ninS ne11 nin0))
  have f44 := fq28_4.keep K36 (ninS (Ne.symm ne7) (ninS m12 nin0))
  have f45 := E_s4_.keep K2
  have f46 := f45.keep K13
  have f47 := f46.keep K28
  have f48 := f47.keep K36
  have f49 := f29.keep K36 (allS f_a2 (allS f_t2 all0))
  obtain ⟨cq50, kq50, q50a, q50b, q50c⟩ := isOf hZ rfl f40
  obtain ⟨_, T50, L50, X50, hQ50, st50⟩ := own_callV X36 hx (y := own_m13) (z := own_m13) hown (mvT hZ (wd hw 67 rfl)) (mvT hZ (wd hw 68 rfl)) (notFace_of_selects (args := #[]) (mvT hZ (wd hw 70 rfl))) (mvT hZ (wd hw 70 rfl)) (mvT hZ (wd hw 69 rfl)) (by decide) (backOf (W := 0) (rm_add_4 l Z a0 hw [] a1 s4_ t1 ((mc1 + (1 : Int32)) + (1 : Int32)) kO (.ref s0_) (.ref s1_) (.ref s2_) (.ref s3_) T36.heap n0 f49 f40 f41 f42 f43 f44 f_a1 f_t1 OV FC (Ins.of_exa f48 (wd hw 97 rfl))) hZ (wd hw 71 rfl) (wd hw 45 rfl) (by decide) (by decide)) q50a q50c (g := (mkF m 182 #[iv i0, .val (.long i1), .second, iv i2, iv (5 : Int32), rv va, rv xs_, rv a1, rv a2, .unset, .unset, .unset] [(.ref s4_), (.ref a1)])) rfl (by rw [hml]; rfl) (argsL := [(.ref s4_)]) (rest := []) (lenOf pd__Ljava_lang_Object__Z rfl) rfl (by show 2 * 0 + _ ≤ _; exact Nat.le_of_eq rfl) (hb hby at_182) rfl rfl (by decide) (by decide) (c' := 17) (s' := 67) rfl rfl
  clear q50a q50b q50c kq50 cq50
  obtain ⟨rfl, Nq50, K50, fq50_0, fq50_1, fq50_2, fq50_3, fq50_4⟩ := hQ50
  have N50 := Fr.app N36 Nq50
  refine own_st (T' := T50) (g' := (mkF m 185 #[iv i0, .val (.long i1), .second, iv i2, iv (5 : Int32), rv va, rv xs_, rv a1, rv a2, .unset, .unset, .unset] [(.int (1 : Int32))])) st50 ?_
  clear st50
  refine own_st (T' := T50) (g' := (mkF m 186 #[iv i0, .val (.long i1), .second, iv i2, iv (5 : Int32), rv va, rv xs_, rv a1, rv a2, .unset, .unset, .unset] [])) (fun _ k_ => XS.pop X50.here hx rfl (hb hby at_185) rfl rfl k_) ?_
  refine own_st (T' := T50) (g' := (mkF m 188 #[iv i0, .val (.long i1), .second, iv i2, iv (5 : Int32), rv va, rv xs_, rv a1, rv a2, .unset, .unset, .unset] [(.ref a2)])) (fun _ k_ => XS.aload X50.here hx rfl (hb hby at_186) rfl rfl  k_) ?_
  refine own_st (T' := T50) (g' := (mkF m 189 #[iv i0, .val (.long i1), .second, iv i2, iv (5 : Int32), rv va, rv xs_, rv a1, rv a2, .unset, .unset, .unset] [(.int i2), (.ref a2)])) (fun _ k_ => XS.iloadN X50.here hx rfl (hb hby at_188) rfl  k_) ?_
  refine own_st (T' := T50) (g' := (mkF m 191 #[iv i0, .val (.long i1), .second, iv i2, iv (5 : Int32), rv va, rv xs_, rv a1, rv a2, .unset, .unset, .unset] [(.int (6 : Int32)), (.int i2), (.ref a2)])) (fun _ k_ => XS.bipush X50.here hx rfl (hb hby at_189) k_) ?_
  refine own_st (T' := T50) (g' := (mkF m 192 #[iv i0, .val (.long i1), .second, iv i2, iv (5 : Int32), rv va, rv xs_, rv a1, rv a2, .unset, .unset, .unset] [(.int ((i2.toUInt32 >>> ((6 : Int32) &&& 31).toUInt32).toInt32)), (.ref a2)])) (fun _ k_ => XS.iushr X50.here hx rfl (hb hby at_191) rfl k_) ?_
  have f51 := f49.keep K50 (allS f_a1 (allS f_t1 all0))
  obtain ⟨_, T52, L52, X52, hQ52, st52⟩ := own_callS X50 hx (y := own_m33) hown (mvT hZ (wd hw 98 rfl)) (mvT hZ (wd hw 99 rfl)) (mvT hZ (wd hw 4 rfl)) (mvT hZ (wd hw 100 rfl)) (by decide) (backOf (W := 1) (rm_let l Z a0 hw [] ((i2.toUInt32 >>> ((6 : Int32) &&& 31).toUInt32).toInt32) w_TAKE_OUT w_TAKE_IN w_GRANT_OUT w_GRANT_IN T50.heap n0 f51 S_TAKE_OUT X_TAKE_OUT S_TAKE_IN X_TAKE_IN S_GRANT_OUT X_GRANT_OUT S_GRANT_IN X_GRANT_IN) hZ (wd hw 100 rfl) (wd hw 4 rfl) (by decide) (by decide)) (g := (mkF m 192 #[iv i0, .val (.long i1), .second, iv i2, iv (5 : Int32), rv va, rv xs_, rv a1, rv a2, .unset, .unset, .unset] [(.int ((i2.toUInt32 >>> ((6 : Int32) &&& 31).toUInt32).toInt32)), (.ref a2)])) rfl (by rw [hml]; rfl) (argsL := [(.int ((i2.toUInt32 >>> ((6 : Int32) &&& 31).toUInt32).toInt32))]) (rest := [(.ref a2)]) (lenOf pd__I_Lcom_example_rights_leak_checker_rightsleakchecker_takegrant_Bridge_Letter_ rfl) rfl (by show 2 * 0 + _ ≤ _; exact Nat.le_of_eq rfl) (hb hby at_192) rfl rfl (by decide) (by decide) (c' := 17) (s' := 67) rfl rfl
  obtain ⟨b52, rfl, Nq52, eq52, xq52_old_b⟩ := hQ52
  have N52 := Fr.app N50 Nq52
  refine own_st (T' := T52) (g' := (mkF m 195 #[iv i0, .val (.long i1), .second, iv i2, iv (5 : Int32), rv va, rv xs_, rv a1, rv a2, .unset, .unset, .unset] [(.ref b52), (.ref a2)])) st52 ?_
  clear st52
  have f53 := fq36_0.keep K50
  have f54 := fq36_1.keep K50 (ninS (Ne.symm n12) (ninS ne7 nin0))
  have f55 := fq36_2.keep K50 (ninS (Ne.symm n12) (ninS ne7 nin0))
  have f56 := fq36_3.keep K50 (ninS (Ne.symm n12) (ninS ne7 nin0))
  have f57 := fq36_4.keep K50 (ninS (Ne.symm ne11) (ninS (Ne.symm m12) nin0))
  obtain ⟨cq58, kq58, q58a, q58b, q58c⟩ := isOf hZ eq52 f53
  obtain ⟨_, T58, L58, X58, hQ58, st58⟩ := own_callV X52 hx (y := own_m13) (z := own_m13) hown (mvT hZ (wd hw 67 rfl)) (mvT hZ (wd hw 68 rfl)) (notFace_of_selects (args := #[]) (mvT hZ (wd hw 70 rfl))) (mvT hZ (wd hw 70 rfl)) (mvT hZ (wd hw 69 rfl)) (by decide) (backOf (W := 0) (rm_add_3 l Z a0 hw [] a2 b52 t2 ((mc2 + (1 : Int32)) + (1 : Int32)) kO (.ref f0_) (.ref b4) (.ref b30) T50.heap n0 f51 f53 f54 f55 f56 f57 f_a2 f_t2 OV FC (Ins.of_exa (xq52_old_b.ext f51.2) (wd hw 104 rfl))) hZ (wd hw 71 rfl) (wd hw 45 rfl) (by decide) (by decide)) q58a q58c (g := (mkF m 195 #[iv i0, .val (.long i1), .second, iv i2, iv (5 : Int32), rv va, rv xs_, rv a1, rv a2, .unset, .unset, .unset] [(.ref b52), (.ref a2)])) rfl (by rw [hml]; rfl) (argsL := [(.ref b52)]) (rest := []) (lenOf pd__Ljava_lang_Object__Z rfl) rfl (by show 2 * 0 + _ ≤ _; exact Nat.le_of_eq rfl) (hb hby at_195) rfl eq52 (by decide) (by decide) (c' := 17) (s' := 67) rfl rfl
  clear q58a q58b q58c kq58 cq58
  obtain ⟨rfl, Nq58, K58, fq58_0, fq58_1, fq58_2, fq58_3, fq58_4⟩ := hQ58
  have N58 := Fr.app N52 Nq58
  refine own_st (T' := T58) (g' := (mkF m 198 #[iv i0, .val (.long i1), .second, iv i2, iv (5 : Int32), rv va, rv xs_, rv a1, rv a2, .unset, .unset, .unset] [(.int (1 : Int32))])) st58 ?_
  clear st58
  refine own_st (T' := T58) (g' := (mkF m 199 #[iv i0, .val (.long i1), .second, iv i2, iv (5 : Int32), rv va, rv xs_, rv a1, rv a2, .unset, .unset, .unset] [])) (fun _ k_ => XS.pop X58.here hx rfl (hb hby at_198) rfl rfl k_) ?_
  have f59 := f51.keep K58 (allS f_a2 (allS f_t2 all0))
  obtain ⟨T60, h60, X60, e60, E60, A60, D60, -, st60⟩ := newO X58 hx hZ hown (wd hw 105 rfl) (wd hw 106 rfl) (wd hw 107 rfl) rfl (g := (mkF m 199 #[iv i0, .val (.long i1), .second, iv i2, iv (5 : Int32), rv va, rv xs_, rv a1, rv a2, .unset, .unset, .unset] [])) rfl (hb hby at_199) (by decide) (by decide)
  obtain ⟨b60, g60⟩ : ∃ z, z = T58.heap.size := ⟨_, rfl⟩
  rw [← g60] at A60 D60 st60
  have fr60 : n0 ≤ b60 := Nat.le_trans (own_z f59) (Nat.le_of_eq g60.symm)
  have F60_walk : Fld Z h60 b60 "com/example/rights_leak_checker/rightsleakchecker/takegrant/Bridge" "walk" "Ljava/util/List;" .null := D60 (Or.inr (wd hw 207 rfl)) (ty := (.object "java/util/List")) (by decide)
  have F60_letters : Fld Z h60 b60 "com/example/rights_leak_checker/rightsleakchecker/takegrant/Bridge" "letters" "Ljava/util/List;" .null := D60 (Or.inr (wd hw 213 rfl)) (ty := (.object "java/util/List")) (by decide)
  refine own_st (T' := T60) (g' := (mkF m 202 #[iv i0, .val (.long i1), .second, iv i2, iv (5 : Int32), rv va, rv xs_, rv a1, rv a2, .unset, .unset, .unset] [(.ref b60)])) st60 ?_
  clear st60
  refine own_st (T' := T60) (g' := (mkF m 203 #[iv i0, .val (.long i1), .second, iv i2, iv (5 : Int32), rv va, rv xs_, rv a1, rv a2, .unset, .unset, .unset] [(.ref b60), (.ref b60)])) (fun _ k_ => XS.dup X60.here hx rfl (hb hby at_202) rfl rfl k_) ?_
  refine own_st (T' := T60) (g' := (mkF m 205 #[iv i0, .val (.long i1), .second, iv i2, iv (5 : Int32), rv va, rv xs_, rv a1, rv a2, .unset, .unset, .unset] [(.ref a1), (.ref b60), (.ref b60)])) (fun _ k_ => XS.aload X60.here hx rfl (hb hby at_203) rfl rfl  k_) ?_
  refine own_st (T' := T60) (g' := (mkF m 207 #[iv i0, .val (.long i1), .second, iv i2, iv (5 : Int32), rv va, rv xs_, rv a1, rv a2, .unset, .unset, .unset] [(.ref a2), (.ref a1), (.ref b60), (.ref b60)])) (fun _ k_ => XS.aload X60.here hx rfl (hb hby at_205) rfl rfl  k_) ?_
  have ne61 : a2 ≠ b60 := Nat.ne_of_lt (Nat.lt_of_lt_of_le (Nat.lt_of_lt_of_le (Nat.lt_of_lt_of_le (Nat.lt_of_lt_of_le (Nat.lt_of_lt_of_le (Nat.lt_of_lt_of_le (Nat.lt_of_lt_of_le PB0.lt K2.1) K13.1) K28.1) K36.1) K50.1) K58.1) (Nat.le_of_eq g60.symm))
  have f62 := fq50_0.keep K58
  have f63 := f62.ext E60
  have f64 := fq50_1.keep K58 (ninS n12 (ninS ne11 nin0))
  have f65 := f64.ext E60
  have f66 := fq50_2.keep K58 (ninS n12 (ninS ne11 nin0))
  have f67 := f66.ext E60
  have f68 := fq50_4.keep K58 (ninS (Ne.symm ne7) (ninS m12 nin0))
  have f69 := f68.ext E60
  have f70 := fq58_0.ext E60
  have f71 := fq58_1.ext E60
  have f72 := fq58_2.ext E60
  have f73 := fq58_4.ext E60
  have f74 := E_s0_.keep K2
  have f75 := f74.keep K13
  have f76 := f75.keep K28
  have f77 := f76.keep K36
  have f78 := f77.keep K50
  have f79 := f78.keep K58
  have f80 := f79.ext E60
  have f81 := E_s1_.keep K2
  have f82 := f81.keep K13
  have f83 := f82.keep K28
  have f84 := f83.keep K36
  have f85 := f84.keep K50
  have f86 := f85.keep K58
  have f87 := f86.ext E60
  have f88 := E_s2_.keep K2
  have f89 := f88.keep K13
  have f90 := f89.keep K28
  have f91 := f90.keep K36
  have f92 := f91.keep K50
  have f93 := f92.keep K58
  have f94 := f93.ext E60
  have f95 := f26.keep K28
  have f96 := f95.keep K36
  have f97 := f96.keep K50
  have f98 := f97.keep K58
  have f99 := f98.ext E60
  have f100 := f48.keep K50
  have f101 := f100.keep K58
  have f102 := f101.ext E60
  have f103 := f59.ext E60
  obtain ⟨_, T104, L104, X104, hQ104, st104⟩ := own_callI X60 hx (y := own_m35) rfl hown (mvT hZ (wd hw 108 rfl)) (mvT hZ (wd hw 109 rfl)) (mvT hZ (wd hw 110 rfl)) (by decide) (backOf (W := 1) (rm_bri_5 l Z a0 hw [] b60 a1 t1 a2 t2 kO mir s0_ s1_ s2_ s3_ s4_ f0_ b4 b30 b52 h60 n0 f103 A60 F60_walk F60_letters fr60 (Ne.symm ne61) f63 f65 f67 f69 f70 f71 f72 f73 OV FC MIR (Ins.of_exa f80 (wd hw 97 rfl)) (Ins.of_exa f87 (wd hw 97 rfl)) (Ins.of_exa f94 (wd hw 97 rfl)) (Ins.of_exa f99 (wd hw 97 rfl)) (Ins.of_exa f102 (wd hw 97 rfl)) (Ins.of_exa (X_f0.ext f103.2) (wd hw 104 rfl)) (Ins.of_exa (xq4_old_b.ext f103.2) (wd hw 104 rfl)) (Ins.of_exa (xq30_old_b.ext f103.2) (wd hw 104 rfl)) (Ins.of_exa (xq52_old_b.ext f103.2) (wd hw 104 rfl))) hZ (wd hw 110 rfl) (wd hw 107 rfl) (by decide) (by decide)) (g := (mkF m 207 #[iv i0, .val (.long i1), .second, iv i2, iv (5 : Int32), rv va, rv xs_, rv a1, rv a2, .unset, .unset, .unset] [(.ref a2), (.ref a1), (.ref b60), (.ref b60)])) rfl (by rw [hml]; rfl) (a := b60) (argsL := [(.ref a1), (.ref a2)]) (rest := [(.ref b60)]) (lenOf pd__Ljava_util_List_Ljava_util_List__V rfl) rfl (by show 2 * 0 + _ ≤ _; exact Nat.le_of_eq rfl) (hb hby at_207) rfl e60 (by decide) (by decide) (c' := 24) (s' := 91) rfl rfl
  obtain ⟨x104, uu104, rfl, Nq104, K104, fq104_0, fq104_1, fq104_2, fq104_3, fq104_4, fq104_5, xq104_fresh_x, xq104_fresh_uu⟩ := hQ104
  have N104 := Fr.app N58 Nq104
  refine own_st (T' := T104) (g' := (mkF m 210 #[iv i0, .val (.long i1), .second, iv i2, iv (5 : Int32), rv va, rv xs_, rv a1, rv a2, .unset, .unset, .unset] [(.ref b60)])) st104 ?_
  clear st104
  refine own_st (T' := T104) (g' := (mkF m 212 #[iv i0, .val (.long i1), .second, iv i2, iv (5 : Int32), rv va, rv xs_, rv a1, rv a2, rv b60, .unset, .unset] [])) (fun _ k_ => XS.astore X104.here hx rfl (hb hby at_210) rfl rfl (l' := #[iv i0, .val (.long i1), .second, iv i2, iv (5 : Int32), rv va, rv xs_, rv a1, rv a2, rv b60, .unset, .unset]) rfl k_) ?_
  refine own_st (T' := T104) (g' := (mkF m 214 #[iv i0, .val (.long i1), .second, iv i2, iv (5 : Int32), rv va, rv xs_, rv a1, rv a2, rv b60, .unset, .unset] [(.ref b60)])) (fun _ k_ => XS.aload X104.here hx rfl (hb hby at_212) rfl rfl  k_) ?_
  have f105 := f102.keep K104
  have f106 := f103.keep K104 (allS fr60 all0)
  obtain ⟨cq107, kq107, q107a, q107b, q107c⟩ := isOf hZ rfl fq104_0
  obtain ⟨_, T107, L107, X107, hQ107, st107⟩ := own_callV X104 hx (y := own_m39) (z := own_m39) hown (mvT hZ (wd hw 214 rfl)) (mvT hZ (wd hw 215 rfl)) (notFace_of_selects (args := #[]) (mvT hZ (wd hw 217 rfl))) (mvT hZ (wd hw 217 rfl)) (mvT hZ (wd hw 216 rfl)) (by decide) (backOf (W := 0) (rm_to_5 l Z a0 hw [] b60 x104 uu104 kO s0_ s1_ s2_ s3_ s4_ T104.heap n0 f106 fq104_1 fq104_2 fq104_3 fq104_5 f105) hZ (wd hw 218 rfl) (wd hw 107 rfl) (by decide) (by decide)) q107a q107c (g := (mkF m 214 #[iv i0, .val (.long i1), .second, iv i2, iv (5 : Int32), rv va, rv xs_, rv a1, rv a2, rv b60, .unset, .unset] [(.ref b60)])) rfl (by rw [hml]; rfl) (argsL := []) (rest := []) (lenOf pd___Ljava_lang_String_ rfl) rfl (by show 2 * 0 + _ ≤ _; exact Nat.le_of_eq rfl) (hb hby at_214) rfl rfl (by decide) (by decide) (c' := 24) (s' := 91) rfl rfl
  clear q107a q107b q107c kq107 cq107
  obtain ⟨rfl, Nq107, eq107⟩ := hQ107
  have N107 := Fr.app N104 Nq107
  refine own_st (T' := T107) (g' := (mkF m 217 #[iv i0, .val (.long i1), .second, iv i2, iv (5 : Int32), rv va, rv xs_, rv a1, rv a2, rv b60, .unset, .unset] [(.ref s4_)])) st107 ?_
  clear st107
  refine own_st (T' := T107) (g' := (mkF m 219 #[iv i0, .val (.long i1), .second, iv i2, iv (5 : Int32), rv va, rv xs_, rv a1, rv a2, rv b60, rv s4_, .unset] [])) (fun _ k_ => XS.astore X107.here hx rfl (hb hby at_217) rfl rfl (l' := #[iv i0, .val (.long i1), .second, iv i2, iv (5 : Int32), rv va, rv xs_, rv a1, rv a2, rv b60, rv s4_, .unset]) rfl k_) ?_
  refine own_st (T' := T107) (g' := (mkF m 221 #[iv i0, .val (.long i1), .second, iv i2, iv (5 : Int32), rv va, rv xs_, rv a1, rv a2, rv b60, rv s4_, .unset] [(.ref a1)])) (fun _ k_ => XS.aload X107.here hx rfl (hb hby at_219) rfl rfl  k_) ?_
  refine own_st (T' := T107) (g' := (mkF m 223 #[iv i0, .val (.long i1), .second, iv i2, iv (5 : Int32), rv va, rv xs_, rv a1, rv a2, rv b60, rv s4_, .unset] [(.ref xs_), (.ref a1)])) (fun _ k_ => XS.aload X107.here hx rfl (hb hby at_221) rfl rfl  k_) ?_
  have f108 := f63.keep K104
  have ne109 : a1 ≠ b60 := Nat.ne_of_lt (Nat.lt_of_lt_of_le (Nat.lt_of_lt_of_le (Nat.lt_of_lt_of_le (Nat.lt_of_lt_of_le (Nat.lt_of_lt_of_le (Nat.lt_of_lt_of_le (Nat.lt_of_lt_of_le PA0.lt K2.1) K13.1) K28.1) K36.1) K50.1) K58.1) (Nat.le_of_eq g60.symm))
  have f110 := f65.keep K104 (ninS ne109 nin0)
  have f111 := f67.keep K104 (ninS ne109 nin0)
  have f112 := fq50_3.keep K58 (ninS n12 (ninS ne11 nin0))
  have f113 := f112.ext E60
  have f114 := f113.keep K104 (ninS ne109 nin0)
  have ne115 : t1 ≠ b60 := Nat.ne_of_lt (Nat.lt_of_lt_of_le (Nat.lt_of_lt_of_le (Nat.lt_of_lt_of_le (Nat.lt_of_lt_of_le (Nat.lt_of_lt_of_le (Nat.lt_of_lt_of_le (Nat.lt_of_lt_of_le V1.lt K2.1) K13.1) K28.1) K36.1) K50.1) K58.1) (Nat.le_of_eq g60.symm))
  have f116 := f69.keep K104 (ninS ne115 nin0)
  have f117 := E_xs_.keep K2
  have f118 := f117.keep K13
  have f119 := f118.keep K28
  have f120 := f119.keep K36
  have f121 := f120.keep K50
  have f122 := f121.keep K58
  have f123 := f122.ext E60
  have f124 := f123.keep K104
  obtain ⟨cq125, kq125, q125a, q125b, q125c⟩ := isOf hZ eq107 f108
  obtain ⟨_, T125, L125, X125, hQ125, st125⟩ := own_callV X107 hx (y := own_m13) (z := own_m13) hown (mvT hZ (wd hw 67 rfl)) (mvT hZ (wd hw 68 rfl)) (notFace_of_selects (args := #[]) (mvT hZ (wd hw 70 rfl))) (mvT hZ (wd hw 70 rfl)) (mvT hZ (wd hw 69 rfl)) (by decide) (backOf (W := 0) (rm_add_5 l Z a0 hw [] a1 xs_ t1 (((mc1 + (1 : Int32)) + (1 : Int32)) + (1 : Int32)) kO (.ref s0_) (.ref s1_) (.ref s2_) (.ref s3_) (.ref s4_) T104.heap n0 f106 f108 f110 f111 f114 f116 f_a1 f_t1 OV FC (Ins.of_exa f124 (wd hw 97 rfl))) hZ (wd hw 71 rfl) (wd hw 45 rfl) (by decide) (by decide)) q125a q125c (g := (mkF m 223 #[iv i0, .val (.long i1), .second, iv i2, iv (5 : Int32), rv va, rv xs_, rv a1, rv a2, rv b60, rv s4_, .unset] [(.ref xs_), (.ref a1)])) rfl (by rw [hml]; rfl) (argsL := [(.ref xs_)]) (rest := []) (lenOf pd__Ljava_lang_Object__Z rfl) rfl (by show 2 * 0 + _ ≤ _; exact Nat.le_of_eq rfl) (hb hby at_223) rfl eq107 (by decide) (by decide) (c' := 24) (s' := 91) rfl rfl
  clear q125a q125b q125c kq125 cq125
  obtain ⟨rfl, Nq125, K125, fq125_0, fq125_1, fq125_2, fq125_3, fq125_4⟩ := hQ125
  have N125 := Fr.app N107 Nq125
  refine own_st (T' := T125) (g' := (mkF m 226 #[iv i0, .val (.long i1), .second, iv i2, iv (5 : Int32), rv va, rv xs_, rv a1, rv a2, rv b60, rv s4_, .unset] [(.int (1 : Int32))])) st125 ?_
  clear st125
  refine own_st (T' := T125) (g' := (mkF m 227 #[iv i0, .val (.long i1), .second, iv i2, iv (5 : Int32), rv va, rv xs_, rv a1, rv a2, rv b60, rv s4_, .unset] [])) (fun _ k_ => XS.pop X125.here hx rfl (hb hby at_226) rfl rfl k_) ?_
  refine own_st (T' := T125) (g' := (mkF m 229 #[iv i0, .val (.long i1), .second, iv i2, iv (5 : Int32), rv va, rv xs_, rv a1, rv a2, rv b60, rv s4_, .unset] [(.ref b60)])) (fun _ k_ => XS.aload X125.here hx rfl (hb hby at_227) rfl rfl  k_) ?_
  have f126 := fq104_1.keep K125 (ninS (Ne.symm ne109) (ninS (Ne.symm ne115) nin0))
  have f127 := fq104_2.keep K125
  have ne128 : t1 ≠ x104 := Nat.ne_of_lt (Nat.lt_of_lt_of_le (Nat.lt_of_lt_of_le (Nat.lt_of_lt_of_le (Nat.lt_of_lt_of_le (Nat.lt_of_lt_of_le (Nat.lt_of_lt_of_le (Nat.lt_of_lt_of_le (Nat.lt_of_lt_of_le V1.lt K2.1) K13.1) K28.1) K36.1) K50.1) K58.1) E60.1) xq104_fresh_x)
  have ne129 : a1 ≠ x104 := Nat.ne_of_lt (Nat.lt_of_lt_of_le (Nat.lt_of_lt_of_le (Nat.lt_of_lt_of_le (Nat.lt_of_lt_of_le (Nat.lt_of_lt_of_le (Nat.lt_of_lt_of_le (Nat.lt_of_lt_of_le (Nat.lt_of_lt_of_le PA0.lt K2.1) K13.1) K28.1) K36.1) K50.1) K58.1) E60.1) xq104_fresh_x)
  have f130 := fq104_3.keep K125 (ninS (Ne.symm ne129) (ninS (Ne.symm ne128) nin0))
  have ne131 : t1 ≠ uu104 := Nat.ne_of_lt (Nat.lt_of_lt_of_le (Nat.lt_of_lt_of_le (Nat.lt_of_lt_of_le (Nat.lt_of_lt_of_le (Nat.lt_of_lt_of_le (Nat.lt_of_lt_of_le (Nat.lt_of_lt_of_le (Nat.lt_of_lt_of_le V1.lt K2.1) K13.1) K28.1) K36.1) K50.1) K58.1) E60.1) xq104_fresh_uu)
  have ne132 : a1 ≠ uu104 := Nat.ne_of_lt (Nat.lt_of_lt_of_le (Nat.lt_of_lt_of_le (Nat.lt_of_lt_of_le (Nat.lt_of_lt_of_le (Nat.lt_of_lt_of_le (Nat.lt_of_lt_of_le (Nat.lt_of_lt_of_le (Nat.lt_of_lt_of_le PA0.lt K2.1) K13.1) K28.1) K36.1) K50.1) K58.1) E60.1) xq104_fresh_uu)
  have f133 := fq104_5.keep K125 (ninS (Ne.symm ne132) (ninS (Ne.symm ne131) nin0))
  have f134 := f105.keep K125
  have f135 := f106.keep K125 (allS f_a1 (allS f_t1 all0))
  have f137 := fq104_0.keep K125
  obtain ⟨cq136, kq136, q136a, q136b, q136c⟩ := isOf hZ rfl f137
  obtain ⟨_, T136, L136, X136, hQ136, st136⟩ := own_callV X125 hx (y := own_m39) (z := own_m39) hown (mvT hZ (wd hw 214 rfl)) (mvT hZ (wd hw 215 rfl)) (notFace_of_selects (args := #[]) (mvT hZ (wd hw 217 rfl))) (mvT hZ (wd hw 217 rfl)) (mvT hZ (wd hw 216 rfl)) (by decide) (backOf (W := 0) (rm_to_5 l Z a0 hw [] b60 x104 uu104 kO s0_ s1_ s2_ s3_ s4_ T125.heap n0 f135 f126 f127 f130 f133 f134) hZ (wd hw 218 rfl) (wd hw 107 rfl) (by decide) (by decide)) q136a q136c (g := (mkF m 229 #[iv i0, .val (.long i1), .second, iv i2, iv (5 : Int32), rv va, rv xs_, rv a1, rv a2, rv b60, rv s4_, .unset] [(.ref b60)])) rfl (by rw [hml]; rfl) (argsL := []) (rest := []) (lenOf pd___Ljava_lang_String_ rfl) rfl (by show 2 * 0 + _ ≤ _; exact Nat.le_of_eq rfl) (hb hby at_229) rfl rfl (by decide) (by decide) (c' := 24) (s' := 91) rfl rfl
  clear q136a q136b q136c kq136 cq136
  obtain ⟨rfl, Nq136, eq136⟩ := hQ136
  have N136 := Fr.app N125 Nq136
  refine own_st (T' := T136) (g' := (mkF m 232 #[iv i0, .val (.long i1), .second, iv i2, iv (5 : Int32), rv va, rv xs_, rv a1, rv a2, rv b60, rv s4_, .unset] [(.ref s4_)])) st136 ?_
  clear st136
  refine own_st (T' := T136) (g' := (mkF m 234 #[iv i0, .val (.long i1), .second, iv i2, iv (5 : Int32), rv va, rv xs_, rv a1, rv a2, rv b60, rv s4_, rv s4_] [])) (fun _ k_ => XS.astore X136.here hx rfl (hb hby at_232) rfl rfl (l' := #[iv i0, .val (.long i1), .second, iv i2, iv (5 : Int32), rv va, rv xs_, rv a1, rv a2, rv b60, rv s4_, rv s4_]) rfl k_) ?_
  refine own_st (T' := T136) (g' := (mkF m 236 #[iv i0, .val (.long i1), .second, iv i2, iv (5 : Int32), rv va, rv xs_, rv a1, rv a2, rv b60, rv s4_, rv s4_] [(.ref s4_)])) (fun _ k_ => XS.aload X136.here hx rfl (hb hby at_234) rfl rfl  k_) ?_
  refine own_st (T' := T136) (g' := (mkF m 238 #[iv i0, .val (.long i1), .second, iv i2, iv (5 : Int32), rv va, rv xs_, rv a1, rv a2, rv b60, rv s4_, rv s4_] [(.ref va), (.ref s4_)])) (fun _ k_ => XS.aload X136.here hx rfl (hb hby at_236) rfl rfl  k_) ?_
  refine own_st (T' := T136) (g' := (mkF m 240 #[iv i0, .val (.long i1), .second, iv i2, iv (5 : Int32), rv va, rv xs_, rv a1, rv a2, rv b60, rv s4_, rv s4_] [(.int (5 : Int32)), (.ref va), (.ref s4_)])) (fun _ k_ => XS.iload X136.here hx rfl (hb hby at_238) rfl  k_) ?_
  refine own_st (T' := T136) (g' := (mkF m 241 #[iv i0, .val (.long i1), .second, iv i2, iv (5 : Int32), rv va, rv xs_, rv a1, rv a2, rv b60, rv s4_, rv s4_] [(.int (1 : Int32)), (.int (5 : Int32)), (.ref va), (.ref s4_)])) (fun _ k_ => XS.iconst X136.here hx rfl (hb hby at_240) k_) ?_
  refine own_st (T' := T136) (g' := (mkF m 242 #[iv i0, .val (.long i1), .second, iv i2, iv (5 : Int32), rv va, rv xs_, rv a1, rv a2, rv b60, rv s4_, rv s4_] [(.int (4 : Int32)), (.ref va), (.ref s4_)])) (fun _ k_ => XS.isub X136.here hx rfl (hb hby at_241) rfl k_) ?_
  have f138 := f38.keep K50 (ninS (Ne.symm ne14) (ninS nv1 nin0))
  have f139 := f138.keep K58 (ninS (Ne.symm ne17) (ninS nv2 nin0))
  have f140 := f139.ext E60
  have ne141 : va ≠ b60 := Nat.ne_of_lt (Nat.lt_of_lt_of_le (Nat.lt_of_lt_of_le (Nat.lt_of_lt_of_le (Nat.lt_of_lt_of_le (Nat.lt_of_lt_of_le (Nat.lt_of_lt_of_le (Nat.lt_of_lt_of_le VA.lt K2.1) K13.1) K28.1) K36.1) K50.1) K58.1) (Nat.le_of_eq g60.symm))
  have f142 := f140.keep K104 (ninS ne141 nin0)
  have f143 := f142.keep K125 (ninS (Ne.symm ne14) (ninS nv1 nin0))
  obtain ⟨cl144, Ar144, q144, S144, N144, H144, G144⟩ := id f143
  have hin144 : ¬ ((4 : Int32) < 0 ∨ cl144.slots.size ≤ ((4 : Int32)).toNatClampNeg) := inb_of S144 ⟨by decide, by decide⟩
  refine own_st (T' := T136) (g' := (mkF m 243 #[iv i0, .val (.long i1), .second, iv i2, iv (5 : Int32), rv va, rv xs_, rv a1, rv a2, rv b60, rv s4_, rv s4_] [(.ref s4_), (.ref s4_)])) (X136.aaload hx (j := (4 : Int32)) (v := (.ref s4_)) (by rw [eq136]; exact Ar144.1) (State.isArrayOf_alike hZ.alike Ar144.2.1) rfl Ar144.2.2 hin144 (H144.at hin144 rfl) (g := (mkF m 242 #[iv i0, .val (.long i1), .second, iv i2, iv (5 : Int32), rv va, rv xs_, rv a1, rv a2, rv b60, rv s4_, rv s4_] [(.int (4 : Int32)), (.ref va), (.ref s4_)])) rfl rfl (hb hby at_242)) ?_
  clear hin144 G144 H144 N144 S144 q144 Ar144 cl144
  obtain ⟨cq145, kq145, q145a, q145b, q145c⟩ := isOf hZ eq136 f134
  obtain ⟨_, T145, L145, X145, hQ145, st145⟩ := own_callV X136 hx (y := own_m42) (z := own_m42) hown (mvT hZ (wd hw 234 rfl)) (mvT hZ (wd hw 235 rfl)) (notFace_of_selects (args := #[]) (mvT hZ (wd hw 237 rfl))) (mvT hZ (wd hw 237 rfl)) (mvT hZ (wd hw 236 rfl)) (by decide) (backOf (W := 0) (rm_eqs l Z a0 hw [] s4_ T125.heap n0 f135) hZ (wd hw 238 rfl) (wd hw 9 rfl) (by decide) (by decide)) q145a q145c (g := (mkF m 243 #[iv i0, .val (.long i1), .second, iv i2, iv (5 : Int32), rv va, rv xs_, rv a1, rv a2, rv b60, rv s4_, rv s4_] [(.ref s4_), (.ref s4_)])) rfl (by rw [hml]; rfl) (argsL := [(.ref s4_)]) (rest := []) (lenOf pd__Ljava_lang_Object__Z rfl) rfl (by show 2 * 0 + _ ≤ _; exact Nat.le_of_eq rfl) (hb hby at_243) rfl eq136 (by decide) (by decide) (c' := 24) (s' := 91) rfl rfl
  clear q145a q145b q145c kq145 cq145
  obtain ⟨rfl, Nq145, eq145⟩ := hQ145
  have N145 := Fr.app N136 Nq145
  refine own_st (T' := T145) (g' := (mkF m 246 #[iv i0, .val (.long i1), .second, iv i2, iv (5 : Int32), rv va, rv xs_, rv a1, rv a2, rv b60, rv s4_, rv s4_] [(.int (1 : Int32))])) st145 ?_
  clear st145
  refine own_st (T' := T145) (g' := (mkF m 249 #[iv i0, .val (.long i1), .second, iv i2, iv (5 : Int32), rv va, rv xs_, rv a1, rv a2, rv b60, rv s4_, rv s4_] [])) (fun _ k_ => XS.ifNo X145.here hx rfl (hb hby at_246) rfl ((if0 _ _).trans (feq (by decide : ¬ ((1 : Int32) = (0 : Int32)))).1) k_) ?_
  refine own_st (T' := T145) (g' := (mkF m 251 #[iv i0, .val (.long i1), .second, iv i2, iv (5 : Int32), rv va, rv xs_, rv a1, rv a2, rv b60, rv s4_, rv s4_] [(.ref s4_)])) (fun _ k_ => XS.aload X145.here hx rfl (hb hby at_249) rfl rfl  k_) ?_
  refine own_st (T' := T145) (g' := (mkF m 253 #[iv i0, .val (.long i1), .second, iv i2, iv (5 : Int32), rv va, rv xs_, rv a1, rv a2, rv b60, rv s4_, rv s4_] [(.ref va), (.ref s4_)])) (fun _ k_ => XS.aload X145.here hx rfl (hb hby at_251) rfl rfl  k_) ?_
  refine own_st (T' := T145) (g' := (mkF m 255 #[iv i0, .val (.long i1), .second, iv i2, iv (5 : Int32), rv va, rv xs_, rv a1, rv a2, rv b60, rv s4_, rv s4_] [(.int (5 : Int32)), (.ref va), (.ref s4_)])) (fun _ k_ => XS.iload X145.here hx rfl (hb hby at_253) rfl  k_) ?_
  refine own_st (T' := T145) (g' := (mkF m 256 #[iv i0, .val (.long i1), .second, iv i2, iv (5 : Int32), rv va, rv xs_, rv a1, rv a2, rv b60, rv s4_, rv s4_] [(.int (1 : Int32)), (.int (5 : Int32)), (.ref va), (.ref s4_)])) (fun _ k_ => XS.iconst X145.here hx rfl (hb hby at_255) k_) ?_
  refine own_st (T' := T145) (g' := (mkF m 257 #[iv i0, .val (.long i1), .second, iv i2, iv (5 : Int32), rv va, rv xs_, rv a1, rv a2, rv b60, rv s4_, rv s4_] [(.int (4 : Int32)), (.ref va), (.ref s4_)])) (fun _ k_ => XS.isub X145.here hx rfl (hb hby at_256) rfl k_) ?_
  obtain ⟨cl146, Ar146, q146, S146, N146, H146, G146⟩ := id f143
  have hin146 : ¬ ((4 : Int32) < 0 ∨ cl146.slots.size ≤ ((4 : Int32)).toNatClampNeg) := inb_of S146 ⟨by decide, by decide⟩
  refine own_st (T' := T145) (g' := (mkF m 258 #[iv i0, .val (.long i1), .second, iv i2, iv (5 : Int32), rv va, rv xs_, rv a1, rv a2, rv b60, rv s4_, rv s4_] [(.ref s4_), (.ref s4_)])) (X145.aaload hx (j := (4 : Int32)) (v := (.ref s4_)) (by rw [eq145]; exact Ar146.1) (State.isArrayOf_alike hZ.alike Ar146.2.1) rfl Ar146.2.2 hin146 (H146.at hin146 rfl) (g := (mkF m 257 #[iv i0, .val (.long i1), .second, iv i2, iv (5 : Int32), rv va, rv xs_, rv a1, rv a2, rv b60, rv s4_, rv s4_] [(.int (4 : Int32)), (.ref va), (.ref s4_)])) rfl rfl (hb hby at_257)) ?_
  clear hin146 G146 H146 N146 S146 q146 Ar146 cl146
  obtain ⟨cq147, kq147, q147a, q147b, q147c⟩ := isOf hZ eq145 f134
  obtain ⟨_, T147, L147, X147, hQ147, st147⟩ := own_callV X145 hx (y := own_m42) (z := own_m42) hown (mvT hZ (wd hw 234 rfl)) (mvT hZ (wd hw 235 rfl)) (notFace_of_selects (args := #[]) (mvT hZ (wd hw 237 rfl))) (mvT hZ (wd hw 237 rfl)) (mvT hZ (wd hw 236 rfl)) (by decide) (backOf (W := 0) (rm_eqs l Z a0 hw [] s4_ T125.heap n0 f135) hZ (wd hw 238 rfl) (wd hw 9 rfl) (by decide) (by decide)) q147a q147c (g := (mkF m 258 #[iv i0, .val (.long i1), .second, iv i2, iv (5 : Int32), rv va, rv xs_, rv a1, rv a2, rv b60, rv s4_, rv s4_] [(.ref s4_), (.ref s4_)])) rfl (by rw [hml]; rfl) (argsL := [(.ref s4_)]) (rest := []) (lenOf pd__Ljava_lang_Object__Z rfl) rfl (by show 2 * 0 + _ ≤ _; exact Nat.le_of_eq rfl) (hb hby at_258) rfl eq145 (by decide) (by decide) (c' := 24) (s' := 91) rfl rfl
  clear q147a q147b q147c kq147 cq147
  obtain ⟨rfl, Nq147, eq147⟩ := hQ147
  have N147 := Fr.app N145 Nq147
  refine own_st (T' := T147) (g' := (mkF m 261 #[iv i0, .val (.long i1), .second, iv i2, iv (5 : Int32), rv va, rv xs_, rv a1, rv a2, rv b60, rv s4_, rv s4_] [(.int (1 : Int32))])) st147 ?_
  clear st147
  refine own_st (T' := T147) (g' := (mkF m 264 #[iv i0, .val (.long i1), .second, iv i2, iv (5 : Int32), rv va, rv xs_, rv a1, rv a2, rv b60, rv s4_, rv s4_] [])) (fun _ k_ => XS.ifNo X147.here hx rfl (hb hby at_261) rfl ((if0 _ _).trans (feq (by decide : ¬ ((1 : Int32) = (0 : Int32)))).1) k_) ?_
  refine own_st (T' := T147) (g' := (mkF m 265 #[iv i0, .val (.long i1), .second, iv i2, iv (5 : Int32), rv va, rv xs_, rv a1, rv a2, rv b60, rv s4_, rv s4_] [(.int (1 : Int32))])) (fun _ k_ => XS.iconst X147.here hx rfl (hb hby at_264) k_) ?_
  refine own_st (T' := T147) (g' := (mkF m 269 #[iv i0, .val (.long i1), .second, iv i2, iv (5 : Int32), rv va, rv xs_, rv a1, rv a2, rv b60, rv s4_, rv s4_] [(.int (1 : Int32))])) (fun _ k_ => XS.goto X147.here hx rfl (pc0 := 265) (pc' := 269) rfl (hb hby at_265) (by decide) (by decide) k_) ?_
  exact own_retN X147 hx (t := .boolean) hret (by simp) hlk (hb hby at_269) (by decide) (by decide) ⟨rfl, N147⟩
theorem own_and3 (x : Int32) : x &&& 3 = 0 ∨ x &&& 3 = 1 ∨ x &&& 3 = 2 ∨ x &&& 3 = 3 := by
  have e := c_mask x 3 2 (by decide) (by decide)
  have z : ((2 ^ 2 : Nat) : Int) = 4 := rfl
  have h : (x &&& 3).toInt = 0 ∨ (x &&& 3).toInt = 1 ∨ (x &&& 3).toInt = 2 ∨ (x &&& 3).toInt = 3 := by omega
  rcases h with h | h | h | h
  · exact Or.inl (own_eqI h)
  · exact Or.inr (Or.inl (own_eqI h))
  · exact Or.inr (Or.inr (Or.inl (own_eqI h)))
  · exact Or.inr (Or.inr (Or.inr (own_eqI h)))
theorem pd__JI_Ljava_lang_String_ : parseMethodDescriptor "(JI)Ljava/lang/String;" = some ⟨[.long, .int], some (.object "java/lang/String")⟩ := by decide +kernel
theorem ef_0 (m : MethodId) (x0 : Int32) (x1 : Int64) (x2 : Int32) : entryFrame m #[(.int x0), (.long x1), (.int x2)] maxLocals = mkF m 0 #[iv x0, .val (.long x1), .second, iv x2, .unset, .unset, .unset, .unset, .unset, .unset, .unset, .unset] [] := by first | (simp [entryFrame, mkF, argsToLocals, Value.category, maxLocals]; done) | rfl
set_option maxRecDepth 65536 in
set_option maxHeartbeats 40000000 in
theorem rm_0 (l : Launch) (Z : State) (a0 : Array Value) (hw : ∀ d ∈ tables_1, d.before a0 Z = true) (ws : List Jvm.Cond) (i0 : Int32) (i1 : Int64) (i2 : Int32) (dA : Addr) (clD : Cell) (kO : ClassId) (mir : Addr) (em : Addr) (w_TAKE_OUT : Addr) (w_TAKE_IN : Addr) (w_GRANT_OUT : Addr) (w_GRANT_IN : Addr) (cz : Int32) (h0 : Heap) (n0 : Nat) (O0 : Old Z n0 h0) (SC : Sta Z Z.heap "java/lang/String" "COMPACT_STRINGS" "Z" (.int cz)) (hcz : ¬ cz = (0 : Int32)) (SA : Sta Z Z.heap "java/lang/StringUTF16" "$assertionsDisabled" "Z" (.int (1 : Int32))) (SHI : Sta Z Z.heap "java/lang/StringUTF16" "HI_BYTE_SHIFT" "I" (.int (0 : Int32))) (SLO : Sta Z Z.heap "java/lang/StringUTF16" "LO_BYTE_SHIFT" "I" (.int (8 : Int32))) (SDe : Sta Z Z.heap "java/util/ArrayList" "DEFAULTCAPACITY_EMPTY_ELEMENTDATA" "[Ljava/lang/Object;" (.ref dA)) (AD : Arr Z Z.heap dA clD (.object "java/lang/Object")) (LD : clD.slots.size.toInt32 = (0 : Int32)) (OV : Ovr Z kO "java/lang/Object") (FC : Z.vm.findClass "[Ljava/lang/Object;" = some kO) (MIR : own_Mir Z "[Ljava/lang/Object;" mir) (SEm : Sta Z Z.heap "java/util/ImmutableCollections" "EMPTY" "Ljava/lang/Object;" (.ref em)) (X_em : Exa Z Z.heap em "java/lang/Object") (S_TAKE_OUT : Sta Z Z.heap "com/example/rights_leak_checker/rightsleakchecker/takegrant/Bridge$Letter" "TAKE_OUT" "Lcom/example/rights_leak_checker/rightsleakchecker/takegrant/Bridge$Letter;" (.ref w_TAKE_OUT)) (X_TAKE_OUT : Exa Z Z.heap w_TAKE_OUT "com/example/rights_leak_checker/rightsleakchecker/takegrant/Bridge$Letter") (S_TAKE_IN : Sta Z Z.heap "com/example/rights_leak_checker/rightsleakchecker/takegrant/Bridge$Letter" "TAKE_IN" "Lcom/example/rights_leak_checker/rightsleakchecker/takegrant/Bridge$Letter;" (.ref w_TAKE_IN)) (X_TAKE_IN : Exa Z Z.heap w_TAKE_IN "com/example/rights_leak_checker/rightsleakchecker/takegrant/Bridge$Letter") (S_GRANT_OUT : Sta Z Z.heap "com/example/rights_leak_checker/rightsleakchecker/takegrant/Bridge$Letter" "GRANT_OUT" "Lcom/example/rights_leak_checker/rightsleakchecker/takegrant/Bridge$Letter;" (.ref w_GRANT_OUT)) (X_GRANT_OUT : Exa Z Z.heap w_GRANT_OUT "com/example/rights_leak_checker/rightsleakchecker/takegrant/Bridge$Letter") (S_GRANT_IN : Sta Z Z.heap "com/example/rights_leak_checker/rightsleakchecker/takegrant/Bridge$Letter" "GRANT_IN" "Lcom/example/rights_leak_checker/rightsleakchecker/takegrant/Bridge$Letter;" (.ref w_GRANT_IN)) (X_GRANT_IN : Exa Z Z.heap w_GRANT_IN "com/example/rights_leak_checker/rightsleakchecker/takegrant/Bridge$Letter") :
    own_MF l x (Jvm.Cond.code x code maxLocals ret :: ws) room_1 #[(.int i0), (.long i1), (.int i2)] Z h0 (own_L n0) := by
  refine own_met (own := "com/example/rights_leak_checker/rightsleakchecker/takegrant/BridgeToPinLaw") (nme := "law") rfl rfl (plainFor_of_name pn_14) ?_
  intro p e s m below meth c s₁ hx hby hml hown hnm X0 e0 hret hlk hZ
  have N0 := Fr.nil n0
  rw [ef_0 m i0 i1 i2]
  refine own_st (T' := s₁) (g' := (mkF m 1 #[iv i0, .val (.long i1), .second, iv i2, .unset, .unset, .unset, .unset, .unset, .unset, .unset, .unset] [(.int (2 : Int32))])) (fun _ k_ => XS.iconst X0.here hx rfl (hb hby at_0) k_) ?_
  refine own_st (T' := s₁) (g' := (mkF m 2 #[iv i0, .val (.long i1), .second, iv i2, .unset, .unset, .unset, .unset, .unset, .unset, .unset, .unset] [(.int i0), (.int (2 : Int32))])) (fun _ k_ => XS.iloadN X0.here hx rfl (hb hby at_1) rfl  k_) ?_
  refine own_st (T' := s₁) (g' := (mkF m 3 #[iv i0, .val (.long i1), .second, iv i2, .unset, .unset, .unset, .unset, .unset, .unset, .unset, .unset] [(.int (3 : Int32)), (.int i0), (.int (2 : Int32))])) (fun _ k_ => XS.iconst X0.here hx rfl (hb hby at_2) k_) ?_
  refine own_st (T' := s₁) (g' := (mkF m 4 #[iv i0, .val (.long i1), .second, iv i2, .unset, .unset, .unset, .unset, .unset, .unset, .unset, .unset] [(.int (i0 &&& (3 : Int32))), (.int (2 : Int32))])) (fun _ k_ => XS.iand X0.here hx rfl (hb hby at_3) rfl k_) ?_
  refine own_st (T' := s₁) (g' := (mkF m 5 #[iv i0, .val (.long i1), .second, iv i2, .unset, .unset, .unset, .unset, .unset, .unset, .unset, .unset] [(.int ((2 : Int32) + (i0 &&& (3 : Int32))))])) (fun _ k_ => XS.iadd X0.here hx rfl (hb hby at_4) rfl k_) ?_
  refine own_st (T' := s₁) (g' := (mkF m 7 #[iv i0, .val (.long i1), .second, iv i2, iv ((2 : Int32) + (i0 &&& (3 : Int32))), .unset, .unset, .unset, .unset, .unset, .unset, .unset] [])) (fun _ k_ => XS.istore X0.here hx rfl (hb hby at_5) rfl (l' := #[iv i0, .val (.long i1), .second, iv i2, iv ((2 : Int32) + (i0 &&& (3 : Int32))), .unset, .unset, .unset, .unset, .unset, .unset, .unset]) rfl k_) ?_
  refine own_st (T' := s₁) (g' := (mkF m 8 #[iv i0, .val (.long i1), .second, iv i2, iv ((2 : Int32) + (i0 &&& (3 : Int32))), .unset, .unset, .unset, .unset, .unset, .unset, .unset] [(.int (5 : Int32))])) (fun _ k_ => XS.iconst X0.here hx rfl (hb hby at_7) k_) ?_
  obtain ⟨T1, h1, k1, X1, e1, E1, A1, O1, st1⟩ := newR X0 hx hZ hown (wd hw 0 rfl) (wd hw 1 rfl) e0 (g := (mkF m 8 #[iv i0, .val (.long i1), .second, iv i2, iv ((2 : Int32) + (i0 &&& (3 : Int32))), .unset, .unset, .unset, .unset, .unset, .unset, .unset] [(.int (5 : Int32))])) rfl (hb hby at_8) rfl (by decide) (cap := 5) (by decide) (by decide) (by decide) (by decide)
  obtain ⟨b1, g1⟩ : ∃ z, z = h0.size := ⟨_, rfl⟩
  rw [← g1] at A1 st1
  have fr1 : n0 ≤ b1 := Nat.le_trans (own_z O0) (Nat.le_of_eq g1.symm)
  have V1 : Arv Z h1 b1 k1 (.object "java/lang/String") (5 : Int32) [.null, .null, .null, .null, .null] .null := (Arv.new A1 (by decide)).pad (pad_rep [] .null 5)
  refine own_st (T' := T1) (g' := (mkF m 11 #[iv i0, .val (.long i1), .second, iv i2, iv ((2 : Int32) + (i0 &&& (3 : Int32))), .unset, .unset, .unset, .unset, .unset, .unset, .unset] [(.ref b1)])) st1 ?_
  clear st1
  refine own_st (T' := T1) (g' := (mkF m 13 #[iv i0, .val (.long i1), .second, iv i2, iv ((2 : Int32) + (i0 &&& (3 : Int32))), rv b1, .unset, .unset, .unset, .unset, .unset, .unset] [])) (fun _ k_ => XS.astore X1.here hx rfl (hb hby at_11) rfl rfl (l' := #[iv i0, .val (.long i1), .second, iv i2, iv ((2 : Int32) + (i0 &&& (3 : Int32))), rv b1, .unset, .unset, .unset, .unset, .unset, .unset]) rfl k_) ?_
  refine own_st (T' := T1) (g' := (mkF m 15 #[iv i0, .val (.long i1), .second, iv i2, iv ((2 : Int32) + (i0 &&& (3 : Int32))), rv b1, .unset, .unset, .unset, .unset, .unset, .unset] [(.ref b1)])) (fun _ k_ => XS.aload X1.here hx rfl (hb hby at_13) rfl rfl  k_) ?_
  refine own_st (T' := T1) (g' := (mkF m 16 #[iv i0, .val (.long i1), .second, iv i2, iv ((2 : Int32) + (i0 &&& (3 : Int32))), rv b1, .unset, .unset, .unset, .unset, .unset, .unset] [(.int (0 : Int32)), (.ref b1)])) (fun _ k_ => XS.iconst X1.here hx rfl (hb hby at_15) k_) ?_
  refine own_st (T' := T1) (g' := (mkF m 17 #[iv i0, .val (.long i1), .second, iv i2, iv ((2 : Int32) + (i0 &&& (3 : Int32))), rv b1, .unset, .unset, .unset, .unset, .unset, .unset] [(.long i1), (.int (0 : Int32)), (.ref b1)])) (fun _ k_ => XS.lloadN X1.here hx rfl (hb hby at_16) rfl  k_) ?_
  refine own_st (T' := T1) (g' := (mkF m 18 #[iv i0, .val (.long i1), .second, iv i2, iv ((2 : Int32) + (i0 &&& (3 : Int32))), rv b1, .unset, .unset, .unset, .unset, .unset, .unset] [(.int (0 : Int32)), (.long i1), (.int (0 : Int32)), (.ref b1)])) (fun _ k_ => XS.iconst X1.here hx rfl (hb hby at_17) k_) ?_
  have f2 := O0.ext E1
  obtain ⟨_, T3, L3, X3, hQ3, st3⟩ := own_callS X1 hx (y := own_m32) hown (mvT hZ (wd hw 2 rfl)) (mvT hZ (wd hw 3 rfl)) (mvT hZ (wd hw 4 rfl)) (mvT hZ (wd hw 5 rfl)) (by decide) (backOf (W := 2) (rm_vtx l Z a0 hw [] i1 (0 : Int32) cz h1 n0 f2 SC hcz SA SHI SLO) hZ (wd hw 5 rfl) (wd hw 4 rfl) (by decide) (by decide)) (g := (mkF m 18 #[iv i0, .val (.long i1), .second, iv i2, iv ((2 : Int32) + (i0 &&& (3 : Int32))), rv b1, .unset, .unset, .unset, .unset, .unset, .unset] [(.int (0 : Int32)), (.long i1), (.int (0 : Int32)), (.ref b1)])) rfl (by rw [hml]; rfl) (argsL := [(.long i1), (.int (0 : Int32))]) (rest := [(.int (0 : Int32)), (.ref b1)]) (lenOf pd__JI_Ljava_lang_String_ rfl) rfl (by show 2 * 0 + _ ≤ _; exact Nat.le_of_eq rfl) (hb hby at_18) rfl e1 (by decide) (by decide) (c' := 3) (s' := 11) rfl rfl
  obtain ⟨b3, rfl, Nq3, K3, fq3_0, xq3_fresh_b⟩ := hQ3
  have N3 := Fr.app N0 Nq3
  refine own_st (T' := T3) (g' := (mkF m 21 #[iv i0, .val (.long i1), .second, iv i2, iv ((2 : Int32) + (i0 &&& (3 : Int32))), rv b1, .unset, .unset, .unset, .unset, .unset, .unset] [(.ref b3), (.int (0 : Int32)), (.ref b1)])) st3 ?_
  clear st3
  have f4 := V1.keep K3 nin0
  obtain ⟨cl5, Ar5, q5, S5, N5, H5, G5⟩ := id f4
  have hin5 : ¬ ((0 : Int32) < 0 ∨ cl5.slots.size ≤ ((0 : Int32)).toNatClampNeg) := inb_of S5 ⟨by decide, by decide⟩
  obtain ⟨T6, h6, X6, e6, W6, st6⟩ := stR X3 hx hZ rfl Ar5 (j := (0 : Int32)) hin5 rfl (Sto.of Ar5 (q5 ▸ O1) (Ins.self fq3_0)) (g := (mkF m 21 #[iv i0, .val (.long i1), .second, iv i2, iv ((2 : Int32) + (i0 &&& (3 : Int32))), rv b1, .unset, .unset, .unset, .unset, .unset, .unset] [(.ref b3), (.int (0 : Int32)), (.ref b1)])) rfl rfl (hb hby at_21)
  have V6 : Arv Z h6 b1 k1 (.object "java/lang/String") (5 : Int32) [(.ref b3), .null, .null, .null, .null] .null := Arv.set Ar5 q5 S5 N5 H5 G5 rfl W6 0 rfl (Nat.le_of_ble_eq_true rfl)
  have Nx6 := Fr.snoc X6 N3 fr1
  refine own_st (T' := T6) (g' := (mkF m 22 #[iv i0, .val (.long i1), .second, iv i2, iv ((2 : Int32) + (i0 &&& (3 : Int32))), rv b1, .unset, .unset, .unset, .unset, .unset, .unset] [])) st6 ?_
  clear hin5 G5 H5 N5 S5 q5 Ar5 cl5 st6
  refine own_st (T' := T6) (g' := (mkF m 24 #[iv i0, .val (.long i1), .second, iv i2, iv ((2 : Int32) + (i0 &&& (3 : Int32))), rv b1, .unset, .unset, .unset, .unset, .unset, .unset] [(.ref b1)])) (fun _ k_ => XS.aload X6.here hx rfl (hb hby at_22) rfl rfl  k_) ?_
  refine own_st (T' := T6) (g' := (mkF m 25 #[iv i0, .val (.long i1), .second, iv i2, iv ((2 : Int32) + (i0 &&& (3 : Int32))), rv b1, .unset, .unset, .unset, .unset, .unset, .unset] [(.int (1 : Int32)), (.ref b1)])) (fun _ k_ => XS.iconst X6.here hx rfl (hb hby at_24) k_) ?_
  refine own_st (T' := T6) (g' := (mkF m 26 #[iv i0, .val (.long i1), .second, iv i2, iv ((2 : Int32) + (i0 &&& (3 : Int32))), rv b1, .unset, .unset, .unset, .unset, .unset, .unset] [(.long i1), (.int (1 : Int32)), (.ref b1)])) (fun _ k_ => XS.lloadN X6.here hx rfl (hb hby at_25) rfl  k_) ?_
  refine own_st (T' := T6) (g' := (mkF m 27 #[iv i0, .val (.long i1), .second, iv i2, iv ((2 : Int32) + (i0 &&& (3 : Int32))), rv b1, .unset, .unset, .unset, .unset, .unset, .unset] [(.int (1 : Int32)), (.long i1), (.int (1 : Int32)), (.ref b1)])) (fun _ k_ => XS.iconst X6.here hx rfl (hb hby at_26) k_) ?_
  have f7 := f2.keep K3 all0
  have f8 := f7.wr W6 fr1
  obtain ⟨_, T9, L9, X9, hQ9, st9⟩ := own_callS X6 hx (y := own_m32) hown (mvT hZ (wd hw 2 rfl)) (mvT hZ (wd hw 3 rfl)) (mvT hZ (wd hw 4 rfl)) (mvT hZ (wd hw 5 rfl)) (by decide) (backOf (W := 2) (rm_vtx l Z a0 hw [] i1 (1 : Int32) cz h6 n0 f8 SC hcz SA SHI SLO) hZ (wd hw 5 rfl) (wd hw 4 rfl) (by decide) (by decide)) (g := (mkF m 27 #[iv i0, .val (.long i1), .second, iv i2, iv ((2 : Int32) + (i0 &&& (3 : Int32))), rv b1, .unset, .unset, .unset, .unset, .unset, .unset] [(.int (1 : Int32)), (.long i1), (.int (1 : Int32)), (.ref b1)])) rfl (by rw [hml]; rfl) (argsL := [(.long i1), (.int (1 : Int32))]) (rest := [(.int (1 : Int32)), (.ref b1)]) (lenOf pd__JI_Ljava_lang_String_ rfl) rfl (by show 2 * 0 + _ ≤ _; exact Nat.le_of_eq rfl) (hb hby at_27) rfl e6 (by decide) (by decide) (c' := 5) (s' := 17) rfl rfl
  obtain ⟨b9, rfl, Nq9, K9, fq9_0, xq9_fresh_b⟩ := hQ9
  have N9 := Fr.app Nx6 Nq9
  refine own_st (T' := T9) (g' := (mkF m 30 #[iv i0, .val (.long i1), .second, iv i2, iv ((2 : Int32) + (i0 &&& (3 : Int32))), rv b1, .unset, .unset, .unset, .unset, .unset, .unset] [(.ref b9), (.int (1 : Int32)), (.ref b1)])) st9 ?_
  clear st9
  have f10 := V6.keep K9 nin0
  obtain ⟨cl11, Ar11, q11, S11, N11, H11, G11⟩ := id f10
  have hin11 : ¬ ((1 : Int32) < 0 ∨ cl11.slots.size ≤ ((1 : Int32)).toNatClampNeg) := inb_of S11 ⟨by decide, by decide⟩
  obtain ⟨T12, h12, X12, e12, W12, st12⟩ := stR X9 hx hZ rfl Ar11 (j := (1 : Int32)) hin11 rfl (Sto.of Ar11 (q11 ▸ O1) (Ins.self fq9_0)) (g := (mkF m 30 #[iv i0, .val (.long i1), .second, iv i2, iv ((2 : Int32) + (i0 &&& (3 : Int32))), rv b1, .unset, .unset, .unset, .unset, .unset, .unset] [(.ref b9), (.int (1 : Int32)), (.ref b1)])) rfl rfl (hb hby at_30)
  have V12 : Arv Z h12 b1 k1 (.object "java/lang/String") (5 : Int32) [(.ref b3), (.ref b9), .null, .null, .null] .null := Arv.set Ar11 q11 S11 N11 H11 G11 rfl W12 1 rfl (Nat.le_of_ble_eq_true rfl)
  have Nx12 := Fr.snoc X12 N9 fr1
  refine own_st (T' := T12) (g' := (mkF m 31 #[iv i0, .val (.long i1), .second, iv i2, iv ((2 : Int32) + (i0 &&& (3 : Int32))), rv b1, .unset, .unset, .unset, .unset, .unset, .unset] [])) st12 ?_
  clear hin11 G11 H11 N11 S11 q11 Ar11 cl11 st12
  refine own_st (T' := T12) (g' := (mkF m 33 #[iv i0, .val (.long i1), .second, iv i2, iv ((2 : Int32) + (i0 &&& (3 : Int32))), rv b1, .unset, .unset, .unset, .unset, .unset, .unset] [(.ref b1)])) (fun _ k_ => XS.aload X12.here hx rfl (hb hby at_31) rfl rfl  k_) ?_
  refine own_st (T' := T12) (g' := (mkF m 34 #[iv i0, .val (.long i1), .second, iv i2, iv ((2 : Int32) + (i0 &&& (3 : Int32))), rv b1, .unset, .unset, .unset, .unset, .unset, .unset] [(.int (2 : Int32)), (.ref b1)])) (fun _ k_ => XS.iconst X12.here hx rfl (hb hby at_33) k_) ?_
  refine own_st (T' := T12) (g' := (mkF m 35 #[iv i0, .val (.long i1), .second, iv i2, iv ((2 : Int32) + (i0 &&& (3 : Int32))), rv b1, .unset, .unset, .unset, .unset, .unset, .unset] [(.long i1), (.int (2 : Int32)), (.ref b1)])) (fun _ k_ => XS.lloadN X12.here hx rfl (hb hby at_34) rfl  k_) ?_
  refine own_st (T' := T12) (g' := (mkF m 36 #[iv i0, .val (.long i1), .second, iv i2, iv ((2 : Int32) + (i0 &&& (3 : Int32))), rv b1, .unset, .unset, .unset, .unset, .unset, .unset] [(.int (2 : Int32)), (.long i1), (.int (2 : Int32)), (.ref b1)])) (fun _ k_ => XS.iconst X12.here hx rfl (hb hby at_35) k_) ?_
  have f13 := f8.keep K9 all0
  have f14 := f13.wr W12 fr1
  obtain ⟨_, T15, L15, X15, hQ15, st15⟩ := own_callS X12 hx (y := own_m32) hown (mvT hZ (wd hw 2 rfl)) (mvT hZ (wd hw 3 rfl)) (mvT hZ (wd hw 4 rfl)) (mvT hZ (wd hw 5 rfl)) (by decide) (backOf (W := 2) (rm_vtx l Z a0 hw [] i1 (2 : Int32) cz h12 n0 f14 SC hcz SA SHI SLO) hZ (wd hw 5 rfl) (wd hw 4 rfl) (by decide) (by decide)) (g := (mkF m 36 #[iv i0, .val (.long i1), .second, iv i2, iv ((2 : Int32) + (i0 &&& (3 : Int32))), rv b1, .unset, .unset, .unset, .unset, .unset, .unset] [(.int (2 : Int32)), (.long i1), (.int (2 : Int32)), (.ref b1)])) rfl (by rw [hml]; rfl) (argsL := [(.long i1), (.int (2 : Int32))]) (rest := [(.int (2 : Int32)), (.ref b1)]) (lenOf pd__JI_Ljava_lang_String_ rfl) rfl (by show 2 * 0 + _ ≤ _; exact Nat.le_of_eq rfl) (hb hby at_36) rfl e12 (by decide) (by decide) (c' := 7) (s' := 23) rfl rfl
  obtain ⟨b15, rfl, Nq15, K15, fq15_0, xq15_fresh_b⟩ := hQ15
  have N15 := Fr.app Nx12 Nq15
  refine own_st (T' := T15) (g' := (mkF m 39 #[iv i0, .val (.long i1), .second, iv i2, iv ((2 : Int32) + (i0 &&& (3 : Int32))), rv b1, .unset, .unset, .unset, .unset, .unset, .unset] [(.ref b15), (.int (2 : Int32)), (.ref b1)])) st15 ?_
  clear st15
  have f16 := V12.keep K15 nin0
  obtain ⟨cl17, Ar17, q17, S17, N17, H17, G17⟩ := id f16
  have hin17 : ¬ ((2 : Int32) < 0 ∨ cl17.slots.size ≤ ((2 : Int32)).toNatClampNeg) := inb_of S17 ⟨by decide, by decide⟩
  obtain ⟨T18, h18, X18, e18, W18, st18⟩ := stR X15 hx hZ rfl Ar17 (j := (2 : Int32)) hin17 rfl (Sto.of Ar17 (q17 ▸ O1) (Ins.self fq15_0)) (g := (mkF m 39 #[iv i0, .val (.long i1), .second, iv i2, iv ((2 : Int32) + (i0 &&& (3 : Int32))), rv b1, .unset, .unset, .unset, .unset, .unset, .unset] [(.ref b15), (.int (2 : Int32)), (.ref b1)])) rfl rfl (hb hby at_39)
  have V18 : Arv Z h18 b1 k1 (.object "java/lang/String") (5 : Int32) [(.ref b3), (.ref b9), (.ref b15), .null, .null] .null := Arv.set Ar17 q17 S17 N17 H17 G17 rfl W18 2 rfl (Nat.le_of_ble_eq_true rfl)
  have Nx18 := Fr.snoc X18 N15 fr1
  refine own_st (T' := T18) (g' := (mkF m 40 #[iv i0, .val (.long i1), .second, iv i2, iv ((2 : Int32) + (i0 &&& (3 : Int32))), rv b1, .unset, .unset, .unset, .unset, .unset, .unset] [])) st18 ?_
  clear hin17 G17 H17 N17 S17 q17 Ar17 cl17 st18
  refine own_st (T' := T18) (g' := (mkF m 42 #[iv i0, .val (.long i1), .second, iv i2, iv ((2 : Int32) + (i0 &&& (3 : Int32))), rv b1, .unset, .unset, .unset, .unset, .unset, .unset] [(.ref b1)])) (fun _ k_ => XS.aload X18.here hx rfl (hb hby at_40) rfl rfl  k_) ?_
  refine own_st (T' := T18) (g' := (mkF m 43 #[iv i0, .val (.long i1), .second, iv i2, iv ((2 : Int32) + (i0 &&& (3 : Int32))), rv b1, .unset, .unset, .unset, .unset, .unset, .unset] [(.int (3 : Int32)), (.ref b1)])) (fun _ k_ => XS.iconst X18.here hx rfl (hb hby at_42) k_) ?_
  refine own_st (T' := T18) (g' := (mkF m 44 #[iv i0, .val (.long i1), .second, iv i2, iv ((2 : Int32) + (i0 &&& (3 : Int32))), rv b1, .unset, .unset, .unset, .unset, .unset, .unset] [(.long i1), (.int (3 : Int32)), (.ref b1)])) (fun _ k_ => XS.lloadN X18.here hx rfl (hb hby at_43) rfl  k_) ?_
  refine own_st (T' := T18) (g' := (mkF m 45 #[iv i0, .val (.long i1), .second, iv i2, iv ((2 : Int32) + (i0 &&& (3 : Int32))), rv b1, .unset, .unset, .unset, .unset, .unset, .unset] [(.int (3 : Int32)), (.long i1), (.int (3 : Int32)), (.ref b1)])) (fun _ k_ => XS.iconst X18.here hx rfl (hb hby at_44) k_) ?_
  have f19 := f14.keep K15 all0
  have f20 := f19.wr W18 fr1
  obtain ⟨_, T21, L21, X21, hQ21, st21⟩ := own_callS X18 hx (y := own_m32) hown (mvT hZ (wd hw 2 rfl)) (mvT hZ (wd hw 3 rfl)) (mvT hZ (wd hw 4 rfl)) (mvT hZ (wd hw 5 rfl)) (by decide) (backOf (W := 2) (rm_vtx l Z a0 hw [] i1 (3 : Int32) cz h18 n0 f20 SC hcz SA SHI SLO) hZ (wd hw 5 rfl) (wd hw 4 rfl) (by decide) (by decide)) (g := (mkF m 45 #[iv i0, .val (.long i1), .second, iv i2, iv ((2 : Int32) + (i0 &&& (3 : Int32))), rv b1, .unset, .unset, .unset, .unset, .unset, .unset] [(.int (3 : Int32)), (.long i1), (.int (3 : Int32)), (.ref b1)])) rfl (by rw [hml]; rfl) (argsL := [(.long i1), (.int (3 : Int32))]) (rest := [(.int (3 : Int32)), (.ref b1)]) (lenOf pd__JI_Ljava_lang_String_ rfl) rfl (by show 2 * 0 + _ ≤ _; exact Nat.le_of_eq rfl) (hb hby at_45) rfl e18 (by decide) (by decide) (c' := 9) (s' := 29) rfl rfl
  obtain ⟨b21, rfl, Nq21, K21, fq21_0, xq21_fresh_b⟩ := hQ21
  have N21 := Fr.app Nx18 Nq21
  refine own_st (T' := T21) (g' := (mkF m 48 #[iv i0, .val (.long i1), .second, iv i2, iv ((2 : Int32) + (i0 &&& (3 : Int32))), rv b1, .unset, .unset, .unset, .unset, .unset, .unset] [(.ref b21), (.int (3 : Int32)), (.ref b1)])) st21 ?_
  clear st21
  have f22 := V18.keep K21 nin0
  obtain ⟨cl23, Ar23, q23, S23, N23, H23, G23⟩ := id f22
  have hin23 : ¬ ((3 : Int32) < 0 ∨ cl23.slots.size ≤ ((3 : Int32)).toNatClampNeg) := inb_of S23 ⟨by decide, by decide⟩
  obtain ⟨T24, h24, X24, e24, W24, st24⟩ := stR X21 hx hZ rfl Ar23 (j := (3 : Int32)) hin23 rfl (Sto.of Ar23 (q23 ▸ O1) (Ins.self fq21_0)) (g := (mkF m 48 #[iv i0, .val (.long i1), .second, iv i2, iv ((2 : Int32) + (i0 &&& (3 : Int32))), rv b1, .unset, .unset, .unset, .unset, .unset, .unset] [(.ref b21), (.int (3 : Int32)), (.ref b1)])) rfl rfl (hb hby at_48)
  have V24 : Arv Z h24 b1 k1 (.object "java/lang/String") (5 : Int32) [(.ref b3), (.ref b9), (.ref b15), (.ref b21), .null] .null := Arv.set Ar23 q23 S23 N23 H23 G23 rfl W24 3 rfl (Nat.le_of_ble_eq_true rfl)
  have Nx24 := Fr.snoc X24 N21 fr1
  refine own_st (T' := T24) (g' := (mkF m 49 #[iv i0, .val (.long i1), .second, iv i2, iv ((2 : Int32) + (i0 &&& (3 : Int32))), rv b1, .unset, .unset, .unset, .unset, .unset, .unset] [])) st24 ?_
  clear hin23 G23 H23 N23 S23 q23 Ar23 cl23 st24
  refine own_st (T' := T24) (g' := (mkF m 51 #[iv i0, .val (.long i1), .second, iv i2, iv ((2 : Int32) + (i0 &&& (3 : Int32))), rv b1, .unset, .unset, .unset, .unset, .unset, .unset] [(.ref b1)])) (fun _ k_ => XS.aload X24.here hx rfl (hb hby at_49) rfl rfl  k_) ?_
  refine own_st (T' := T24) (g' := (mkF m 52 #[iv i0, .val (.long i1), .second, iv i2, iv ((2 : Int32) + (i0 &&& (3 : Int32))), rv b1, .unset, .unset, .unset, .unset, .unset, .unset] [(.int (4 : Int32)), (.ref b1)])) (fun _ k_ => XS.iconst X24.here hx rfl (hb hby at_51) k_) ?_
  refine own_st (T' := T24) (g' := (mkF m 53 #[iv i0, .val (.long i1), .second, iv i2, iv ((2 : Int32) + (i0 &&& (3 : Int32))), rv b1, .unset, .unset, .unset, .unset, .unset, .unset] [(.long i1), (.int (4 : Int32)), (.ref b1)])) (fun _ k_ => XS.lloadN X24.here hx rfl (hb hby at_52) rfl  k_) ?_
  refine own_st (T' := T24) (g' := (mkF m 54 #[iv i0, .val (.long i1), .second, iv i2, iv ((2 : Int32) + (i0 &&& (3 : Int32))), rv b1, .unset, .unset, .unset, .unset, .unset, .unset] [(.int (4 : Int32)), (.long i1), (.int (4 : Int32)), (.ref b1)])) (fun _ k_ => XS.iconst X24.here hx rfl (hb hby at_53) k_) ?_
  have f25 := f20.keep K21 all0
  have f26 := f25.wr W24 fr1
  obtain ⟨_, T27, L27, X27, hQ27, st27⟩ := own_callS X24 hx (y := own_m32) hown (mvT hZ (wd hw 2 rfl)) (mvT hZ (wd hw 3 rfl)) (mvT hZ (wd hw 4 rfl)) (mvT hZ (wd hw 5 rfl)) (by decide) (backOf (W := 2) (rm_vtx l Z a0 hw [] i1 (4 : Int32) cz h24 n0 f26 SC hcz SA SHI SLO) hZ (wd hw 5 rfl) (wd hw 4 rfl) (by decide) (by decide)) (g := (mkF m 54 #[iv i0, .val (.long i1), .second, iv i2, iv ((2 : Int32) + (i0 &&& (3 : Int32))), rv b1, .unset, .unset, .unset, .unset, .unset, .unset] [(.int (4 : Int32)), (.long i1), (.int (4 : Int32)), (.ref b1)])) rfl (by rw [hml]; rfl) (argsL := [(.long i1), (.int (4 : Int32))]) (rest := [(.int (4 : Int32)), (.ref b1)]) (lenOf pd__JI_Ljava_lang_String_ rfl) rfl (by show 2 * 0 + _ ≤ _; exact Nat.le_of_eq rfl) (hb hby at_54) rfl e24 (by decide) (by decide) (c' := 11) (s' := 35) rfl rfl
  obtain ⟨b27, rfl, Nq27, K27, fq27_0, xq27_fresh_b⟩ := hQ27
  have N27 := Fr.app Nx24 Nq27
  refine own_st (T' := T27) (g' := (mkF m 57 #[iv i0, .val (.long i1), .second, iv i2, iv ((2 : Int32) + (i0 &&& (3 : Int32))), rv b1, .unset, .unset, .unset, .unset, .unset, .unset] [(.ref b27), (.int (4 : Int32)), (.ref b1)])) st27 ?_
  clear st27
  have f28 := V24.keep K27 nin0
  obtain ⟨cl29, Ar29, q29, S29, N29, H29, G29⟩ := id f28
  have hin29 : ¬ ((4 : Int32) < 0 ∨ cl29.slots.size ≤ ((4 : Int32)).toNatClampNeg) := inb_of S29 ⟨by decide, by decide⟩
  obtain ⟨T30, h30, X30, e30, W30, st30⟩ := stR X27 hx hZ rfl Ar29 (j := (4 : Int32)) hin29 rfl (Sto.of Ar29 (q29 ▸ O1) (Ins.self fq27_0)) (g := (mkF m 57 #[iv i0, .val (.long i1), .second, iv i2, iv ((2 : Int32) + (i0 &&& (3 : Int32))), rv b1, .unset, .unset, .unset, .unset, .unset, .unset] [(.ref b27), (.int (4 : Int32)), (.ref b1)])) rfl rfl (hb hby at_57)
  have V30 : Arv Z h30 b1 k1 (.object "java/lang/String") (5 : Int32) [(.ref b3), (.ref b9), (.ref b15), (.ref b21), (.ref b27)] .null := Arv.set Ar29 q29 S29 N29 H29 G29 rfl W30 4 rfl (Nat.le_of_ble_eq_true rfl)
  have Nx30 := Fr.snoc X30 N27 fr1
  refine own_st (T' := T30) (g' := (mkF m 58 #[iv i0, .val (.long i1), .second, iv i2, iv ((2 : Int32) + (i0 &&& (3 : Int32))), rv b1, .unset, .unset, .unset, .unset, .unset, .unset] [])) st30 ?_
  clear hin29 G29 H29 N29 S29 q29 Ar29 cl29 st30
  refine own_st (T' := T30) (g' := (mkF m 61 #[iv i0, .val (.long i1), .second, iv i2, iv ((2 : Int32) + (i0 &&& (3 : Int32))), rv b1, .unset, .unset, .unset, .unset, .unset, .unset] [(.int (256 : Int32))])) (fun _ k_ => XS.sipush X30.here hx rfl (hb hby at_58) k_) ?_
  have f31 := f26.keep K27 all0
  have f32 := f31.wr W30 fr1
  obtain ⟨_, T33, L33, X33, hQ33, st33⟩ := own_callS X30 hx (y := own_m5) hown (mvT hZ (wd hw 7 rfl)) (mvT hZ (wd hw 8 rfl)) (mvT hZ (wd hw 9 rfl)) (mvT hZ (wd hw 10 rfl)) (by decide) (backOf (W := 0) (rm_vof l Z a0 hw [] (256 : Int32) cz h30 n0 f32 SC hcz SA SHI SLO) hZ (wd hw 10 rfl) (wd hw 9 rfl) (by decide) (by decide)) (g := (mkF m 61 #[iv i0, .val (.long i1), .second, iv i2, iv ((2 : Int32) + (i0 &&& (3 : Int32))), rv b1, .unset, .unset, .unset, .unset, .unset, .unset] [(.int (256 : Int32))])) rfl (by rw [hml]; rfl) (argsL := [(.int (256 : Int32))]) (rest := []) (lenOf pd__C_Ljava_lang_String_ rfl) rfl (by show 2 * 0 + _ ≤ _; exact Nat.le_of_eq rfl) (hb hby at_61) rfl e30 (by decide) (by decide) (c' := 13) (s' := 41) rfl rfl
  obtain ⟨b33, rfl, Nq33, K33, fq33_0, xq33_fresh_b⟩ := hQ33
  have N33 := Fr.app Nx30 Nq33
  refine own_st (T' := T33) (g' := (mkF m 64 #[iv i0, .val (.long i1), .second, iv i2, iv ((2 : Int32) + (i0 &&& (3 : Int32))), rv b1, .unset, .unset, .unset, .unset, .unset, .unset] [(.ref b33)])) st33 ?_
  clear st33
  refine own_st (T' := T33) (g' := (mkF m 66 #[iv i0, .val (.long i1), .second, iv i2, iv ((2 : Int32) + (i0 &&& (3 : Int32))), rv b1, rv b33, .unset, .unset, .unset, .unset, .unset] [])) (fun _ k_ => XS.astore X33.here hx rfl (hb hby at_64) rfl rfl (l' := #[iv i0, .val (.long i1), .second, iv i2, iv ((2 : Int32) + (i0 &&& (3 : Int32))), rv b1, rv b33, .unset, .unset, .unset, .unset, .unset]) rfl k_) ?_
  have f34 := f32.keep K33 all0
  obtain ⟨T35, h35, X35, e35, E35, A35, D35, -, st35⟩ := newO X33 hx hZ hown (wd hw 43 rfl) (wd hw 44 rfl) (wd hw 45 rfl) rfl (g := (mkF m 66 #[iv i0, .val (.long i1), .second, iv i2, iv ((2 : Int32) + (i0 &&& (3 : Int32))), rv b1, rv b33, .unset, .unset, .unset, .unset, .unset] [])) rfl (hb hby at_66) (by decide) (by decide)
  obtain ⟨b35, g35⟩ : ∃ z, z = T33.heap.size := ⟨_, rfl⟩
  rw [← g35] at A35 D35 st35
  have fr35 : n0 ≤ b35 := Nat.le_trans (own_z f34) (Nat.le_of_eq g35.symm)
  have F35_modCount : Fld Z h35 b35 "java/util/AbstractList" "modCount" "I" (.int (0 : Int32)) := D35 (Or.inl (wd hw 63 rfl)) (ty := .int) (by decide)
  have F35_elementData : Fld Z h35 b35 "java/util/ArrayList" "elementData" "[Ljava/lang/Object;" .null := D35 (Or.inl (wd hw 66 rfl)) (ty := (.array (.object "java/lang/Object"))) (by decide)
  have F35_size : Fld Z h35 b35 "java/util/ArrayList" "size" "I" (.int (0 : Int32)) := D35 (Or.inl (wd hw 75 rfl)) (ty := .int) (by decide)
  refine own_st (T' := T35) (g' := (mkF m 69 #[iv i0, .val (.long i1), .second, iv i2, iv ((2 : Int32) + (i0 &&& (3 : Int32))), rv b1, rv b33, .unset, .unset, .unset, .unset, .unset] [(.ref b35)])) st35 ?_
  clear st35
  refine own_st (T' := T35) (g' := (mkF m 70 #[iv i0, .val (.long i1), .second, iv i2, iv ((2 : Int32) + (i0 &&& (3 : Int32))), rv b1, rv b33, .unset, .unset, .unset, .unset, .unset] [(.ref b35), (.ref b35)])) (fun _ k_ => XS.dup X35.here hx rfl (hb hby at_69) rfl rfl k_) ?_
  have f36 := f34.ext E35
  obtain ⟨_, T37, L37, X37, hQ37, st37⟩ := own_callI X35 hx (y := own_m8) rfl hown (mvT hZ (wd hw 46 rfl)) (mvT hZ (wd hw 47 rfl)) (mvT hZ (wd hw 48 rfl)) (by decide) (backOf (W := 1) (rm_ali l Z a0 hw [] b35 dA h35 n0 f36 A35 F35_elementData F35_size F35_modCount fr35 SDe) hZ (wd hw 48 rfl) (wd hw 45 rfl) (by decide) (by decide)) (g := (mkF m 70 #[iv i0, .val (.long i1), .second, iv i2, iv ((2 : Int32) + (i0 &&& (3 : Int32))), rv b1, rv b33, .unset, .unset, .unset, .unset, .unset] [(.ref b35), (.ref b35)])) rfl (by rw [hml]; rfl) (a := b35) (argsL := []) (rest := [(.ref b35)]) (lenOf pd___V rfl) rfl (by show 2 * 0 + _ ≤ _; exact Nat.le_of_eq rfl) (hb hby at_70) rfl e35 (by decide) (by decide) (c' := 14) (s' := 44) rfl rfl
  obtain ⟨rfl, Nq37, K37, fq37_0, fq37_1, fq37_2, fq37_3⟩ := hQ37
  have N37 := Fr.app N33 Nq37
  refine own_st (T' := T37) (g' := (mkF m 73 #[iv i0, .val (.long i1), .second, iv i2, iv ((2 : Int32) + (i0 &&& (3 : Int32))), rv b1, rv b33, .unset, .unset, .unset, .unset, .unset] [(.ref b35)])) st37 ?_
  clear st37
  refine own_st (T' := T37) (g' := (mkF m 75 #[iv i0, .val (.long i1), .second, iv i2, iv ((2 : Int32) + (i0 &&& (3 : Int32))), rv b1, rv b33, rv b35, .unset, .unset, .unset, .unset] [])) (fun _ k_ => XS.astore X37.here hx rfl (hb hby at_73) rfl rfl (l' := #[iv i0, .val (.long i1), .second, iv i2, iv ((2 : Int32) + (i0 &&& (3 : Int32))), rv b1, rv b33, rv b35, .unset, .unset, .unset, .unset]) rfl k_) ?_
  have f38 := f36.keep K37 (allS fr35 all0)
  obtain ⟨T39, h39, X39, e39, E39, A39, D39, -, st39⟩ := newO X37 hx hZ hown (wd hw 43 rfl) (wd hw 44 rfl) (wd hw 45 rfl) rfl (g := (mkF m 75 #[iv i0, .val (.long i1), .second, iv i2, iv ((2 : Int32) + (i0 &&& (3 : Int32))), rv b1, rv b33, rv b35, .unset, .unset, .unset, .unset] [])) rfl (hb hby at_75) (by decide) (by decide)
  obtain ⟨b39, g39⟩ : ∃ z, z = T37.heap.size := ⟨_, rfl⟩
  rw [← g39] at A39 D39 st39
  have fr39 : n0 ≤ b39 := Nat.le_trans (own_z f38) (Nat.le_of_eq g39.symm)
  have F39_modCount : Fld Z h39 b39 "java/util/AbstractList" "modCount" "I" (.int (0 : Int32)) := D39 (Or.inl (wd hw 63 rfl)) (ty := .int) (by decide)
  have F39_elementData : Fld Z h39 b39 "java/util/ArrayList" "elementData" "[Ljava/lang/Object;" .null := D39 (Or.inl (wd hw 66 rfl)) (ty := (.array (.object "java/lang/Object"))) (by decide)
  have F39_size : Fld Z h39 b39 "java/util/ArrayList" "size" "I" (.int (0 : Int32)) := D39 (Or.inl (wd hw 75 rfl)) (ty := .int) (by decide)
  refine own_st (T' := T39) (g' := (mkF m 78 #[iv i0, .val (.long i1), .second, iv i2, iv ((2 : Int32) + (i0 &&& (3 : Int32))), rv b1, rv b33, rv b35, .unset, .unset, .unset, .unset] [(.ref b39)])) st39 ?_
  clear st39
  refine own_st (T' := T39) (g' := (mkF m 79 #[iv i0, .val (.long i1), .second, iv i2, iv ((2 : Int32) + (i0 &&& (3 : Int32))), rv b1, rv b33, rv b35, .unset, .unset, .unset, .unset] [(.ref b39), (.ref b39)])) (fun _ k_ => XS.dup X39.here hx rfl (hb hby at_78) rfl rfl k_) ?_
  have f40 := f38.ext E39
  obtain ⟨_, T41, L41, X41, hQ41, st41⟩ := own_callI X39 hx (y := own_m8) rfl hown (mvT hZ (wd hw 46 rfl)) (mvT hZ (wd hw 47 rfl)) (mvT hZ (wd hw 48 rfl)) (by decide) (backOf (W := 1) (rm_ali l Z a0 hw [] b39 dA h39 n0 f40 A39 F39_elementData F39_size F39_modCount fr39 SDe) hZ (wd hw 48 rfl) (wd hw 45 rfl) (by decide) (by decide)) (g := (mkF m 79 #[iv i0, .val (.long i1), .second, iv i2, iv ((2 : Int32) + (i0 &&& (3 : Int32))), rv b1, rv b33, rv b35, .unset, .unset, .unset, .unset] [(.ref b39), (.ref b39)])) rfl (by rw [hml]; rfl) (a := b39) (argsL := []) (rest := [(.ref b39)]) (lenOf pd___V rfl) rfl (by show 2 * 0 + _ ≤ _; exact Nat.le_of_eq rfl) (hb hby at_79) rfl e39 (by decide) (by decide) (c' := 15) (s' := 47) rfl rfl
  obtain ⟨rfl, Nq41, K41, fq41_0, fq41_1, fq41_2, fq41_3⟩ := hQ41
  have N41 := Fr.app N37 Nq41
  refine own_st (T' := T41) (g' := (mkF m 82 #[iv i0, .val (.long i1), .second, iv i2, iv ((2 : Int32) + (i0 &&& (3 : Int32))), rv b1, rv b33, rv b35, .unset, .unset, .unset, .unset] [(.ref b39)])) st41 ?_
  clear st41
  refine own_st (T' := T41) (g' := (mkF m 84 #[iv i0, .val (.long i1), .second, iv i2, iv ((2 : Int32) + (i0 &&& (3 : Int32))), rv b1, rv b33, rv b35, rv b39, .unset, .unset, .unset] [])) (fun _ k_ => XS.astore X41.here hx rfl (hb hby at_82) rfl rfl (l' := #[iv i0, .val (.long i1), .second, iv i2, iv ((2 : Int32) + (i0 &&& (3 : Int32))), rv b1, rv b33, rv b35, rv b39, .unset, .unset, .unset]) rfl k_) ?_
  refine own_st (T' := T41) (g' := (mkF m 86 #[iv i0, .val (.long i1), .second, iv i2, iv ((2 : Int32) + (i0 &&& (3 : Int32))), rv b1, rv b33, rv b35, rv b39, .unset, .unset, .unset] [(.ref b35)])) (fun _ k_ => XS.aload X41.here hx rfl (hb hby at_84) rfl rfl  k_) ?_
  refine own_st (T' := T41) (g' := (mkF m 88 #[iv i0, .val (.long i1), .second, iv i2, iv ((2 : Int32) + (i0 &&& (3 : Int32))), rv b1, rv b33, rv b35, rv b39, .unset, .unset, .unset] [(.ref b1), (.ref b35)])) (fun _ k_ => XS.aload X41.here hx rfl (hb hby at_86) rfl rfl  k_) ?_
  refine own_st (T' := T41) (g' := (mkF m 89 #[iv i0, .val (.long i1), .second, iv i2, iv ((2 : Int32) + (i0 &&& (3 : Int32))), rv b1, rv b33, rv b35, rv b39, .unset, .unset, .unset] [(.int (0 : Int32)), (.ref b1), (.ref b35)])) (fun _ k_ => XS.iconst X41.here hx rfl (hb hby at_88) k_) ?_
  have f42 := V30.keep K33 nin0
  have f43 := f42.ext E35
  have ne44 : b1 ≠ b35 := Nat.ne_of_lt (Nat.lt_of_lt_of_le (Nat.lt_of_lt_of_le (Nat.lt_of_lt_of_le (Nat.lt_of_lt_of_le (Nat.lt_of_lt_of_le (Nat.lt_of_lt_of_le (Nat.lt_of_lt_of_le (Nat.lt_of_lt_of_le (Nat.lt_of_lt_of_le (Nat.lt_of_lt_of_le (Nat.lt_of_lt_of_le (Nat.lt_of_lt_of_le V1.lt K3.1) (Nat.le_of_eq (Wr.size W6).symm)) K9.1) (Nat.le_of_eq (Wr.size W12).symm)) K15.1) (Nat.le_of_eq (Wr.size W18).symm)) K21.1) (Nat.le_of_eq (Wr.size W24).symm)) K27.1) (Nat.le_of_eq (Wr.size W30).symm)) K33.1) (Nat.le_of_eq g35.symm))
  have f45 := f43.keep K37 (ninS ne44 nin0)
  have f46 := f45.ext E39
  have ne47 : b1 ≠ b39 := Nat.ne_of_lt (Nat.lt_of_lt_of_le (Nat.lt_of_lt_of_le (Nat.lt_of_lt_of_le (Nat.lt_of_lt_of_le (Nat.lt_of_lt_of_le (Nat.lt_of_lt_of_le (Nat.lt_of_lt_of_le (Nat.lt_of_lt_of_le (Nat.lt_of_lt_of_le (Nat.lt_of_lt_of_le (Nat.lt_of_lt_of_le (Nat.lt_of_lt_of_le (Nat.lt_of_lt_of_le (Nat.lt_of_lt_of_le V1.lt K3.1) (Nat.le_of_eq (Wr.size W6).symm)) K9.1) (Nat.le_of_eq (Wr.size W12).symm)) K15.1) (Nat.le_of_eq (Wr.size W18).symm)) K21.1) (Nat.le_of_eq (Wr.size W24).symm)) K27.1) (Nat.le_of_eq (Wr.size W30).symm)) K33.1) E35.1) K37.1) (Nat.le_of_eq g39.symm))
  have f48 := f46.keep K41 (ninS ne47 nin0)
  obtain ⟨cl49, Ar49, q49, S49, N49, H49, G49⟩ := id f48
  have hin49 : ¬ ((0 : Int32) < 0 ∨ cl49.slots.size ≤ ((0 : Int32)).toNatClampNeg) := inb_of S49 ⟨by decide, by decide⟩
  refine own_st (T' := T41) (g' := (mkF m 90 #[iv i0, .val (.long i1), .second, iv i2, iv ((2 : Int32) + (i0 &&& (3 : Int32))), rv b1, rv b33, rv b35, rv b39, .unset, .unset, .unset] [(.ref b3), (.ref b35)])) (X41.aaload hx (j := (0 : Int32)) (v := (.ref b3)) Ar49.1 (State.isArrayOf_alike hZ.alike Ar49.2.1) rfl Ar49.2.2 hin49 (H49.at hin49 rfl) (g := (mkF m 89 #[iv i0, .val (.long i1), .second, iv i2, iv ((2 : Int32) + (i0 &&& (3 : Int32))), rv b1, rv b33, rv b35, rv b39, .unset, .unset, .unset] [(.int (0 : Int32)), (.ref b1), (.ref b35)])) rfl rfl (hb hby at_89)) ?_
  clear hin49 G49 H49 N49 S49 q49 Ar49 cl49
  have f50 := fq37_0.ext E39
  have f51 := f50.keep K41
  have f52 := fq37_1.ext E39
  have ne53 : b35 ≠ b39 := Nat.ne_of_lt (Nat.lt_of_lt_of_le (Nat.lt_of_lt_of_le A35.lt K37.1) (Nat.le_of_eq g39.symm))
  have f54 := f52.keep K41 (ninS ne53 nin0)
  have f55 := fq37_2.ext E39
  have f56 := f55.keep K41 (ninS ne53 nin0)
  have f57 := fq37_3.ext E39
  have f58 := f57.keep K41 (ninS ne53 nin0)
  have f59 := fq3_0.wr W6
  have f60 := f59.keep K9
  have f61 := f60.wr W12
  have f62 := f61.keep K15
  have f63 := f62.wr W18
  have f64 := f63.keep K21
  have f65 := f64.wr W24
  have f66 := f65.keep K27
  have f67 := f66.wr W30
  have f68 := f67.keep K33
  have f69 := f68.ext E35
  have f70 := f69.keep K37
  have f71 := f70.ext E39
  have f72 := f71.keep K41
  have f73 := f40.keep K41 (allS fr39 all0)
  obtain ⟨cq74, kq74, q74a, q74b, q74c⟩ := isOf hZ rfl f51
  obtain ⟨_, T74, L74, X74, hQ74, st74⟩ := own_callV X41 hx (y := own_m13) (z := own_m13) hown (mvT hZ (wd hw 67 rfl)) (mvT hZ (wd hw 68 rfl)) (notFace_of_selects (args := #[]) (mvT hZ (wd hw 70 rfl))) (mvT hZ (wd hw 70 rfl)) (mvT hZ (wd hw 69 rfl)) (by decide) (backOf (W := 0) (rm_add_0 l Z a0 hw [] b35 b3 (0 : Int32) dA clD kO T41.heap n0 f73 f51 f54 f56 f58 fr35 SDe AD LD OV FC (Ins.of_exa f72 (wd hw 97 rfl))) hZ (wd hw 71 rfl) (wd hw 45 rfl) (by decide) (by decide)) q74a q74c (g := (mkF m 90 #[iv i0, .val (.long i1), .second, iv i2, iv ((2 : Int32) + (i0 &&& (3 : Int32))), rv b1, rv b33, rv b35, rv b39, .unset, .unset, .unset] [(.ref b3), (.ref b35)])) rfl (by rw [hml]; rfl) (argsL := [(.ref b3)]) (rest := []) (lenOf pd__Ljava_lang_Object__Z rfl) rfl (by show 2 * 0 + _ ≤ _; exact Nat.le_of_eq rfl) (hb hby at_90) rfl rfl (by decide) (by decide) (c' := 16) (s' := 57) rfl rfl
  clear q74a q74b q74c kq74 cq74
  obtain ⟨t74, rfl, Nq74, K74, fq74_0, fq74_1, fq74_2, fq74_3, fq74_4, xq74_fresh_t⟩ := hQ74
  have N74 := Fr.app N41 Nq74
  refine own_st (T' := T74) (g' := (mkF m 93 #[iv i0, .val (.long i1), .second, iv i2, iv ((2 : Int32) + (i0 &&& (3 : Int32))), rv b1, rv b33, rv b35, rv b39, .unset, .unset, .unset] [(.int (1 : Int32))])) st74 ?_
  clear st74
  refine own_st (T' := T74) (g' := (mkF m 94 #[iv i0, .val (.long i1), .second, iv i2, iv ((2 : Int32) + (i0 &&& (3 : Int32))), rv b1, rv b33, rv b35, rv b39, .unset, .unset, .unset] [])) (fun _ k_ => XS.pop X74.here hx rfl (hb hby at_93) rfl rfl k_) ?_
  refine own_st (T' := T74) (g' := (mkF m 96 #[iv i0, .val (.long i1), .second, iv i2, iv ((2 : Int32) + (i0 &&& (3 : Int32))), rv b1, rv b33, rv b35, rv b39, .unset, .unset, .unset] [(.ref b35)])) (fun _ k_ => XS.aload X74.here hx rfl (hb hby at_94) rfl rfl  k_) ?_
  refine own_st (T' := T74) (g' := (mkF m 98 #[iv i0, .val (.long i1), .second, iv i2, iv ((2 : Int32) + (i0 &&& (3 : Int32))), rv b1, rv b33, rv b35, rv b39, .unset, .unset, .unset] [(.ref b1), (.ref b35)])) (fun _ k_ => XS.aload X74.here hx rfl (hb hby at_96) rfl rfl  k_) ?_
  refine own_st (T' := T74) (g' := (mkF m 99 #[iv i0, .val (.long i1), .second, iv i2, iv ((2 : Int32) + (i0 &&& (3 : Int32))), rv b1, rv b33, rv b35, rv b39, .unset, .unset, .unset] [(.int (1 : Int32)), (.ref b1), (.ref b35)])) (fun _ k_ => XS.iconst X74.here hx rfl (hb hby at_98) k_) ?_
  have f75 := f48.keep K74 (ninS ne44 nin0)
  obtain ⟨cl76, Ar76, q76, S76, N76, H76, G76⟩ := id f75
  have hin76 : ¬ ((1 : Int32) < 0 ∨ cl76.slots.size ≤ ((1 : Int32)).toNatClampNeg) := inb_of S76 ⟨by decide, by decide⟩
  refine own_st (T' := T74) (g' := (mkF m 100 #[iv i0, .val (.long i1), .second, iv i2, iv ((2 : Int32) + (i0 &&& (3 : Int32))), rv b1, rv b33, rv b35, rv b39, .unset, .unset, .unset] [(.ref b9), (.ref b35)])) (X74.aaload hx (j := (1 : Int32)) (v := (.ref b9)) Ar76.1 (State.isArrayOf_alike hZ.alike Ar76.2.1) rfl Ar76.2.2 hin76 (H76.at hin76 rfl) (g := (mkF m 99 #[iv i0, .val (.long i1), .second, iv i2, iv ((2 : Int32) + (i0 &&& (3 : Int32))), rv b1, rv b33, rv b35, rv b39, .unset, .unset, .unset] [(.int (1 : Int32)), (.ref b1), (.ref b35)])) rfl rfl (hb hby at_99)) ?_
  clear hin76 G76 H76 N76 S76 q76 Ar76 cl76
  have f77 := fq9_0.wr W12
  have f78 := f77.keep K15
  have f79 := f78.wr W18
  have f80 := f79.keep K21
  have f81 := f80.wr W24
  have f82 := f81.keep K27
  have f83 := f82.wr W30
  have f84 := f83.keep K33
  have f85 := f84.ext E35
  have f86 := f85.keep K37
  have f87 := f86.ext E39
  have f88 := f87.keep K41
  have f89 := f88.keep K74
  have f90 := f73.keep K74 (allS fr35 all0)
  obtain ⟨cq91, kq91, q91a, q91b, q91c⟩ := isOf hZ rfl fq74_0
  obtain ⟨_, T91, L91, X91, hQ91, st91⟩ := own_callV X74 hx (y := own_m13) (z := own_m13) hown (mvT hZ (wd hw 67 rfl)) (mvT hZ (wd hw 68 rfl)) (notFace_of_selects (args := #[]) (mvT hZ (wd hw 70 rfl))) (mvT hZ (wd hw 70 rfl)) (mvT hZ (wd hw 69 rfl)) (by decide) (backOf (W := 0) (rm_add_1 l Z a0 hw [] b35 b9 t74 ((0 : Int32) + (1 : Int32)) kO (.ref b3) T74.heap n0 f90 fq74_0 fq74_1 fq74_2 fq74_3 fq74_4 fr35 (Nat.le_trans (own_z f73) xq74_fresh_t) OV FC (Ins.of_exa f89 (wd hw 97 rfl))) hZ (wd hw 71 rfl) (wd hw 45 rfl) (by decide) (by decide)) q91a q91c (g := (mkF m 100 #[iv i0, .val (.long i1), .second, iv i2, iv ((2 : Int32) + (i0 &&& (3 : Int32))), rv b1, rv b33, rv b35, rv b39, .unset, .unset, .unset] [(.ref b9), (.ref b35)])) rfl (by rw [hml]; rfl) (argsL := [(.ref b9)]) (rest := []) (lenOf pd__Ljava_lang_Object__Z rfl) rfl (by show 2 * 0 + _ ≤ _; exact Nat.le_of_eq rfl) (hb hby at_100) rfl rfl (by decide) (by decide) (c' := 16) (s' := 57) rfl rfl
  clear q91a q91b q91c kq91 cq91
  obtain ⟨rfl, Nq91, K91, fq91_0, fq91_1, fq91_2, fq91_3, fq91_4⟩ := hQ91
  have N91 := Fr.app N74 Nq91
  refine own_st (T' := T91) (g' := (mkF m 103 #[iv i0, .val (.long i1), .second, iv i2, iv ((2 : Int32) + (i0 &&& (3 : Int32))), rv b1, rv b33, rv b35, rv b39, .unset, .unset, .unset] [(.int (1 : Int32))])) st91 ?_
  clear st91
  refine own_st (T' := T91) (g' := (mkF m 104 #[iv i0, .val (.long i1), .second, iv i2, iv ((2 : Int32) + (i0 &&& (3 : Int32))), rv b1, rv b33, rv b35, rv b39, .unset, .unset, .unset] [])) (fun _ k_ => XS.pop X91.here hx rfl (hb hby at_103) rfl rfl k_) ?_
  refine own_st (T' := T91) (g' := (mkF m 106 #[iv i0, .val (.long i1), .second, iv i2, iv ((2 : Int32) + (i0 &&& (3 : Int32))), rv b1, rv b33, rv b35, rv b39, .unset, .unset, .unset] [(.ref b39)])) (fun _ k_ => XS.aload X91.here hx rfl (hb hby at_104) rfl rfl  k_) ?_
  refine own_st (T' := T91) (g' := (mkF m 107 #[iv i0, .val (.long i1), .second, iv i2, iv ((2 : Int32) + (i0 &&& (3 : Int32))), rv b1, rv b33, rv b35, rv b39, .unset, .unset, .unset] [(.int i2), (.ref b39)])) (fun _ k_ => XS.iloadN X91.here hx rfl (hb hby at_106) rfl  k_) ?_
  have f92 := f90.keep K91 (allS fr35 (allS (Nat.le_trans (own_z f73) xq74_fresh_t) all0))
  obtain ⟨_, T93, L93, X93, hQ93, st93⟩ := own_callS X91 hx (y := own_m33) hown (mvT hZ (wd hw 98 rfl)) (mvT hZ (wd hw 99 rfl)) (mvT hZ (wd hw 4 rfl)) (mvT hZ (wd hw 100 rfl)) (by decide) (backOf (W := 1) (rm_let l Z a0 hw [] i2 w_TAKE_OUT w_TAKE_IN w_GRANT_OUT w_GRANT_IN T91.heap n0 f92 S_TAKE_OUT X_TAKE_OUT S_TAKE_IN X_TAKE_IN S_GRANT_OUT X_GRANT_OUT S_GRANT_IN X_GRANT_IN) hZ (wd hw 100 rfl) (wd hw 4 rfl) (by decide) (by decide)) (g := (mkF m 107 #[iv i0, .val (.long i1), .second, iv i2, iv ((2 : Int32) + (i0 &&& (3 : Int32))), rv b1, rv b33, rv b35, rv b39, .unset, .unset, .unset] [(.int i2), (.ref b39)])) rfl (by rw [hml]; rfl) (argsL := [(.int i2)]) (rest := [(.ref b39)]) (lenOf pd__I_Lcom_example_rights_leak_checker_rightsleakchecker_takegrant_Bridge_Letter_ rfl) rfl (by show 2 * 0 + _ ≤ _; exact Nat.le_of_eq rfl) (hb hby at_107) rfl rfl (by decide) (by decide) (c' := 16) (s' := 57) rfl rfl
  obtain ⟨b93, rfl, Nq93, eq93, xq93_old_b⟩ := hQ93
  have N93 := Fr.app N91 Nq93
  refine own_st (T' := T93) (g' := (mkF m 110 #[iv i0, .val (.long i1), .second, iv i2, iv ((2 : Int32) + (i0 &&& (3 : Int32))), rv b1, rv b33, rv b35, rv b39, .unset, .unset, .unset] [(.ref b93), (.ref b39)])) st93 ?_
  clear st93
  have f94 := fq41_0.keep K74
  have f95 := f94.keep K91
  have f96 := fq41_1.keep K74 (ninS (Ne.symm ne53) nin0)
  have ne97 : b39 ≠ t74 := Nat.ne_of_lt (Nat.lt_of_lt_of_le (Nat.lt_of_lt_of_le A39.lt K41.1) xq74_fresh_t)
  have f98 := f96.keep K91 (ninS (Ne.symm ne53) (ninS ne97 nin0))
  have f99 := fq41_2.keep K74 (ninS (Ne.symm ne53) nin0)
  have f100 := f99.keep K91 (ninS (Ne.symm ne53) (ninS ne97 nin0))
  have f101 := fq41_3.keep K74 (ninS (Ne.symm ne53) nin0)
  have f102 := f101.keep K91 (ninS (Ne.symm ne53) (ninS ne97 nin0))
  obtain ⟨cq103, kq103, q103a, q103b, q103c⟩ := isOf hZ eq93 f95
  obtain ⟨_, T103, L103, X103, hQ103, st103⟩ := own_callV X93 hx (y := own_m13) (z := own_m13) hown (mvT hZ (wd hw 67 rfl)) (mvT hZ (wd hw 68 rfl)) (notFace_of_selects (args := #[]) (mvT hZ (wd hw 70 rfl))) (mvT hZ (wd hw 70 rfl)) (mvT hZ (wd hw 69 rfl)) (by decide) (backOf (W := 0) (rm_add_0 l Z a0 hw [] b39 b93 (0 : Int32) dA clD kO T91.heap n0 f92 f95 f98 f100 f102 fr39 SDe AD LD OV FC (Ins.of_exa (xq93_old_b.ext f92.2) (wd hw 104 rfl))) hZ (wd hw 71 rfl) (wd hw 45 rfl) (by decide) (by decide)) q103a q103c (g := (mkF m 110 #[iv i0, .val (.long i1), .second, iv i2, iv ((2 : Int32) + (i0 &&& (3 : Int32))), rv b1, rv b33, rv b35, rv b39, .unset, .unset, .unset] [(.ref b93), (.ref b39)])) rfl (by rw [hml]; rfl) (argsL := [(.ref b93)]) (rest := []) (lenOf pd__Ljava_lang_Object__Z rfl) rfl (by show 2 * 0 + _ ≤ _; exact Nat.le_of_eq rfl) (hb hby at_110) rfl eq93 (by decide) (by decide) (c' := 17) (s' := 67) rfl rfl
  clear q103a q103b q103c kq103 cq103
  obtain ⟨t103, rfl, Nq103, K103, fq103_0, fq103_1, fq103_2, fq103_3, fq103_4, xq103_fresh_t⟩ := hQ103
  have N103 := Fr.app N93 Nq103
  refine own_st (T' := T103) (g' := (mkF m 113 #[iv i0, .val (.long i1), .second, iv i2, iv ((2 : Int32) + (i0 &&& (3 : Int32))), rv b1, rv b33, rv b35, rv b39, .unset, .unset, .unset] [(.int (1 : Int32))])) st103 ?_
  clear st103
  refine own_st (T' := T103) (g' := (mkF m 114 #[iv i0, .val (.long i1), .second, iv i2, iv ((2 : Int32) + (i0 &&& (3 : Int32))), rv b1, rv b33, rv b35, rv b39, .unset, .unset, .unset] [])) (fun _ k_ => XS.pop X103.here hx rfl (hb hby at_113) rfl rfl k_) ?_
  have f104 := f92.keep K103 (allS fr39 all0)
  have ne105 : b1 ≠ t74 := Nat.ne_of_lt (Nat.lt_of_lt_of_le (Nat.lt_of_lt_of_le (Nat.lt_of_lt_of_le (Nat.lt_of_lt_of_le (Nat.lt_of_lt_of_le (Nat.lt_of_lt_of_le (Nat.lt_of_lt_of_le (Nat.lt_of_lt_of_le (Nat.lt_of_lt_of_le (Nat.lt_of_lt_of_le (Nat.lt_of_lt_of_le (Nat.lt_of_lt_of_le (Nat.lt_of_lt_of_le (Nat.lt_of_lt_of_le (Nat.lt_of_lt_of_le (Nat.lt_of_lt_of_le V1.lt K3.1) (Nat.le_of_eq (Wr.size W6).symm)) K9.1) (Nat.le_of_eq (Wr.size W12).symm)) K15.1) (Nat.le_of_eq (Wr.size W18).symm)) K21.1) (Nat.le_of_eq (Wr.size W24).symm)) K27.1) (Nat.le_of_eq (Wr.size W30).symm)) K33.1) E35.1) K37.1) E39.1) K41.1) xq74_fresh_t)
  have f106 := f75.keep K91 (ninS ne44 (ninS ne105 nin0))
  have f107 := f106.keep K103 (ninS ne47 nin0)
  have f108 := f72.keep K74
  have f109 := f108.keep K91
  have f110 := f109.keep K103
  have f111 := f89.keep K91
  have f112 := f111.keep K103
  have f113 := fq15_0.wr W18
  have f114 := f113.keep K21
  have f115 := f114.wr W24
  have f116 := f115.keep K27
  have f117 := f116.wr W30
  have f118 := f117.keep K33
  have f119 := f118.ext E35
  have f120 := f119.keep K37
  have f121 := f120.ext E39
  have f122 := f121.keep K41
  have f123 := f122.keep K74
  have f124 := f123.keep K91
  have f125 := f124.keep K103
  have f126 := fq21_0.wr W24
  have f127 := f126.keep K27
  have f128 := f127.wr W30
  have f129 := f128.keep K33
  have f130 := f129.ext E35
  have f131 := f130.keep K37
  have f132 := f131.ext E39
  have f133 := f132.keep K41
  have f134 := f133.keep K74
  have f135 := f134.keep K91
  have f136 := f135.keep K103
  have f137 := fq27_0.wr W30
  have f138 := f137.keep K33
  have f139 := f138.ext E35
  have f140 := f139.keep K37
  have f141 := f140.ext E39
  have f142 := f141.keep K41
  have f143 := f142.keep K74
  have f144 := f143.keep K91
  have f145 := f144.keep K103
  have f146 := fq33_0.ext E35
  have f147 := f146.keep K37
  have f148 := f147.ext E39
  have f149 := f148.keep K41
  have f150 := f149.keep K74
  have f151 := f150.keep K91
  have f152 := f151.keep K103
  have f153 := fq91_0.keep K103
  have f154 := fq91_1.keep K103 (ninS ne53 nin0)
  have f155 := fq91_2.keep K103 (ninS ne53 nin0)
  have f156 := fq91_3.keep K103 (ninS ne53 nin0)
  have f157 := fq91_4.keep K103 (ninS (Ne.symm ne97) nin0)
  have ne158 : t74 ≠ t103 := Nat.ne_of_lt (Nat.lt_of_lt_of_le (Nat.lt_of_lt_of_le fq74_4.lt K91.1) xq103_fresh_t)
  have ne159 : b1 ≠ t103 := Nat.ne_of_lt (Nat.lt_of_lt_of_le (Nat.lt_of_lt_of_le (Nat.lt_of_lt_of_le (Nat.lt_of_lt_of_le (Nat.lt_of_lt_of_le (Nat.lt_of_lt_of_le (Nat.lt_of_lt_of_le (Nat.lt_of_lt_of_le (Nat.lt_of_lt_of_le (Nat.lt_of_lt_of_le (Nat.lt_of_lt_of_le (Nat.lt_of_lt_of_le (Nat.lt_of_lt_of_le (Nat.lt_of_lt_of_le (Nat.lt_of_lt_of_le (Nat.lt_of_lt_of_le (Nat.lt_of_lt_of_le (Nat.lt_of_lt_of_le V1.lt K3.1) (Nat.le_of_eq (Wr.size W6).symm)) K9.1) (Nat.le_of_eq (Wr.size W12).symm)) K15.1) (Nat.le_of_eq (Wr.size W18).symm)) K21.1) (Nat.le_of_eq (Wr.size W24).symm)) K27.1) (Nat.le_of_eq (Wr.size W30).symm)) K33.1) E35.1) K37.1) E39.1) K41.1) K74.1) K91.1) xq103_fresh_t)
  rcases own_and3 i0 with hn | hn | hn | hn
  · rw [show (2 : Int32) + (i0 &&& (3 : Int32)) = (2 : Int32) from by rw [hn]; rfl]
    exact seg_n2 h0 T103.heap n0 i0 i1 i2 b1 k1 b3 b9 b15 b21 b27 b33 b35 b39 t74 t103 b93 (((0 : Int32) + (1 : Int32)) + (1 : Int32)) ((0 : Int32) + (1 : Int32)) kO mir em w_TAKE_OUT w_TAKE_IN w_GRANT_OUT w_GRANT_IN (X103.mono (by decide) (by decide)) hx hZ hw hby hml hown hnm hret hlk rfl N103 f104 f107 f110 f112 f125 f136 f145 f152 f153 f154 f155 f156 fq103_0 fq103_1 fq103_2 fq103_3 f157 fq103_4 fr35 fr39 (Nat.le_trans (own_z f73) xq74_fresh_t) (Nat.le_trans (own_z f92) xq103_fresh_t) ne53 ne158 ne105 ne159 (Ne.symm (Old.ne f104 X_em.lt (Nat.le_trans (own_z f8) xq9_fresh_b))) xq93_old_b OV FC MIR SEm S_TAKE_OUT X_TAKE_OUT S_TAKE_IN X_TAKE_IN S_GRANT_OUT X_GRANT_OUT S_GRANT_IN X_GRANT_IN
  · rw [show (2 : Int32) + (i0 &&& (3 : Int32)) = (3 : Int32) from by rw [hn]; rfl]
    exact seg_n3 h0 T103.heap n0 i0 i1 i2 b1 k1 b3 b9 b15 b21 b27 b33 b35 b39 t74 t103 b93 (((0 : Int32) + (1 : Int32)) + (1 : Int32)) ((0 : Int32) + (1 : Int32)) kO mir em w_TAKE_OUT w_TAKE_IN w_GRANT_OUT w_GRANT_IN (X103.mono (by decide) (by decide)) hx hZ hw hby hml hown hnm hret hlk rfl N103 f104 f107 f110 f112 f125 f136 f145 f152 f153 f154 f155 f156 fq103_0 fq103_1 fq103_2 fq103_3 f157 fq103_4 fr35 fr39 (Nat.le_trans (own_z f73) xq74_fresh_t) (Nat.le_trans (own_z f92) xq103_fresh_t) ne53 ne158 ne105 ne159 (Ne.symm (Old.ne f104 X_em.lt (Nat.le_trans (own_z f8) xq9_fresh_b))) xq93_old_b OV FC MIR SEm S_TAKE_OUT X_TAKE_OUT S_TAKE_IN X_TAKE_IN S_GRANT_OUT X_GRANT_OUT S_GRANT_IN X_GRANT_IN
  · rw [show (2 : Int32) + (i0 &&& (3 : Int32)) = (4 : Int32) from by rw [hn]; rfl]
    exact seg_n4 h0 T103.heap n0 i0 i1 i2 b1 k1 b3 b9 b15 b21 b27 b33 b35 b39 t74 t103 b93 (((0 : Int32) + (1 : Int32)) + (1 : Int32)) ((0 : Int32) + (1 : Int32)) kO mir em w_TAKE_OUT w_TAKE_IN w_GRANT_OUT w_GRANT_IN (X103.mono (by decide) (by decide)) hx hZ hw hby hml hown hnm hret hlk rfl N103 f104 f107 f110 f112 f125 f136 f145 f152 f153 f154 f155 f156 fq103_0 fq103_1 fq103_2 fq103_3 f157 fq103_4 fr35 fr39 (Nat.le_trans (own_z f73) xq74_fresh_t) (Nat.le_trans (own_z f92) xq103_fresh_t) ne53 ne158 ne105 ne159 (Ne.symm (Old.ne f104 X_em.lt (Nat.le_trans (own_z f8) xq9_fresh_b))) xq93_old_b OV FC MIR SEm S_TAKE_OUT X_TAKE_OUT S_TAKE_IN X_TAKE_IN S_GRANT_OUT X_GRANT_OUT S_GRANT_IN X_GRANT_IN
  · rw [show (2 : Int32) + (i0 &&& (3 : Int32)) = (5 : Int32) from by rw [hn]; rfl]
    exact seg_n5 h0 T103.heap n0 i0 i1 i2 b1 k1 b3 b9 b15 b21 b27 b33 b35 b39 t74 t103 b93 (((0 : Int32) + (1 : Int32)) + (1 : Int32)) ((0 : Int32) + (1 : Int32)) kO mir em w_TAKE_OUT w_TAKE_IN w_GRANT_OUT w_GRANT_IN (X103.mono (by decide) (by decide)) hx hZ hw hby hml hown hnm hret hlk rfl N103 f104 f107 f110 f112 f125 f136 f145 f152 f153 f154 f155 f156 fq103_0 fq103_1 fq103_2 fq103_3 f157 fq103_4 fr35 fr39 (Nat.le_trans (own_z f73) xq74_fresh_t) (Nat.le_trans (own_z f92) xq103_fresh_t) ne53 ne158 ne105 ne159 (Ne.symm (Old.ne f104 X_em.lt (Nat.le_trans (own_z f8) xq9_fresh_b))) xq93_old_b OV FC MIR SEm S_TAKE_OUT X_TAKE_OUT S_TAKE_IN X_TAKE_IN S_GRANT_OUT X_GRANT_OUT S_GRANT_IN X_GRANT_IN
set_option maxRecDepth 65536 in
set_option maxHeartbeats 40000000 in
theorem comes_1 {Post : Tables → Env → Array Value → State → Outcome → State → Prop} (hpost : ∀ tb e args s v u, (limb_1_1.after args s (.returned v) u = true ∧ limb_1_2.after args s (.returned v) u = true ∧ True) → FrameEnd s (.returned v) u (Jvm.fieldLocs frame_1_writes args s ++ Jvm.arrayLocs frame_1_arrays args s ++ Jvm.staticLocs frame_1_statics s) 56 256 → Post tb e args s (.returned v) u) :
    ArmFor flags0 classFile x code maxLocals ret World_1 tables_1 room_1 Calls_1 rest_1 Pre_1 Post := by
  intro l hfl _ _ p e ha hc hk s m args below hf hA hF happ hP
  obtain ⟨hcalls, hrest, hpre⟩ := hP
  obtain ⟨-, -, -, hnamed, -, -, -, hat⟩ := (Spec.applies_iff hf).mp happ
  obtain ⟨hg, hn⟩ := and_e (Cond.before_iff.mp (show (Jvm.Cond.and given_1 narrow_1).before args s = true from hpre))
  obtain ⟨u1a, u1b⟩ := and_e hg
  obtain ⟨u2a, u2b⟩ := and_e u1b
  obtain ⟨u3a, u3b⟩ := and_e u2b
  obtain ⟨v0, v1, v2, rfl⟩ : ∃ v0 v1 v2 : Value, args = #[v0, v1, v2] := by
    have hs : args.size = 3 := by simpa [Cond.value, given_1] using u1a
    obtain ⟨L⟩ := args
    match L, hs with
    | [v0, v1, v2], _ => exact ⟨v0, v1, v2, rfl⟩
  have hw := fun d (hd : d ∈ tables_1) => atoms_spec (ws := Jvm.Cond.code x code maxLocals ret :: tables_1) hat d (List.mem_cons_of_mem _ hd)
  have hfit : Fit s := fun {y c} hc i hi => by
    obtain ⟨ha, rfl⟩ := Array.getElem?_eq_some_iff.mp hc
    have q := List.all_eq_true.mp ((Array.all_eq_true_iff_forall_mem.mp hF) _ (Array.getElem_mem ha)) i (List.mem_range.mpr hi)
    simpa [Array.getElem?_eq_getElem hi] using q
  obtain ⟨hsets, hown0⟩ := atoms_of _ (rest_1_c_eq ▸ (show rest_1_c.before _ s = true from hrest))
  have hr0 := Cond.before_iff.mp hown0
  obtain ⟨i0, ei0⟩ := is_v u2a
  obtain rfl : v0 = (.int i0) := Option.some.inj ei0
  obtain ⟨i1, ei1⟩ := isL_v u3a
  obtain rfl : v1 = (.long i1) := Option.some.inj ei1
  obtain ⟨i2, ei2⟩ := is_v u3b
  obtain rfl : v2 = (.int i2) := Option.some.inj ei2
  obtain ⟨u4a, u4b⟩ := and_e hn
  obtain ⟨u5a, u5b⟩ := and_e u4b
  obtain ⟨u6a, u6b⟩ := and_e u5b
  obtain ⟨w_TAKE_IN, ev_TAKE_IN⟩ := exa_v u4a
  have S_TAKE_IN := Sta.start ev_TAKE_IN (Or.inr ⟨(wd hw 102 rfl), (wd hw 103 rfl)⟩)
  have X_TAKE_IN := Exa.start ev_TAKE_IN u4a
  obtain ⟨w_GRANT_OUT, ev_GRANT_OUT⟩ := exa_v u5a
  have S_GRANT_OUT := Sta.start ev_GRANT_OUT (Or.inr ⟨(wd hw 102 rfl), (wd hw 240 rfl)⟩)
  have X_GRANT_OUT := Exa.start ev_GRANT_OUT u5a
  obtain ⟨w_TAKE_OUT, ev_TAKE_OUT⟩ := exa_v u6a
  have S_TAKE_OUT := Sta.start ev_TAKE_OUT (Or.inr ⟨(wd hw 102 rfl), (wd hw 242 rfl)⟩)
  have X_TAKE_OUT := Exa.start ev_TAKE_OUT u6a
  obtain ⟨w_GRANT_IN, ev_GRANT_IN⟩ := exa_v u6b
  have S_GRANT_IN := Sta.start ev_GRANT_IN (Or.inr ⟨(wd hw 102 rfl), (wd hw 244 rfl)⟩)
  have X_GRANT_IN := Exa.start ev_GRANT_IN u6b
  obtain ⟨cz, evc⟩ := is_v (Cond.before_iff.mp (hsets _ (List.mem_of_getElem? (i := 1) rfl)))
  have SC := Sta.start evc (Or.inl (hsets _ (List.mem_of_getElem? (i := 0) rfl)))
  have hcz : ¬ cz = (0 : Int32) := own_nz evc (Cond.before_iff.mp (hsets _ (List.mem_of_getElem? (i := 2) rfl)))
  have SA := Sta.start (own_int0 (Cond.before_iff.mp (hsets _ (List.mem_of_getElem? (i := 12) rfl)))) (Or.inl (hsets _ (List.mem_of_getElem? (i := 11) rfl)))
  have SHI := Sta.start (own_int0 (Cond.before_iff.mp (hsets _ (List.mem_of_getElem? (i := 15) rfl)))) (Or.inl (hsets _ (List.mem_of_getElem? (i := 14) rfl)))
  have SLO := Sta.start (own_int0 (Cond.before_iff.mp (hsets _ (List.mem_of_getElem? (i := 18) rfl)))) (Or.inl (hsets _ (List.mem_of_getElem? (i := 17) rfl)))
  obtain ⟨dA, evd⟩ := exa_v (Cond.before_iff.mp (hsets _ (List.mem_of_getElem? (i := 26) rfl)))
  have SDe := Sta.start evd (Or.inr ⟨(wd hw 45 rfl), (hsets _ (List.mem_of_getElem? (i := 21) rfl))⟩)
  obtain ⟨clD, AD⟩ := Arr.start evd (Cond.before_iff.mp (hsets _ (List.mem_of_getElem? (i := 25) rfl)))
  have LD := own_len0 evd AD (Cond.before_iff.mp (hsets _ (List.mem_of_getElem? (i := 27) rfl)))
  obtain ⟨em, eve⟩ := exa_v (Cond.before_iff.mp (hsets _ (List.mem_of_getElem? (i := 30) rfl)))
  have SEm := Sta.start eve (Or.inl (hsets _ (List.mem_of_getElem? (i := 29) rfl)))
  have X_em := Exa.start eve (Cond.before_iff.mp (hsets _ (List.mem_of_getElem? (i := 30) rfl)))
  obtain ⟨kO, OV, FC⟩ := own_OV (wd hw 96 rfl)
  obtain ⟨cM, kM, mir, hM1, hM2, hM3, -⟩ := hcalls.1
  have MIR : own_Mir s "[Ljava/lang/Object;" mir := ⟨cM, kM, hM1, hM2, hM3⟩
  obtain ⟨n, o, h1, h2, h3, _, L, rfl, ⟨rfl, N⟩, hq⟩ := rm_0 l s _ hw tables_1 i0 i1 i2 dA clD kO mir em w_TAKE_OUT w_TAKE_IN w_GRANT_OUT w_GRANT_IN cz s.heap s.heap.size (Old.start s) SC hcz SA SHI SLO SDe AD LD OV FC MIR SEm X_em S_TAKE_OUT X_TAKE_OUT S_TAKE_IN X_TAKE_IN S_GRANT_OUT X_GRANT_OUT S_GRANT_IN X_GRANT_IN p e ha hc hk s m _ below hf ((Spec.applies_iff_loose hf).mp happ).1 ⟨rfl, State.Warmed39.refl s, rfl⟩ trivial
  refine ⟨n, _, h1, h2, h3, hpost _ _ _ _ _ _ ⟨Cond.after_iff.mpr rfl, Cond.after_iff.mpr (eq_i res_at (Term.int_eval (1)) rfl), trivial⟩ ⟨hq.1, hq.2.1, (hq.2.2.sift fun y hy => Or.inr (N y hy)).mono (by decide) (by decide)⟩⟩
theorem main_1_1 : Claimed_1_1 := comes_1 fun _ _ _ _ _ _ h hF => ⟨h.1, hF⟩
theorem main_1_2 : Claimed_1_2 := comes_1 fun _ _ _ _ _ _ h hF => ⟨h.2.1, hF⟩
end Jvm.Pilot.@@N@@
namespace Jvm.Pilot.@@N@@
open Jvm Jvm.ClassFile Sem Op Lib Jvm.Free Jvm.Stand Jvm.Pilot.@@N@@.Jvm.D
/-! MADE BY PROGRAM (witnessworld.py) out of the Statement's table words and the real class files: 39 classes; the members and pool entries that the words name. The judged class is class 1, her method 3. -/
namespace start1
open Jvm.ClassFile
def u (s : String) : CpInfo := .utf8 (stringToUtf16 s)
/-- a pool by its gaps: so many unusable entries, then the entry; so many at the end -/
def gap : Nat → List CpInfo → List CpInfo
  | 0, r => r
  | n + 1, r => .unusable :: gap n r
def poolList (es : List (Nat × CpInfo)) (last : Nat) : List CpInfo := es.foldr (fun e r => gap e.1 (e.2 :: r)) (gap last [])
def pool (es : List (Nat × CpInfo)) (last : Nat) : Array CpInfo := ⟨poolList es last⟩
def fileOf (pool : Array CpInfo) (this : Nat) (attrs : Array Attribute := #[]) (ms : Array MethodInfo := #[]) (fl : Nat := 33) (sup : Nat := 0) (ifs : Array Nat := #[]) (fds : Array FieldInfo := #[]) : ClassFile where
  minorVersion := 0
  majorVersion := 65
  constantPool := pool
  accessFlags := fl
  thisClass := this
  superClass := sup
  interfaces := ifs
  fields := fds
  methods := ms
  attributes := attrs
def plain (name : String) (sup : Option ClassId) : Class where
  name := name
  kind := .ordinary
  loader := none
  accessFlags := 33
  super := sup
  interfaces := #[]
  cf := none
  fields := #[]
  methods := #[]
  instanceTypes := #[]
  staticTypes := #[]
  resolved := #[]
  callSites := []
  init := .initialized
  statics := none
  mirror := none

def pool0 : Array CpInfo := pool [(5, u "<init>"), (0, u "()V"), (1, .class_ 10), (1, u "java/lang/Object"), (0, u "getClass"), (0, u "()Ljava/lang/Class;")] 111

def k0c0 : Code := { maxStack := 0, maxLocals := 1, code := object_method_1_code, exceptionTable := #[], attributes := #[] }
def k0m0 : Method := { name := "<init>", desc := "()V", sig := { parameters := [], returnType := none }, accessFlags := 1, code := some k0c0 }
def k0m1 : Method := { name := "getClass", desc := "()Ljava/lang/Class;", sig := { parameters := [], returnType := some (.object "java/lang/Class") }, accessFlags := 273, code := none }
/-- java/lang/Object -/
def k0 : Class := { plain "java/lang/Object" none with
  accessFlags := 33
  interfaces := #[]
  cf := some (fileOf pool0 8 #[] #[{ accessFlags := 1, nameIndex := 5, descriptorIndex := 6, attributes := #[] }, { accessFlags := 273, nameIndex := 11, descriptorIndex := 12, attributes := #[] }] 33 0 #[] #[])
  fields := #[]
  methods := #[k0m0, k0m1]
  instanceTypes := #[]
  staticTypes := #[]
  resolved := Array.replicate 124 none
  statics := none }

def pool1 : Array CpInfo := pool [(2, .class_ 4), (0, .nameAndType 5 6), (0, u "java/lang/Object"), (0, u "<init>"), (0, u "()V"), (0, .fieldref 8 9), (0, .class_ 10), (0, .nameAndType 11 12), (0, u "com/example/rights_leak_checker/rightsleakchecker/takegrant/Bridge$Letter"), (0, u "TAKE_OUT"), (0, u "Lcom/example/rights_leak_checker/rightsleakchecker/takegrant/Bridge$Letter;"), (0, .fieldref 8 14), (0, .nameAndType 15 12), (0, u "TAKE_IN"), (0, .fieldref 8 17), (0, .nameAndType 18 12), (0, u "GRANT_OUT"), (0, .fieldref 8 20), (0, .nameAndType 21 12), (0, u "GRANT_IN"), (0, .long 255), (1, .methodref 25 26), (0, .class_ 27), (0, .nameAndType 28 29), (0, u "java/lang/String"), (0, u "valueOf"), (0, u "(C)Ljava/lang/String;"), (0, .methodref 31 32), (0, .class_ 33), (0, .nameAndType 34 35), (0, u "com/example/rights_leak_checker/rightsleakchecker/takegrant/BridgeToPinLaw"), (0, u "vertex"), (0, u "(JI)Ljava/lang/String;"), (0, .class_ 37), (0, u "java/util/ArrayList"), (0, .methodref 36 3), (0, .methodref 36 40), (0, .nameAndType 41 42), (0, u "add"), (0, u "(Ljava/lang/Object;)Z"), (0, .methodref 31 44), (0, .nameAndType 45 46), (0, u "letter"), (0, u "(I)Lcom/example/rights_leak_checker/rightsleakchecker/takegrant/Bridge$Letter;"), (0, .class_ 48), (0, u "com/example/rights_leak_checker/rightsleakchecker/takegrant/Bridge"), (0, .methodref 47 50), (0, .nameAndType 5 51), (0, u "(Ljava/util/List;Ljava/util/List;)V"), (0, .methodref 47 53), (0, .nameAndType 54 55), (0, u "to"), (0, u "()Ljava/lang/String;"), (0, .methodref 25 57), (0, .nameAndType 58 42), (0, u "equals"), (3, u "law"), (0, u "(IJI)Z")] 6

def k1m0 : Method := { name := "<init>", desc := "()V", sig := { parameters := [], returnType := none }, accessFlags := 1, code := none }
def k1c1 : Code := { maxStack := 2, maxLocals := 2, code := method_2_code, exceptionTable := #[], attributes := #[] }
def k1m1 : Method := { name := "letter", desc := "(I)Lcom/example/rights_leak_checker/rightsleakchecker/takegrant/Bridge$Letter;", sig := { parameters := [.int], returnType := some (.object "com/example/rights_leak_checker/rightsleakchecker/takegrant/Bridge$Letter") }, accessFlags := 10, code := some k1c1 }
def k1c2 : Code := { maxStack := 4, maxLocals := 3, code := method_3_code, exceptionTable := #[], attributes := #[] }
def k1m2 : Method := { name := "vertex", desc := "(JI)Ljava/lang/String;", sig := { parameters := [.long, .int], returnType := some (.object "java/lang/String") }, accessFlags := 10, code := some k1c2 }
def k1c3 : Code := { maxStack := 5, maxLocals := 12, code := code, exceptionTable := #[], attributes := #[] }
def k1m3 : Method := { name := "law", desc := "(IJI)Z", sig := { parameters := [.int, .long, .int], returnType := some .boolean }, accessFlags := 9, code := some k1c3 }
/-- com/example/rights_leak_checker/rightsleakchecker/takegrant/BridgeToPinLaw -/
def k1 : Class := { plain "com/example/rights_leak_checker/rightsleakchecker/takegrant/BridgeToPinLaw" (some 0) with
  accessFlags := 49
  interfaces := #[]
  cf := some (fileOf pool1 31 #[] #[{ accessFlags := 1, nameIndex := 5, descriptorIndex := 6, attributes := #[] }, { accessFlags := 10, nameIndex := 45, descriptorIndex := 46, attributes := #[] }, { accessFlags := 10, nameIndex := 34, descriptorIndex := 35, attributes := #[] }, { accessFlags := 9, nameIndex := 62, descriptorIndex := 63, attributes := #[] }] 49 2 #[] #[])
  fields := #[]
  methods := #[k1m0, k1m1, k1m2, k1m3]
  instanceTypes := #[]
  staticTypes := #[]
  resolved := Array.replicate 70 none
  statics := none }

def pool2 : Array CpInfo := pool [(1, .class_ 2), (0, u "java/io/Serializable"), (0, .class_ 4), (0, u "java/lang/Object")] 2

/-- java/io/Serializable -/
def k2 : Class := { plain "java/io/Serializable" (some 0) with
  accessFlags := 1537
  interfaces := #[]
  cf := some (fileOf pool2 1 #[] #[] 1537 3 #[] #[])
  fields := #[]
  methods := #[]
  instanceTypes := #[]
  staticTypes := #[]
  resolved := Array.replicate 7 none
  statics := none }

def pool3 : Array CpInfo := pool [(1, .class_ 2), (0, u "java/lang/Comparable"), (0, .class_ 4), (0, u "java/lang/Object")] 7

/-- java/lang/Comparable -/
def k3 : Class := { plain "java/lang/Comparable" (some 0) with
  accessFlags := 1537
  interfaces := #[]
  cf := some (fileOf pool3 1 #[] #[] 1537 3 #[] #[])
  fields := #[]
  methods := #[]
  instanceTypes := #[]
  staticTypes := #[]
  resolved := Array.replicate 12 none
  statics := none }

def pool4 : Array CpInfo := pool [(2, .class_ 4), (1, u "java/lang/CharSequence"), (42, .class_ 48), (0, u "java/lang/CharSequence$1CodePointIterator"), (10, .class_ 60), (0, u "java/lang/CharSequence$1CharIterator"), (5, .class_ 67), (0, u "java/lang/Object")] 63

/-- java/lang/CharSequence -/
def k4 : Class := { plain "java/lang/CharSequence" (some 0) with
  accessFlags := 1537
  interfaces := #[]
  cf := some (fileOf pool4 2 #[.nestMembers #[47, 59]] #[] 1537 66 #[] #[])
  fields := #[]
  methods := #[]
  instanceTypes := #[]
  staticTypes := #[]
  resolved := Array.replicate 131 none
  statics := none }

def pool5 : Array CpInfo := pool [(1, .class_ 2), (0, u "java/lang/constant/Constable"), (0, .class_ 4), (0, u "java/lang/Object")] 6

/-- java/lang/constant/Constable -/
def k5 : Class := { plain "java/lang/constant/Constable" (some 0) with
  accessFlags := 1537
  interfaces := #[]
  cf := some (fileOf pool5 1 #[] #[] 1537 3 #[] #[])
  fields := #[]
  methods := #[]
  instanceTypes := #[]
  staticTypes := #[]
  resolved := Array.replicate 11 none
  statics := none }

def pool6 : Array CpInfo := pool [(1, .class_ 2), (0, u "java/lang/constant/ConstantDesc"), (0, .class_ 4), (0, u "java/lang/Object")] 32

/-- java/lang/constant/ConstantDesc -/
def k6 : Class := { plain "java/lang/constant/ConstantDesc" (some 0) with
  accessFlags := 1537
  interfaces := #[]
  cf := some (fileOf pool6 1 #[] #[] 1537 3 #[] #[])
  fields := #[]
  methods := #[]
  instanceTypes := #[]
  staticTypes := #[]
  resolved := Array.replicate 37 none
  statics := none }

def pool7 : Array CpInfo := pool [(1, .methodref 2 3), (0, .class_ 4), (0, .nameAndType 5 6), (0, u "java/lang/Object"), (0, u "<init>"), (0, u "()V"), (2, .fieldref 10 11), (0, .class_ 12), (0, .nameAndType 13 14), (0, u "java/lang/String"), (0, u "value"), (0, u "[B"), (0, .fieldref 10 16), (0, .nameAndType 17 18), (0, u "coder"), (0, u "B"), (2, u "hash"), (0, u "I"), (2, u "hashIsZero"), (0, u "Z"), (11, .fieldref 10 39), (0, .nameAndType 40 26), (0, u "COMPACT_STRINGS"), (1, .class_ 44), (1, u "java/lang/StringUTF16"), (8, u "toBytes"), (53, .class_ 109), (1, u "java/lang/StringLatin1"), (99, .methodref 10 210), (0, .nameAndType 5 211), (0, u "([BB)V"), (157, u "(C)Z"), (173, u "equals"), (29, u "(Ljava/lang/Object;)Z"), (1, .class_ 576), (0, u "java/lang/CharSequence"), (22, u "CASE_INSENSITIVE_ORDER"), (0, u "Ljava/util/Comparator;"), (181, u "valueOf"), (0, u "(C)Ljava/lang/String;"), (231, .methodref 107 1016), (0, .nameAndType 1017 369), (0, u "canEncode"), (0, .methodref 107 1019), (0, .nameAndType 53 1020), (0, u "(C)[B"), (0, .methodref 42 1019), (79, u "serialPersistentFields"), (0, u "[Ljava/io/ObjectStreamField;"), (0, .class_ 1104), (0, u "java/lang/String$CaseInsensitiveComparator"), (1, .class_ 1107), (0, u "java/io/Serializable"), (0, .class_ 1109), (0, u "java/lang/Comparable"), (0, .class_ 1111), (0, u "java/lang/constant/Constable"), (0, .class_ 1113), (0, u "java/lang/constant/ConstantDesc"), (2, u "serialVersionUID"), (0, u "J"), (3, u "REPL"), (0, u "C"), (2, u "LATIN1"), (1, u "UTF16")] 323

def k7m0 : Method := { name := "<init>", desc := "()V", sig := { parameters := [], returnType := none }, accessFlags := 1, code := none }
def k7c1 : Code := { maxStack := 2, maxLocals := 3, code := jdk_42_method_66_code, exceptionTable := #[], attributes := #[] }
def k7m1 : Method := { name := "equals", desc := "(Ljava/lang/Object;)Z", sig := { parameters := [(.object "java/lang/Object")], returnType := some .boolean }, accessFlags := 1, code := some k7c1 }
def k7c2 : Code := { maxStack := 4, maxLocals := 1, code := jdk_42_method_139_code, exceptionTable := #[], attributes := #[] }
def k7m2 : Method := { name := "valueOf", desc := "(C)Ljava/lang/String;", sig := { parameters := [.char], returnType := some (.object "java/lang/String") }, accessFlags := 9, code := some k7c2 }
def k7c3 : Code := { maxStack := 2, maxLocals := 3, code := jdk_42_method_151_code, exceptionTable := #[], attributes := #[] }
def k7m3 : Method := { name := "<init>", desc := "([BB)V", sig := { parameters := [(.array .byte), .byte], returnType := none }, accessFlags := 0, code := some k7c3 }
/-- java/lang/String -/
def k7 : Class := { plain "java/lang/String" (some 0) with
  accessFlags := 49
  interfaces := #[2, 3, 4, 5, 6]
  cf := some (fileOf pool7 10 #[.nestMembers #[1103]] #[{ accessFlags := 1, nameIndex := 5, descriptorIndex := 6, attributes := #[] }, { accessFlags := 1, nameIndex := 543, descriptorIndex := 573, attributes := #[] }, { accessFlags := 9, nameIndex := 782, descriptorIndex := 783, attributes := #[] }, { accessFlags := 0, nameIndex := 5, descriptorIndex := 211, attributes := #[] }] 49 2 #[1106, 1108, 575, 1110, 1112] #[{ accessFlags := 18, nameIndex := 13, descriptorIndex := 14, attributes := #[] }, { accessFlags := 18, nameIndex := 17, descriptorIndex := 18, attributes := #[] }, { accessFlags := 2, nameIndex := 21, descriptorIndex := 22, attributes := #[] }, { accessFlags := 2, nameIndex := 25, descriptorIndex := 26, attributes := #[] }, { accessFlags := 26, nameIndex := 1116, descriptorIndex := 1117, attributes := #[] }, { accessFlags := 24, nameIndex := 40, descriptorIndex := 26, attributes := #[] }, { accessFlags := 26, nameIndex := 1101, descriptorIndex := 1102, attributes := #[] }, { accessFlags := 26, nameIndex := 1121, descriptorIndex := 1122, attributes := #[] }, { accessFlags := 25, nameIndex := 599, descriptorIndex := 600, attributes := #[] }, { accessFlags := 24, nameIndex := 1125, descriptorIndex := 18, attributes := #[] }, { accessFlags := 24, nameIndex := 1127, descriptorIndex := 18, attributes := #[] }])
  fields := #[{ name := "value", type := (.array .byte), accessFlags := 18, slot := 0, constantValue := 0 }, { name := "coder", type := .byte, accessFlags := 18, slot := 1, constantValue := 0 }, { name := "hash", type := .int, accessFlags := 2, slot := 2, constantValue := 0 }, { name := "hashIsZero", type := .boolean, accessFlags := 2, slot := 3, constantValue := 0 }, { name := "serialVersionUID", type := .long, accessFlags := 26, slot := 0, constantValue := 0 }, { name := "COMPACT_STRINGS", type := .boolean, accessFlags := 24, slot := 1, constantValue := 0 }, { name := "serialPersistentFields", type := (.array (.object "java/io/ObjectStreamField")), accessFlags := 26, slot := 2, constantValue := 0 }, { name := "REPL", type := .char, accessFlags := 26, slot := 3, constantValue := 0 }, { name := "CASE_INSENSITIVE_ORDER", type := (.object "java/util/Comparator"), accessFlags := 25, slot := 4, constantValue := 0 }, { name := "LATIN1", type := .byte, accessFlags := 24, slot := 5, constantValue := 0 }, { name := "UTF16", type := .byte, accessFlags := 24, slot := 6, constantValue := 0 }]
  methods := #[k7m0, k7m1, k7m2, k7m3]
  instanceTypes := #[(.array .byte), .byte, .int, .boolean]
  staticTypes := #[.long, .boolean, (.array (.object "java/io/ObjectStreamField")), .char, (.object "java/util/Comparator"), .byte, .byte]
  resolved := Array.replicate 1451 none
  statics := some 0 }

def pool8 : Array CpInfo := pool [(4, .class_ 6), (1, u "java/lang/Object"), (0, u "<init>"), (0, u "()V"), (5, .class_ 16), (1, u "java/lang/StringLatin1"), (73, u "canEncode"), (14, u "(C)Z"), (15, u "$assertionsDisabled"), (0, u "Z"), (98, .class_ 223), (1, u "java/lang/StringLatin1$LinesSpliterator"), (156, u "toBytes"), (1, u "(C)[B"), (7, .class_ 391), (0, u "java/lang/StringLatin1$CharsSpliterator")] 3

def k8m0 : Method := { name := "<init>", desc := "()V", sig := { parameters := [], returnType := none }, accessFlags := 0, code := none }
def k8c1 : Code := { maxStack := 2, maxLocals := 1, code := jdk_43_method_3_code, exceptionTable := #[], attributes := #[] }
def k8m1 : Method := { name := "canEncode", desc := "(C)Z", sig := { parameters := [.char], returnType := some .boolean }, accessFlags := 9, code := some k8c1 }
def k8c2 : Code := { maxStack := 4, maxLocals := 1, code := jdk_43_method_46_code, exceptionTable := #[], attributes := #[] }
def k8m2 : Method := { name := "toBytes", desc := "(C)[B", sig := { parameters := [.char], returnType := some (.array .byte) }, accessFlags := 9, code := some k8c2 }
/-- java/lang/StringLatin1 -/
def k8 : Class := { plain "java/lang/StringLatin1" (some 0) with
  accessFlags := 48
  interfaces := #[]
  cf := some (fileOf pool8 14 #[.nestMembers #[390, 221]] #[{ accessFlags := 0, nameIndex := 7, descriptorIndex := 8, attributes := #[] }, { accessFlags := 9, nameIndex := 90, descriptorIndex := 105, attributes := #[] }, { accessFlags := 9, nameIndex := 380, descriptorIndex := 382, attributes := #[] }] 48 4 #[] #[{ accessFlags := 4120, nameIndex := 121, descriptorIndex := 122, attributes := #[] }])
  fields := #[{ name := "$assertionsDisabled", type := .boolean, accessFlags := 4120, slot := 0, constantValue := 0 }]
  methods := #[k8m0, k8m1, k8m2]
  instanceTypes := #[]
  staticTypes := #[.boolean]
  resolved := Array.replicate 395 none
  statics := none }

def pool9 : Array CpInfo := pool [(6, .class_ 8), (1, u "java/lang/Object"), (0, u "<init>"), (0, u "()V"), (1, .class_ 14), (1, u "java/lang/StringUTF16"), (29, .fieldref 12 45), (0, .nameAndType 46 47), (0, u "$assertionsDisabled"), (0, u "Z"), (11, .fieldref 12 60), (0, .nameAndType 61 62), (0, u "HI_BYTE_SHIFT"), (0, u "I"), (0, .fieldref 12 64), (0, .nameAndType 65 62), (0, u "LO_BYTE_SHIFT"), (45, .methodref 12 112), (0, .nameAndType 113 114), (0, u "putChar"), (0, u "([BII)V"), (6, u "toBytes"), (247, .class_ 371), (1, u "java/lang/StringUTF16$LinesSpliterator"), (58, u "MAX_LENGTH"), (44, u "(C)[B"), (151, .class_ 628), (0, u "java/lang/StringUTF16$CodePointsSpliterator"), (0, .class_ 630), (0, u "java/lang/StringUTF16$CharsSpliterator")] 4

def k9m0 : Method := { name := "<init>", desc := "()V", sig := { parameters := [], returnType := none }, accessFlags := 0, code := none }
def k9c1 : Code := { maxStack := 4, maxLocals := 3, code := jdk_52_method_4_code, exceptionTable := #[], attributes := #[] }
def k9m1 : Method := { name := "putChar", desc := "([BII)V", sig := { parameters := [(.array .byte), .int, .int], returnType := none }, accessFlags := 8, code := some k9c1 }
def k9c2 : Code := { maxStack := 3, maxLocals := 2, code := jdk_52_method_24_code, exceptionTable := #[], attributes := #[] }
def k9m2 : Method := { name := "toBytes", desc := "(C)[B", sig := { parameters := [.char], returnType := some (.array .byte) }, accessFlags := 9, code := some k9c2 }
/-- java/lang/StringUTF16 -/
def k9 : Class := { plain "java/lang/StringUTF16" (some 0) with
  accessFlags := 48
  interfaces := #[]
  cf := some (fileOf pool9 12 #[.nestMembers #[627, 629, 369]] #[{ accessFlags := 0, nameIndex := 9, descriptorIndex := 10, attributes := #[] }, { accessFlags := 8, nameIndex := 113, descriptorIndex := 114, attributes := #[] }, { accessFlags := 9, nameIndex := 121, descriptorIndex := 475, attributes := #[] }] 48 6 #[] #[{ accessFlags := 26, nameIndex := 61, descriptorIndex := 62, attributes := #[] }, { accessFlags := 26, nameIndex := 65, descriptorIndex := 62, attributes := #[] }, { accessFlags := 24, nameIndex := 430, descriptorIndex := 62, attributes := #[] }, { accessFlags := 4120, nameIndex := 46, descriptorIndex := 47, attributes := #[] }])
  fields := #[{ name := "HI_BYTE_SHIFT", type := .int, accessFlags := 26, slot := 0, constantValue := 0 }, { name := "LO_BYTE_SHIFT", type := .int, accessFlags := 26, slot := 1, constantValue := 0 }, { name := "MAX_LENGTH", type := .int, accessFlags := 24, slot := 2, constantValue := 0 }, { name := "$assertionsDisabled", type := .boolean, accessFlags := 4120, slot := 3, constantValue := 0 }]
  methods := #[k9m0, k9m1, k9m2]
  instanceTypes := #[]
  staticTypes := #[.int, .int, .int, .boolean]
  resolved := Array.replicate 635 none
  statics := some 1 }

def pool10 : Array CpInfo := pool [(8, .class_ 10), (1, u "java/lang/Iterable"), (24, .class_ 36), (0, u "java/lang/Object")] 25

/-- java/lang/Iterable -/
def k10 : Class := { plain "java/lang/Iterable" (some 0) with
  accessFlags := 1537
  interfaces := #[]
  cf := some (fileOf pool10 8 #[] #[] 1537 35 #[] #[])
  fields := #[]
  methods := #[]
  instanceTypes := #[]
  staticTypes := #[]
  resolved := Array.replicate 62 none
  statics := none }

def pool11 : Array CpInfo := pool [(10, .class_ 12), (1, u "java/util/Collection"), (0, u "toArray"), (16, u "()Z"), (29, .class_ 61), (0, u "java/lang/Object"), (0, .class_ 63), (0, u "java/lang/Iterable"), (2, u "isEmpty"), (3, u "()[Ljava/lang/Object;")] 44

def k11m0 : Method := { name := "isEmpty", desc := "()Z", sig := { parameters := [], returnType := some .boolean }, accessFlags := 1025, code := none }
def k11m1 : Method := { name := "toArray", desc := "()[Ljava/lang/Object;", sig := { parameters := [], returnType := some (.array (.object "java/lang/Object")) }, accessFlags := 1025, code := none }
/-- java/util/Collection -/
def k11 : Class := { plain "java/util/Collection" (some 0) with
  accessFlags := 1537
  interfaces := #[10]
  cf := some (fileOf pool11 10 #[] #[{ accessFlags := 1025, nameIndex := 66, descriptorIndex := 30, attributes := #[] }, { accessFlags := 1025, nameIndex := 13, descriptorIndex := 70, attributes := #[] }] 1537 60 #[62] #[])
  fields := #[]
  methods := #[k11m0, k11m1]
  instanceTypes := #[]
  staticTypes := #[]
  resolved := Array.replicate 115 none
  statics := none }

def pool12 : Array CpInfo := pool [(1, .methodref 2 3), (0, .class_ 4), (0, .nameAndType 5 6), (0, u "java/lang/Object"), (0, u "<init>"), (0, u "()V"), (1, .class_ 10), (1, u "java/util/AbstractCollection"), (66, .class_ 78), (0, u "java/util/Collection")] 81

def k12c0 : Code := { maxStack := 1, maxLocals := 1, code := jdk_22_method_1_code, exceptionTable := #[], attributes := #[] }
def k12m0 : Method := { name := "<init>", desc := "()V", sig := { parameters := [], returnType := none }, accessFlags := 4, code := some k12c0 }
/-- java/util/AbstractCollection -/
def k12 : Class := { plain "java/util/AbstractCollection" (some 0) with
  accessFlags := 1057
  interfaces := #[11]
  cf := some (fileOf pool12 8 #[] #[{ accessFlags := 4, nameIndex := 5, descriptorIndex := 6, attributes := #[] }] 1057 2 #[77] #[])
  fields := #[]
  methods := #[k12m0]
  instanceTypes := #[]
  staticTypes := #[]
  resolved := Array.replicate 160 none
  statics := none }

def pool13 : Array CpInfo := pool [(8, .class_ 10), (1, u "java/util/SequencedCollection"), (15, .class_ 27), (0, u "java/lang/Object"), (0, .class_ 29), (0, u "java/util/Collection")] 27

/-- java/util/SequencedCollection -/
def k13 : Class := { plain "java/util/SequencedCollection" (some 0) with
  accessFlags := 1537
  interfaces := #[11]
  cf := some (fileOf pool13 8 #[] #[] 1537 26 #[28] #[])
  fields := #[]
  methods := #[]
  instanceTypes := #[]
  staticTypes := #[]
  resolved := Array.replicate 57 none
  statics := none }

def pool14 : Array CpInfo := pool [(8, .class_ 10), (1, u "java/util/List"), (20, u "(Ljava/lang/Object;)V"), (16, u "<init>"), (26, u "get"), (0, u "(I)Ljava/lang/Object;"), (2, u "size"), (0, u "()I"), (7, u "of"), (2, .class_ 93), (1, u "java/util/ImmutableCollections"), (2, .class_ 97), (0, u "java/util/ImmutableCollections$List12"), (0, .methodref 96 99), (0, .nameAndType 48 31), (0, .methodref 96 101), (0, .nameAndType 48 102), (0, u "(Ljava/lang/Object;Ljava/lang/Object;)V"), (0, .class_ 104), (0, u "java/lang/Object"), (3, u "([Ljava/lang/Object;)Ljava/util/List;"), (0, .methodref 91 110), (0, .nameAndType 111 108), (0, u "listFromArray"), (0, .methodref 91 113), (0, .nameAndType 114 115), (0, u "listCopy"), (0, u "(Ljava/util/Collection;)Ljava/util/List;"), (4, .class_ 121), (0, u "java/util/SequencedCollection"), (112, u "copyOf")] 16

def k14m0 : Method := { name := "size", desc := "()I", sig := { parameters := [], returnType := some .int }, accessFlags := 1025, code := none }
def k14m1 : Method := { name := "get", desc := "(I)Ljava/lang/Object;", sig := { parameters := [.int], returnType := some (.object "java/lang/Object") }, accessFlags := 1025, code := none }
def k14c2 : Code := { maxStack := 5, maxLocals := 2, code := jdk_40_method_47_code, exceptionTable := #[], attributes := #[] }
def k14m2 : Method := { name := "of", desc := "([Ljava/lang/Object;)Ljava/util/List;", sig := { parameters := [(.array (.object "java/lang/Object"))], returnType := some (.object "java/util/List") }, accessFlags := 137, code := some k14c2 }
def k14c3 : Code := { maxStack := 1, maxLocals := 1, code := jdk_40_method_48_code, exceptionTable := #[], attributes := #[] }
def k14m3 : Method := { name := "copyOf", desc := "(Ljava/util/Collection;)Ljava/util/List;", sig := { parameters := [(.object "java/util/Collection")], returnType := some (.object "java/util/List") }, accessFlags := 9, code := some k14c3 }
/-- java/util/List -/
def k14 : Class := { plain "java/util/List" (some 0) with
  accessFlags := 1537
  interfaces := #[13]
  cf := some (fileOf pool14 8 #[] #[{ accessFlags := 1025, nameIndex := 79, descriptorIndex := 80, attributes := #[] }, { accessFlags := 1025, nameIndex := 75, descriptorIndex := 76, attributes := #[] }, { accessFlags := 137, nameIndex := 88, descriptorIndex := 108, attributes := #[] }, { accessFlags := 9, nameIndex := 234, descriptorIndex := 115, attributes := #[] }] 1537 103 #[120] #[])
  fields := #[]
  methods := #[k14m0, k14m1, k14m2, k14m3]
  instanceTypes := #[]
  staticTypes := #[]
  resolved := Array.replicate 251 none
  statics := none }

def pool15 : Array CpInfo := pool [(1, .methodref 2 3), (0, .class_ 4), (0, .nameAndType 5 6), (0, u "java/util/AbstractCollection"), (0, u "<init>"), (0, u "()V"), (0, .fieldref 8 9), (0, .class_ 10), (0, .nameAndType 11 12), (0, u "java/util/AbstractList"), (0, u "modCount"), (0, u "I"), (64, .class_ 78), (0, u "java/util/AbstractList$Itr"), (3, .class_ 83), (0, u "java/util/AbstractList$ListItr"), (9, .class_ 94), (0, u "java/util/AbstractList$RandomAccessSubList"), (3, .class_ 99), (0, u "java/util/AbstractList$SubList"), (33, .class_ 134), (0, u "java/util/List"), (73, .class_ 209), (0, u "java/util/AbstractList$SubList$1"), (0, .class_ 211), (0, u "java/util/AbstractList$RandomAccessSpliterator")] 6

def k15c0 : Code := { maxStack := 2, maxLocals := 1, code := jdk_39_method_1_code, exceptionTable := #[], attributes := #[] }
def k15m0 : Method := { name := "<init>", desc := "()V", sig := { parameters := [], returnType := none }, accessFlags := 4, code := some k15c0 }
/-- java/util/AbstractList -/
def k15 : Class := { plain "java/util/AbstractList" (some 12) with
  accessFlags := 1057
  interfaces := #[14]
  cf := some (fileOf pool15 8 #[.nestMembers #[93, 98, 208, 210, 82, 77]] #[{ accessFlags := 4, nameIndex := 5, descriptorIndex := 6, attributes := #[] }] 1057 2 #[133] #[{ accessFlags := 132, nameIndex := 11, descriptorIndex := 12, attributes := #[] }])
  fields := #[{ name := "modCount", type := .int, accessFlags := 132, slot := 0, constantValue := 0 }]
  methods := #[k15m0]
  instanceTypes := #[.int]
  staticTypes := #[]
  resolved := Array.replicate 218 none
  statics := none }

def pool16 : Array CpInfo := pool [(1, .class_ 2), (0, u "java/util/RandomAccess"), (0, .class_ 4), (0, u "java/lang/Object")] 2

/-- java/util/RandomAccess -/
def k16 : Class := { plain "java/util/RandomAccess" (some 0) with
  accessFlags := 1537
  interfaces := #[]
  cf := some (fileOf pool16 1 #[] #[] 1537 3 #[] #[])
  fields := #[]
  methods := #[]
  instanceTypes := #[]
  staticTypes := #[]
  resolved := Array.replicate 7 none
  statics := none }

def pool17 : Array CpInfo := pool [(1, .class_ 2), (0, u "java/lang/Cloneable"), (0, .class_ 4), (0, u "java/lang/Object")] 2

/-- java/lang/Cloneable -/
def k17 : Class := { plain "java/lang/Cloneable" (some 0) with
  accessFlags := 1537
  interfaces := #[]
  cf := some (fileOf pool17 1 #[] #[] 1537 3 #[] #[])
  fields := #[]
  methods := #[]
  instanceTypes := #[]
  staticTypes := #[]
  resolved := Array.replicate 7 none
  statics := none }

def pool18 : Array CpInfo := pool [(1, .methodref 2 3), (0, .class_ 4), (0, .nameAndType 5 6), (0, u "java/util/AbstractList"), (0, u "<init>"), (0, u "()V"), (0, .class_ 8), (0, u "java/lang/Object"), (0, .fieldref 10 11), (0, .class_ 12), (0, .nameAndType 13 14), (0, u "java/util/ArrayList"), (0, u "elementData"), (0, u "[Ljava/lang/Object;"), (2, u "EMPTY_ELEMENTDATA"), (21, .fieldref 10 40), (0, .nameAndType 41 14), (0, u "DEFAULTCAPACITY_EMPTY_ELEMENTDATA"), (4, u "toArray"), (0, u "()[Ljava/lang/Object;"), (0, .fieldref 10 49), (0, .nameAndType 50 51), (0, u "size"), (0, u "I"), (6, .class_ 60), (1, u "java/util/Arrays"), (0, u "copyOf"), (1, .fieldref 10 64), (0, .nameAndType 65 51), (0, u "modCount"), (0, .methodref 58 67), (0, .nameAndType 61 68), (0, u "([Ljava/lang/Object;I)[Ljava/lang/Object;"), (0, .methodref 10 70), (0, .nameAndType 71 72), (0, u "grow"), (0, u "(I)[Ljava/lang/Object;"), (6, .methodref 80 81), (0, .class_ 82), (0, .nameAndType 83 84), (0, u "java/lang/Math"), (0, u "max"), (0, u "(II)I"), (11, u "(Ljava/lang/Object;)Z"), (32, .methodref 10 130), (0, .nameAndType 71 47), (0, .methodref 10 132), (0, .nameAndType 133 134), (0, u "add"), (0, u "(Ljava/lang/Object;[Ljava/lang/Object;I)V"), (13, .class_ 149), (0, u "java/util/List"), (23, u "()Z"), (12, u "()I"), (75, .class_ 263), (0, u "java/util/ArrayList$ListItr"), (3, .class_ 268), (0, u "java/util/ArrayList$Itr"), (7, .class_ 277), (0, u "java/util/ArrayList$SubList"), (12, .class_ 291), (0, u "java/util/ArrayList$ArrayListSpliterator"), (37, .class_ 330), (0, u "java/util/RandomAccess"), (0, .class_ 332), (0, u "java/lang/Cloneable"), (0, .class_ 334), (0, u "java/io/Serializable"), (0, u "serialVersionUID"), (0, u "J"), (3, u "DEFAULT_CAPACITY"), (22, u "isEmpty"), (136, .class_ 501), (0, u "java/util/ArrayList$SubList$2"), (0, .class_ 503), (0, u "java/util/ArrayList$SubList$1")] 5

def k18c0 : Code := { maxStack := 2, maxLocals := 1, code := jdk_38_method_2_code, exceptionTable := #[], attributes := #[] }
def k18m0 : Method := { name := "<init>", desc := "()V", sig := { parameters := [], returnType := none }, accessFlags := 1, code := some k18c0 }
def k18c1 : Code := { maxStack := 4, maxLocals := 4, code := jdk_38_method_6_code, exceptionTable := #[], attributes := #[] }
def k18m1 : Method := { name := "grow", desc := "(I)[Ljava/lang/Object;", sig := { parameters := [.int], returnType := some (.array (.object "java/lang/Object")) }, accessFlags := 2, code := some k18c1 }
def k18c2 : Code := { maxStack := 3, maxLocals := 1, code := jdk_38_method_7_code, exceptionTable := #[], attributes := #[] }
def k18m2 : Method := { name := "grow", desc := "()[Ljava/lang/Object;", sig := { parameters := [], returnType := some (.array (.object "java/lang/Object")) }, accessFlags := 2, code := some k18c2 }
def k18c3 : Code := { maxStack := 1, maxLocals := 1, code := jdk_38_method_8_code, exceptionTable := #[], attributes := #[] }
def k18m3 : Method := { name := "size", desc := "()I", sig := { parameters := [], returnType := some .int }, accessFlags := 1, code := some k18c3 }
def k18c4 : Code := { maxStack := 1, maxLocals := 1, code := jdk_38_method_9_code, exceptionTable := #[], attributes := #[] }
def k18m4 : Method := { name := "isEmpty", desc := "()Z", sig := { parameters := [], returnType := some .boolean }, accessFlags := 1, code := some k18c4 }
def k18c5 : Code := { maxStack := 2, maxLocals := 1, code := jdk_38_method_16_code, exceptionTable := #[], attributes := #[] }
def k18m5 : Method := { name := "toArray", desc := "()[Ljava/lang/Object;", sig := { parameters := [], returnType := some (.array (.object "java/lang/Object")) }, accessFlags := 1, code := some k18c5 }
def k18c6 : Code := { maxStack := 3, maxLocals := 4, code := jdk_38_method_24_code, exceptionTable := #[], attributes := #[] }
def k18m6 : Method := { name := "add", desc := "(Ljava/lang/Object;[Ljava/lang/Object;I)V", sig := { parameters := [(.object "java/lang/Object"), (.array (.object "java/lang/Object")), .int], returnType := none }, accessFlags := 2, code := some k18c6 }
def k18c7 : Code := { maxStack := 4, maxLocals := 2, code := jdk_38_method_25_code, exceptionTable := #[], attributes := #[] }
def k18m7 : Method := { name := "add", desc := "(Ljava/lang/Object;)Z", sig := { parameters := [(.object "java/lang/Object")], returnType := some .boolean }, accessFlags := 1, code := some k18c7 }
/-- java/util/ArrayList -/
def k18 : Class := { plain "java/util/ArrayList" (some 15) with
  accessFlags := 33
  interfaces := #[14, 16, 17, 2]
  cf := some (fileOf pool18 10 #[.nestMembers #[290, 276, 500, 502, 262, 267]] #[{ accessFlags := 1, nameIndex := 5, descriptorIndex := 6, attributes := #[] }, { accessFlags := 2, nameIndex := 71, descriptorIndex := 72, attributes := #[] }, { accessFlags := 2, nameIndex := 71, descriptorIndex := 47, attributes := #[] }, { accessFlags := 1, nameIndex := 50, descriptorIndex := 186, attributes := #[] }, { accessFlags := 1, nameIndex := 363, descriptorIndex := 173, attributes := #[] }, { accessFlags := 1, nameIndex := 46, descriptorIndex := 47, attributes := #[] }, { accessFlags := 2, nameIndex := 133, descriptorIndex := 134, attributes := #[] }, { accessFlags := 1, nameIndex := 133, descriptorIndex := 96, attributes := #[] }] 33 2 #[148, 329, 331, 333] #[{ accessFlags := 26, nameIndex := 335, descriptorIndex := 336, attributes := #[] }, { accessFlags := 26, nameIndex := 340, descriptorIndex := 51, attributes := #[] }, { accessFlags := 26, nameIndex := 17, descriptorIndex := 14, attributes := #[] }, { accessFlags := 26, nameIndex := 41, descriptorIndex := 14, attributes := #[] }, { accessFlags := 128, nameIndex := 13, descriptorIndex := 14, attributes := #[] }, { accessFlags := 2, nameIndex := 50, descriptorIndex := 51, attributes := #[] }])
  fields := #[{ name := "serialVersionUID", type := .long, accessFlags := 26, slot := 0, constantValue := 0 }, { name := "DEFAULT_CAPACITY", type := .int, accessFlags := 26, slot := 1, constantValue := 0 }, { name := "EMPTY_ELEMENTDATA", type := (.array (.object "java/lang/Object")), accessFlags := 26, slot := 2, constantValue := 0 }, { name := "DEFAULTCAPACITY_EMPTY_ELEMENTDATA", type := (.array (.object "java/lang/Object")), accessFlags := 26, slot := 3, constantValue := 0 }, { name := "elementData", type := (.array (.object "java/lang/Object")), accessFlags := 128, slot := 1, constantValue := 0 }, { name := "size", type := .int, accessFlags := 2, slot := 2, constantValue := 0 }]
  methods := #[k18m0, k18m1, k18m2, k18m3, k18m4, k18m5, k18m6, k18m7]
  instanceTypes := #[.int, (.array (.object "java/lang/Object")), .int]
  staticTypes := #[.long, .int, (.array (.object "java/lang/Object")), (.array (.object "java/lang/Object"))]
  resolved := Array.replicate 509 none
  statics := some 2 }

def pool19 : Array CpInfo := pool [(1, .class_ 2), (0, u "java/lang/Math"), (1, .class_ 6), (1, u "java/lang/Object"), (0, u "<init>"), (0, u "()V"), (89, .class_ 100), (1, u "java/lang/Math$RandomNumberGeneratorHolder"), (71, u "negativeZeroFloatBits"), (0, u "J"), (2, u "negativeZeroDoubleBits"), (21, u "max"), (2, u "min"), (43, u "$assertionsDisabled"), (0, u "Z"), (88, u "(II)I"), (2, u "twoToTheDoubleScaleDown"), (0, u "D"), (4, u "twoToTheDoubleScaleUp"), (9, u "E"), (3, u "PI"), (2, u "TAU"), (2, u "DEGREES_TO_RADIANS"), (0, u "RADIANS_TO_DEGREES")] 94

def k19m0 : Method := { name := "<init>", desc := "()V", sig := { parameters := [], returnType := none }, accessFlags := 2, code := none }
def k19c1 : Code := { maxStack := 2, maxLocals := 2, code := jdk_29_method_65_code, exceptionTable := #[], attributes := #[] }
def k19m1 : Method := { name := "max", desc := "(II)I", sig := { parameters := [.int, .int], returnType := some .int }, accessFlags := 9, code := some k19c1 }
def k19c2 : Code := { maxStack := 2, maxLocals := 2, code := jdk_29_method_69_code, exceptionTable := #[], attributes := #[] }
def k19m2 : Method := { name := "min", desc := "(II)I", sig := { parameters := [.int, .int], returnType := some .int }, accessFlags := 9, code := some k19c2 }
/-- java/lang/Math -/
def k19 : Class := { plain "java/lang/Math" (some 0) with
  accessFlags := 49
  interfaces := #[]
  cf := some (fileOf pool19 1 #[.nestMembers #[98]] #[{ accessFlags := 2, nameIndex := 7, descriptorIndex := 8, attributes := #[] }, { accessFlags := 9, nameIndex := 198, descriptorIndex := 335, attributes := #[] }, { accessFlags := 9, nameIndex := 201, descriptorIndex := 335, attributes := #[] }] 49 4 #[] #[{ accessFlags := 25, nameIndex := 354, descriptorIndex := 339, attributes := #[] }, { accessFlags := 25, nameIndex := 358, descriptorIndex := 339, attributes := #[] }, { accessFlags := 25, nameIndex := 361, descriptorIndex := 339, attributes := #[] }, { accessFlags := 26, nameIndex := 364, descriptorIndex := 339, attributes := #[] }, { accessFlags := 26, nameIndex := 365, descriptorIndex := 339, attributes := #[] }, { accessFlags := 26, nameIndex := 172, descriptorIndex := 173, attributes := #[] }, { accessFlags := 26, nameIndex := 176, descriptorIndex := 173, attributes := #[] }, { accessFlags := 8, nameIndex := 344, descriptorIndex := 339, attributes := #[] }, { accessFlags := 8, nameIndex := 338, descriptorIndex := 339, attributes := #[] }, { accessFlags := 4120, nameIndex := 245, descriptorIndex := 246, attributes := #[] }])
  fields := #[{ name := "E", type := .double, accessFlags := 25, slot := 0, constantValue := 0 }, { name := "PI", type := .double, accessFlags := 25, slot := 1, constantValue := 0 }, { name := "TAU", type := .double, accessFlags := 25, slot := 2, constantValue := 0 }, { name := "DEGREES_TO_RADIANS", type := .double, accessFlags := 26, slot := 3, constantValue := 0 }, { name := "RADIANS_TO_DEGREES", type := .double, accessFlags := 26, slot := 4, constantValue := 0 }, { name := "negativeZeroFloatBits", type := .long, accessFlags := 26, slot := 5, constantValue := 0 }, { name := "negativeZeroDoubleBits", type := .long, accessFlags := 26, slot := 6, constantValue := 0 }, { name := "twoToTheDoubleScaleUp", type := .double, accessFlags := 8, slot := 7, constantValue := 0 }, { name := "twoToTheDoubleScaleDown", type := .double, accessFlags := 8, slot := 8, constantValue := 0 }, { name := "$assertionsDisabled", type := .boolean, accessFlags := 4120, slot := 9, constantValue := 0 }]
  methods := #[k19m0, k19m1, k19m2]
  instanceTypes := #[]
  staticTypes := #[.double, .double, .double, .double, .double, .long, .long, .double, .double, .boolean]
  resolved := Array.replicate 460 none
  statics := none }

def pool20 : Array CpInfo := pool [(2, .class_ 4), (1, u "java/lang/Enum"), (0, u "name"), (0, u "Ljava/lang/String;"), (2, u "ordinal"), (0, u "I"), (1, .class_ 14), (1, u "java/lang/Object"), (4, u "hash"), (86, .class_ 108), (1, u "java/lang/Enum$EnumDesc"), (2, .class_ 112), (0, u "java/lang/constant/Constable"), (0, .class_ 114), (0, u "java/lang/Comparable"), (0, .class_ 116), (0, u "java/io/Serializable")] 87

/-- java/lang/Enum -/
def k20 : Class := { plain "java/lang/Enum" (some 0) with
  accessFlags := 1057
  interfaces := #[5, 3, 2]
  cf := some (fileOf pool20 2 #[.nestMembers #[106]] #[] 1057 12 #[111, 113, 115] #[{ accessFlags := 18, nameIndex := 5, descriptorIndex := 6, attributes := #[] }, { accessFlags := 18, nameIndex := 9, descriptorIndex := 10, attributes := #[] }, { accessFlags := 2, nameIndex := 19, descriptorIndex := 10, attributes := #[] }])
  fields := #[{ name := "name", type := (.object "java/lang/String"), accessFlags := 18, slot := 0, constantValue := 0 }, { name := "ordinal", type := .int, accessFlags := 18, slot := 1, constantValue := 0 }, { name := "hash", type := .int, accessFlags := 2, slot := 2, constantValue := 0 }]
  methods := #[]
  instanceTypes := #[(.object "java/lang/String"), .int, .int]
  staticTypes := #[]
  resolved := Array.replicate 204 none
  statics := none }

def pool21 : Array CpInfo := pool [(1, .class_ 2), (0, u "com/example/rights_leak_checker/rightsleakchecker/takegrant/Bridge$Letter"), (2, u "TAKE_OUT"), (0, u "Lcom/example/rights_leak_checker/rightsleakchecker/takegrant/Bridge$Letter;"), (2, u "TAKE_IN"), (2, u "GRANT_OUT"), (2, u "GRANT_IN"), (2, u "$VALUES"), (0, u "[Lcom/example/rights_leak_checker/rightsleakchecker/takegrant/Bridge$Letter;"), (6, .class_ 28), (1, u "java/lang/Enum"), (8, u "right"), (0, u "Ljava/lang/String;"), (37, .class_ 77), (0, u "com/example/rights_leak_checker/rightsleakchecker/takegrant/Bridge")] 7

/-- com/example/rights_leak_checker/rightsleakchecker/takegrant/Bridge$Letter -/
def k21 : Class := { plain "com/example/rights_leak_checker/rightsleakchecker/takegrant/Bridge$Letter" (some 20) with
  accessFlags := 16432
  interfaces := #[]
  cf := some (fileOf pool21 1 #[.nestHost 76] #[] 16432 26 #[] #[{ accessFlags := 16409, nameIndex := 5, descriptorIndex := 6, attributes := #[] }, { accessFlags := 16409, nameIndex := 9, descriptorIndex := 6, attributes := #[] }, { accessFlags := 16409, nameIndex := 12, descriptorIndex := 6, attributes := #[] }, { accessFlags := 16409, nameIndex := 15, descriptorIndex := 6, attributes := #[] }, { accessFlags := 18, nameIndex := 37, descriptorIndex := 38, attributes := #[] }, { accessFlags := 4122, nameIndex := 18, descriptorIndex := 19, attributes := #[] }])
  fields := #[{ name := "TAKE_OUT", type := (.object "com/example/rights_leak_checker/rightsleakchecker/takegrant/Bridge$Letter"), accessFlags := 16409, slot := 0, constantValue := 0 }, { name := "TAKE_IN", type := (.object "com/example/rights_leak_checker/rightsleakchecker/takegrant/Bridge$Letter"), accessFlags := 16409, slot := 1, constantValue := 0 }, { name := "GRANT_OUT", type := (.object "com/example/rights_leak_checker/rightsleakchecker/takegrant/Bridge$Letter"), accessFlags := 16409, slot := 2, constantValue := 0 }, { name := "GRANT_IN", type := (.object "com/example/rights_leak_checker/rightsleakchecker/takegrant/Bridge$Letter"), accessFlags := 16409, slot := 3, constantValue := 0 }, { name := "right", type := (.object "java/lang/String"), accessFlags := 18, slot := 3, constantValue := 0 }, { name := "$VALUES", type := (.array (.object "com/example/rights_leak_checker/rightsleakchecker/takegrant/Bridge$Letter")), accessFlags := 4122, slot := 4, constantValue := 0 }]
  methods := #[]
  instanceTypes := #[(.object "java/lang/String"), .int, .int, (.object "java/lang/String")]
  staticTypes := #[(.object "com/example/rights_leak_checker/rightsleakchecker/takegrant/Bridge$Letter"), (.object "com/example/rights_leak_checker/rightsleakchecker/takegrant/Bridge$Letter"), (.object "com/example/rights_leak_checker/rightsleakchecker/takegrant/Bridge$Letter"), (.object "com/example/rights_leak_checker/rightsleakchecker/takegrant/Bridge$Letter"), (.array (.object "com/example/rights_leak_checker/rightsleakchecker/takegrant/Bridge$Letter"))]
  resolved := Array.replicate 85 none
  statics := some 3 }

def pool22 : Array CpInfo := pool [(1, .methodref 2 3), (0, .class_ 4), (0, .nameAndType 5 6), (0, u "java/lang/Object"), (0, u "<init>"), (0, u "()V"), (0, .interfaceMethodref 8 9), (0, .class_ 10), (0, .nameAndType 11 12), (0, u "java/util/List"), (0, u "size"), (0, u "()I"), (9, .interfaceMethodref 8 23), (0, .nameAndType 24 25), (0, u "copyOf"), (0, u "(Ljava/util/Collection;)Ljava/util/List;"), (0, .fieldref 27 28), (0, .class_ 29), (0, .nameAndType 30 31), (0, u "com/example/rights_leak_checker/rightsleakchecker/takegrant/Bridge"), (0, u "walk"), (0, u "Ljava/util/List;"), (0, .fieldref 27 33), (0, .nameAndType 34 31), (0, u "letters"), (0, .interfaceMethodref 8 36), (0, .nameAndType 37 38), (0, u "get"), (0, u "(I)Ljava/lang/Object;"), (0, .class_ 40), (0, u "java/lang/String"), (3, u "(Ljava/util/List;Ljava/util/List;)V"), (5, u "()Ljava/lang/String;"), (0, u "to"), (6, .class_ 59), (0, u "com/example/rights_leak_checker/rightsleakchecker/takegrant/Bridge$Letter")] 16

def k22c0 : Code := { maxStack := 3, maxLocals := 3, code := prog_42_method_1_code, exceptionTable := #[], attributes := #[] }
def k22m0 : Method := { name := "<init>", desc := "(Ljava/util/List;Ljava/util/List;)V", sig := { parameters := [(.object "java/util/List"), (.object "java/util/List")], returnType := none }, accessFlags := 0, code := some k22c0 }
def k22c1 : Code := { maxStack := 3, maxLocals := 1, code := prog_42_method_3_code, exceptionTable := #[], attributes := #[] }
def k22m1 : Method := { name := "to", desc := "()Ljava/lang/String;", sig := { parameters := [], returnType := some (.object "java/lang/String") }, accessFlags := 0, code := some k22c1 }
/-- com/example/rights_leak_checker/rightsleakchecker/takegrant/Bridge -/
def k22 : Class := { plain "com/example/rights_leak_checker/rightsleakchecker/takegrant/Bridge" (some 0) with
  accessFlags := 48
  interfaces := #[]
  cf := some (fileOf pool22 27 #[.nestMembers #[58]] #[{ accessFlags := 0, nameIndex := 5, descriptorIndex := 44, attributes := #[] }, { accessFlags := 0, nameIndex := 51, descriptorIndex := 50, attributes := #[] }] 48 2 #[] #[{ accessFlags := 18, nameIndex := 30, descriptorIndex := 31, attributes := #[] }, { accessFlags := 18, nameIndex := 34, descriptorIndex := 31, attributes := #[] }])
  fields := #[{ name := "walk", type := (.object "java/util/List"), accessFlags := 18, slot := 0, constantValue := 0 }, { name := "letters", type := (.object "java/util/List"), accessFlags := 18, slot := 1, constantValue := 0 }]
  methods := #[k22m0, k22m1]
  instanceTypes := #[(.object "java/util/List"), (.object "java/util/List")]
  staticTypes := #[]
  resolved := Array.replicate 76 none
  statics := none }

def pool23 : Array CpInfo := pool [(2, .class_ 4), (1, u "java/lang/Object"), (0, u "<init>"), (0, u "()V"), (3, .class_ 11), (0, u "java/util/ImmutableCollections$List12"), (0, .class_ 13), (0, u "java/util/ImmutableCollections$ListN"), (3, u "Z"), (0, .class_ 19), (0, u "java/util/List"), (0, .interfaceMethodref 21 22), (0, .class_ 23), (0, .nameAndType 24 25), (0, u "java/util/Collection"), (0, u "isEmpty"), (0, u "()Z"), (2, u "of"), (1, .interfaceMethodref 21 31), (0, .nameAndType 32 33), (0, u "toArray"), (0, u "()[Ljava/lang/Object;"), (0, .interfaceMethodref 18 35), (0, .nameAndType 28 36), (0, u "([Ljava/lang/Object;)Ljava/util/List;"), (0, .methodref 38 39), (0, .class_ 40), (0, .nameAndType 41 42), (0, u "java/util/Objects"), (0, u "requireNonNull"), (0, u "(Ljava/lang/Object;)Ljava/lang/Object;"), (0, .methodref 12 44), (0, .nameAndType 5 45), (0, u "([Ljava/lang/Object;Z)V"), (1, .class_ 49), (1, u "java/util/ImmutableCollections"), (0, u "$assertionsDisabled"), (5, u "[Ljava/lang/Object;"), (5, u "EMPTY_LIST"), (0, u "Ljava/util/ImmutableCollections$ListN;"), (8, u "EMPTY_LIST_NULLS"), (22, u "SALT32L"), (0, u "J"), (2, u "REVERSE"), (6, u "archivedObjects"), (2, u "EMPTY"), (0, u "Ljava/lang/Object;"), (0, .class_ 112), (0, u "java/util/ImmutableCollections$SetN"), (5, u "EMPTY_SET"), (0, u "Ljava/util/ImmutableCollections$SetN;"), (0, .class_ 121), (0, u "java/util/ImmutableCollections$MapN"), (3, u "EMPTY_MAP"), (0, u "Ljava/util/ImmutableCollections$MapN;"), (4, u "EXPAND_FACTOR"), (0, u "I"), (9, u "listCopy"), (0, u "(Ljava/util/Collection;)Ljava/util/List;"), (7, u "listFromArray"), (17, .class_ 170), (0, u "java/util/ImmutableCollections$MapN$MapNIterator"), (0, .class_ 172), (0, u "java/util/ImmutableCollections$MapN$1"), (0, .class_ 174), (0, u "java/util/ImmutableCollections$Map1"), (0, .class_ 176), (0, u "java/util/ImmutableCollections$AbstractImmutableMap"), (0, .class_ 178), (0, u "java/util/ImmutableCollections$SetN$SetNIterator"), (0, .class_ 180), (0, u "java/util/ImmutableCollections$Set12"), (0, .class_ 182), (0, u "java/util/ImmutableCollections$Set12$1"), (0, .class_ 184), (0, u "java/util/ImmutableCollections$AbstractImmutableSet"), (0, .class_ 186), (0, u "java/util/ImmutableCollections$SubList"), (0, .class_ 188), (0, u "java/util/ImmutableCollections$ListItr"), (0, .class_ 190), (0, u "java/util/ImmutableCollections$AbstractImmutableList"), (0, .class_ 192), (0, u "java/util/ImmutableCollections$AbstractImmutableCollection"), (0, .class_ 194), (0, u "java/util/ImmutableCollections$Access"), (0, .class_ 196), (0, u "java/util/ImmutableCollections$Access$1")] 16

def k23m0 : Method := { name := "<init>", desc := "()V", sig := { parameters := [], returnType := none }, accessFlags := 2, code := none }
def k23c1 : Code := { maxStack := 1, maxLocals := 2, code := jdk_56_method_3_code, exceptionTable := #[], attributes := #[] }
def k23m1 : Method := { name := "listCopy", desc := "(Ljava/util/Collection;)Ljava/util/List;", sig := { parameters := [(.object "java/util/Collection")], returnType := some (.object "java/util/List") }, accessFlags := 8, code := some k23c1 }
def k23c2 : Code := { maxStack := 4, maxLocals := 3, code := jdk_56_method_4_code, exceptionTable := #[], attributes := #[] }
def k23m2 : Method := { name := "listFromArray", desc := "([Ljava/lang/Object;)Ljava/util/List;", sig := { parameters := [(.array (.object "java/lang/Object"))], returnType := some (.object "java/util/List") }, accessFlags := 136, code := some k23c2 }
/-- java/util/ImmutableCollections -/
def k23 : Class := { plain "java/util/ImmutableCollections" (some 0) with
  accessFlags := 32
  interfaces := #[]
  cf := some (fileOf pool23 47 #[.nestMembers #[120, 169, 171, 173, 175, 111, 177, 179, 181, 183, 12, 10, 185, 187, 189, 191, 193, 195]] #[{ accessFlags := 2, nameIndex := 5, descriptorIndex := 6, attributes := #[] }, { accessFlags := 8, nameIndex := 142, descriptorIndex := 143, attributes := #[] }, { accessFlags := 136, nameIndex := 151, descriptorIndex := 36, attributes := #[] }] 32 2 #[] #[{ accessFlags := 26, nameIndex := 95, descriptorIndex := 96, attributes := #[] }, { accessFlags := 26, nameIndex := 99, descriptorIndex := 17, attributes := #[] }, { accessFlags := 10, nameIndex := 106, descriptorIndex := 56, attributes := #[] }, { accessFlags := 26, nameIndex := 109, descriptorIndex := 110, attributes := #[] }, { accessFlags := 24, nameIndex := 62, descriptorIndex := 63, attributes := #[] }, { accessFlags := 24, nameIndex := 72, descriptorIndex := 63, attributes := #[] }, { accessFlags := 24, nameIndex := 118, descriptorIndex := 119, attributes := #[] }, { accessFlags := 24, nameIndex := 125, descriptorIndex := 126, attributes := #[] }, { accessFlags := 24, nameIndex := 131, descriptorIndex := 132, attributes := #[] }, { accessFlags := 4120, nameIndex := 50, descriptorIndex := 17, attributes := #[] }])
  fields := #[{ name := "SALT32L", type := .long, accessFlags := 26, slot := 0, constantValue := 0 }, { name := "REVERSE", type := .boolean, accessFlags := 26, slot := 1, constantValue := 0 }, { name := "archivedObjects", type := (.array (.object "java/lang/Object")), accessFlags := 10, slot := 2, constantValue := 0 }, { name := "EMPTY", type := (.object "java/lang/Object"), accessFlags := 26, slot := 3, constantValue := 0 }, { name := "EMPTY_LIST", type := (.object "java/util/ImmutableCollections$ListN"), accessFlags := 24, slot := 4, constantValue := 0 }, { name := "EMPTY_LIST_NULLS", type := (.object "java/util/ImmutableCollections$ListN"), accessFlags := 24, slot := 5, constantValue := 0 }, { name := "EMPTY_SET", type := (.object "java/util/ImmutableCollections$SetN"), accessFlags := 24, slot := 6, constantValue := 0 }, { name := "EMPTY_MAP", type := (.object "java/util/ImmutableCollections$MapN"), accessFlags := 24, slot := 7, constantValue := 0 }, { name := "EXPAND_FACTOR", type := .int, accessFlags := 24, slot := 8, constantValue := 0 }, { name := "$assertionsDisabled", type := .boolean, accessFlags := 4120, slot := 9, constantValue := 0 }]
  methods := #[k23m0, k23m1, k23m2]
  instanceTypes := #[]
  staticTypes := #[.long, .boolean, (.array (.object "java/lang/Object")), (.object "java/lang/Object"), (.object "java/util/ImmutableCollections$ListN"), (.object "java/util/ImmutableCollections$ListN"), (.object "java/util/ImmutableCollections$SetN"), (.object "java/util/ImmutableCollections$MapN"), .int, .boolean]
  resolved := Array.replicate 213 none
  statics := some 4 }

def pool24 : Array CpInfo := pool [(1, .methodref 2 3), (0, .class_ 4), (0, .nameAndType 5 6), (0, u "java/util/AbstractCollection"), (0, u "<init>"), (0, u "()V"), (1, .class_ 10), (1, u "java/util/ImmutableCollections"), (2, .class_ 14), (0, u "java/util/ImmutableCollections$AbstractImmutableCollection")] 41

def k24c0 : Code := { maxStack := 1, maxLocals := 1, code := jdk_47_method_1_code, exceptionTable := #[], attributes := #[] }
def k24m0 : Method := { name := "<init>", desc := "()V", sig := { parameters := [], returnType := none }, accessFlags := 0, code := some k24c0 }
/-- java/util/ImmutableCollections$AbstractImmutableCollection -/
def k24 : Class := { plain "java/util/ImmutableCollections$AbstractImmutableCollection" (some 12) with
  accessFlags := 1056
  interfaces := #[]
  cf := some (fileOf pool24 13 #[.nestHost 8] #[{ accessFlags := 0, nameIndex := 5, descriptorIndex := 6, attributes := #[] }] 1056 2 #[] #[])
  fields := #[]
  methods := #[k24m0]
  instanceTypes := #[]
  staticTypes := #[]
  resolved := Array.replicate 56 none
  statics := none }

def pool25 : Array CpInfo := pool [(1, .methodref 2 3), (0, .class_ 4), (0, .nameAndType 5 6), (0, u "java/util/ImmutableCollections$AbstractImmutableCollection"), (0, u "<init>"), (0, u "()V"), (1, .class_ 10), (1, u "java/util/ImmutableCollections"), (3, .class_ 16), (1, u "java/util/ImmutableCollections$AbstractImmutableList"), (60, .class_ 78), (0, u "java/util/List"), (45, .class_ 125), (0, u "java/util/RandomAccess")] 70

def k25c0 : Code := { maxStack := 1, maxLocals := 1, code := jdk_46_method_1_code, exceptionTable := #[], attributes := #[] }
def k25m0 : Method := { name := "<init>", desc := "()V", sig := { parameters := [], returnType := none }, accessFlags := 0, code := some k25c0 }
/-- java/util/ImmutableCollections$AbstractImmutableList -/
def k25 : Class := { plain "java/util/ImmutableCollections$AbstractImmutableList" (some 24) with
  accessFlags := 1056
  interfaces := #[14, 16]
  cf := some (fileOf pool25 14 #[.nestHost 8] #[{ accessFlags := 0, nameIndex := 5, descriptorIndex := 6, attributes := #[] }] 1056 2 #[77, 124] #[])
  fields := #[]
  methods := #[k25m0]
  instanceTypes := #[]
  staticTypes := #[]
  resolved := Array.replicate 196 none
  statics := none }

def pool26 : Array CpInfo := pool [(1, .methodref 2 3), (0, .class_ 4), (0, .nameAndType 5 6), (0, u "java/util/ImmutableCollections$AbstractImmutableList"), (0, u "<init>"), (0, u "()V"), (0, .methodref 8 9), (0, .class_ 10), (0, .nameAndType 11 12), (0, u "java/util/Objects"), (0, u "requireNonNull"), (0, u "(Ljava/lang/Object;)Ljava/lang/Object;"), (0, .fieldref 14 15), (0, .class_ 16), (0, .nameAndType 17 18), (0, u "java/util/ImmutableCollections$List12"), (0, u "e0"), (0, u "Ljava/lang/Object;"), (0, .fieldref 20 21), (0, .class_ 22), (0, .nameAndType 23 18), (0, u "java/util/ImmutableCollections"), (0, u "EMPTY"), (0, .fieldref 14 25), (0, .nameAndType 26 18), (0, u "e1"), (24, u "size"), (0, u "()I"), (17, .class_ 71), (0, u "java/io/Serializable"), (4, u "(Ljava/lang/Object;)V"), (8, u "(Ljava/lang/Object;Ljava/lang/Object;)V"), (4, u "get"), (0, u "(I)Ljava/lang/Object;")] 33

def k26c0 : Code := { maxStack := 2, maxLocals := 2, code := jdk_44_method_1_code, exceptionTable := #[], attributes := #[] }
def k26m0 : Method := { name := "<init>", desc := "(Ljava/lang/Object;)V", sig := { parameters := [(.object "java/lang/Object")], returnType := none }, accessFlags := 0, code := some k26c0 }
def k26c1 : Code := { maxStack := 2, maxLocals := 3, code := jdk_44_method_2_code, exceptionTable := #[], attributes := #[] }
def k26m1 : Method := { name := "<init>", desc := "(Ljava/lang/Object;Ljava/lang/Object;)V", sig := { parameters := [(.object "java/lang/Object"), (.object "java/lang/Object")], returnType := none }, accessFlags := 0, code := some k26c1 }
def k26c2 : Code := { maxStack := 2, maxLocals := 1, code := jdk_44_method_3_code, exceptionTable := #[], attributes := #[] }
def k26m2 : Method := { name := "size", desc := "()I", sig := { parameters := [], returnType := some .int }, accessFlags := 1, code := some k26c2 }
def k26c3 : Code := { maxStack := 2, maxLocals := 2, code := jdk_44_method_5_code, exceptionTable := #[], attributes := #[] }
def k26m3 : Method := { name := "get", desc := "(I)Ljava/lang/Object;", sig := { parameters := [.int], returnType := some (.object "java/lang/Object") }, accessFlags := 1, code := some k26c3 }
/-- java/util/ImmutableCollections$List12 -/
def k26 : Class := { plain "java/util/ImmutableCollections$List12" (some 25) with
  accessFlags := 48
  interfaces := #[2]
  cf := some (fileOf pool26 14 #[.nestHost 20] #[{ accessFlags := 0, nameIndex := 5, descriptorIndex := 76, attributes := #[] }, { accessFlags := 0, nameIndex := 5, descriptorIndex := 85, attributes := #[] }, { accessFlags := 1, nameIndex := 51, descriptorIndex := 52, attributes := #[] }, { accessFlags := 1, nameIndex := 90, descriptorIndex := 91, attributes := #[] }] 48 2 #[70] #[{ accessFlags := 18, nameIndex := 17, descriptorIndex := 18, attributes := #[] }, { accessFlags := 18, nameIndex := 26, descriptorIndex := 18, attributes := #[] }])
  fields := #[{ name := "e0", type := (.object "java/lang/Object"), accessFlags := 18, slot := 0, constantValue := 0 }, { name := "e1", type := (.object "java/lang/Object"), accessFlags := 18, slot := 1, constantValue := 0 }]
  methods := #[k26m0, k26m1, k26m2, k26m3]
  instanceTypes := #[(.object "java/lang/Object"), (.object "java/lang/Object")]
  staticTypes := #[]
  resolved := Array.replicate 125 none
  statics := none }

def pool27 : Array CpInfo := pool [(1, .methodref 2 3), (0, .class_ 4), (0, .nameAndType 5 6), (0, u "java/util/ImmutableCollections$AbstractImmutableList"), (0, u "<init>"), (0, u "()V"), (0, .fieldref 8 9), (0, .class_ 10), (0, .nameAndType 11 12), (0, u "java/util/ImmutableCollections$ListN"), (0, u "elements"), (0, u "[Ljava/lang/Object;"), (0, .fieldref 8 14), (0, .nameAndType 15 16), (0, u "allowNulls"), (0, u "Z"), (42, .class_ 60), (0, u "java/io/Serializable"), (4, u "([Ljava/lang/Object;Z)V"), (11, u "size"), (0, u "()I"), (0, u "get"), (0, u "(I)Ljava/lang/Object;"), (33, .class_ 115), (0, u "java/util/ImmutableCollections")] 3

def k27c0 : Code := { maxStack := 2, maxLocals := 3, code := jdk_45_method_1_code, exceptionTable := #[], attributes := #[] }
def k27m0 : Method := { name := "<init>", desc := "([Ljava/lang/Object;Z)V", sig := { parameters := [(.array (.object "java/lang/Object")), .boolean], returnType := none }, accessFlags := 2, code := some k27c0 }
def k27c1 : Code := { maxStack := 1, maxLocals := 1, code := jdk_45_method_3_code, exceptionTable := #[], attributes := #[] }
def k27m1 : Method := { name := "size", desc := "()I", sig := { parameters := [], returnType := some .int }, accessFlags := 1, code := some k27c1 }
def k27c2 : Code := { maxStack := 2, maxLocals := 2, code := jdk_45_method_4_code, exceptionTable := #[], attributes := #[] }
def k27m2 : Method := { name := "get", desc := "(I)Ljava/lang/Object;", sig := { parameters := [.int], returnType := some (.object "java/lang/Object") }, accessFlags := 1, code := some k27c2 }
/-- java/util/ImmutableCollections$ListN -/
def k27 : Class := { plain "java/util/ImmutableCollections$ListN" (some 25) with
  accessFlags := 48
  interfaces := #[2]
  cf := some (fileOf pool27 8 #[.nestHost 114] #[{ accessFlags := 2, nameIndex := 5, descriptorIndex := 65, attributes := #[] }, { accessFlags := 1, nameIndex := 77, descriptorIndex := 78, attributes := #[] }, { accessFlags := 1, nameIndex := 79, descriptorIndex := 80, attributes := #[] }] 48 2 #[59] #[{ accessFlags := 18, nameIndex := 11, descriptorIndex := 12, attributes := #[] }, { accessFlags := 18, nameIndex := 15, descriptorIndex := 16, attributes := #[] }])
  fields := #[{ name := "elements", type := (.array (.object "java/lang/Object")), accessFlags := 18, slot := 0, constantValue := 0 }, { name := "allowNulls", type := .boolean, accessFlags := 18, slot := 1, constantValue := 0 }]
  methods := #[k27m0, k27m1, k27m2]
  instanceTypes := #[(.array (.object "java/lang/Object")), .boolean]
  staticTypes := #[]
  resolved := Array.replicate 119 none
  statics := none }

def pool28 : Array CpInfo := pool [(2, .class_ 4), (1, u "java/lang/Object"), (0, u "<init>"), (0, u "()V"), (7, .class_ 16), (1, u "java/util/Arrays"), (57, .class_ 76), (1, u "java/util/Arrays$NaturalOrder"), (9, .methodref 2 87), (0, .nameAndType 88 89), (0, u "getClass"), (0, u "()Ljava/lang/Class;"), (20, .class_ 111), (0, u "[Ljava/lang/Object;"), (1, .class_ 115), (1, u "java/util/Arrays$LegacyMergeSort"), (1, u "Z"), (32, .methodref 151 152), (0, .class_ 153), (0, .nameAndType 154 155), (0, u "java/lang/System"), (0, u "arraycopy"), (0, u "(Ljava/lang/Object;ILjava/lang/Object;II)V"), (144, .methodref 14 301), (0, .nameAndType 302 303), (0, u "copyOf"), (0, u "([Ljava/lang/Object;ILjava/lang/Class;)[Ljava/lang/Object;"), (0, .methodref 305 306), (0, .class_ 307), (0, .nameAndType 308 309), (0, u "java/lang/Math"), (0, u "min"), (0, u "(II)I"), (65, .class_ 376), (0, u "java/util/Arrays$ArrayList"), (68, u "$assertionsDisabled"), (269, u "MIN_ARRAY_SORT_GRAN"), (0, u "I"), (2, u "INSERTIONSORT_THRESHOLD"), (140, u "([Ljava/lang/Object;I)[Ljava/lang/Object;"), (114, .class_ 976), (0, u "java/util/Arrays$ArrayItr")] 52

def k28m0 : Method := { name := "<init>", desc := "()V", sig := { parameters := [], returnType := none }, accessFlags := 2, code := none }
def k28c1 : Code := { maxStack := 3, maxLocals := 2, code := jdk_65_method_119_code, exceptionTable := #[], attributes := #[] }
def k28m1 : Method := { name := "copyOf", desc := "([Ljava/lang/Object;I)[Ljava/lang/Object;", sig := { parameters := [(.array (.object "java/lang/Object")), .int], returnType := some (.array (.object "java/lang/Object")) }, accessFlags := 9, code := some k28c1 }
def k28c2 : Code := { maxStack := 6, maxLocals := 4, code := jdk_65_method_120_code, exceptionTable := #[], attributes := #[] }
def k28m2 : Method := { name := "copyOf", desc := "([Ljava/lang/Object;ILjava/lang/Class;)[Ljava/lang/Object;", sig := { parameters := [(.array (.object "java/lang/Object")), .int, (.object "java/lang/Class")], returnType := some (.array (.object "java/lang/Object")) }, accessFlags := 9, code := some k28c2 }
/-- java/util/Arrays -/
def k28 : Class := { plain "java/util/Arrays" (some 0) with
  accessFlags := 49
  interfaces := #[]
  cf := some (fileOf pool28 14 #[.nestMembers #[975, 375, 113, 74]] #[{ accessFlags := 2, nameIndex := 5, descriptorIndex := 6, attributes := #[] }, { accessFlags := 9, nameIndex := 302, descriptorIndex := 860, attributes := #[] }, { accessFlags := 9, nameIndex := 302, descriptorIndex := 303, attributes := #[] }] 49 2 #[] #[{ accessFlags := 26, nameIndex := 715, descriptorIndex := 716, attributes := #[] }, { accessFlags := 26, nameIndex := 719, descriptorIndex := 716, attributes := #[] }, { accessFlags := 4120, nameIndex := 445, descriptorIndex := 117, attributes := #[] }])
  fields := #[{ name := "MIN_ARRAY_SORT_GRAN", type := .int, accessFlags := 26, slot := 0, constantValue := 0 }, { name := "INSERTIONSORT_THRESHOLD", type := .int, accessFlags := 26, slot := 1, constantValue := 0 }, { name := "$assertionsDisabled", type := .boolean, accessFlags := 4120, slot := 2, constantValue := 0 }]
  methods := #[k28m0, k28m1, k28m2]
  instanceTypes := #[]
  staticTypes := #[.int, .int, .boolean]
  resolved := Array.replicate 1029 none
  statics := none }

def pool29 : Array CpInfo := pool [(2, .class_ 4), (1, u "java/lang/Object"), (0, u "<init>"), (0, u "()V"), (1, .class_ 10), (1, u "java/lang/System"), (0, u "allowSecurityManager"), (0, u "I"), (16, u "cons"), (0, u "Ljava/io/Console;"), (77, .class_ 110), (1, u "java/lang/System$CallersHolder"), (43, u "initialErrStream"), (0, u "Ljava/io/PrintStream;"), (19, u "security"), (0, u "Ljava/lang/SecurityManager;"), (31, .class_ 209), (0, u "java/lang/System$1"), (7, u "props"), (0, u "Ljava/util/Properties;"), (2, u "lineSeparator"), (0, u "Ljava/lang/String;"), (96, .class_ 321), (1, u "java/lang/System$LoggerFinder"), (5, .class_ 328), (0, u "java/lang/System$Logger"), (67, u "err"), (2, u "out"), (91, u "notSupportedJnuEncoding"), (15, u "in"), (17, u "initialIn"), (0, u "Ljava/io/InputStream;"), (35, u "bootLayer"), (0, u "Ljava/lang/ModuleLayer;"), (99, .class_ 664), (0, u "java/lang/System$2"), (9, u "NEVER"), (2, u "MAYBE"), (49, u "arraycopy"), (0, u "(Ljava/lang/Object;ILjava/lang/Object;II)V"), (72, .class_ 802), (0, u "java/lang/System$Logger$Level")] 31

def k29m0 : Method := { name := "<init>", desc := "()V", sig := { parameters := [], returnType := none }, accessFlags := 2, code := none }
def k29m1 : Method := { name := "arraycopy", desc := "(Ljava/lang/Object;ILjava/lang/Object;II)V", sig := { parameters := [(.object "java/lang/Object"), .int, (.object "java/lang/Object"), .int, .int], returnType := none }, accessFlags := 265, code := none }
/-- java/lang/System -/
def k29 : Class := { plain "java/lang/System" (some 0) with
  accessFlags := 49
  interfaces := #[]
  cf := some (fileOf pool29 8 #[.nestMembers #[319, 327, 801, 108, 663, 208]] #[{ accessFlags := 2, nameIndex := 5, descriptorIndex := 6, attributes := #[] }, { accessFlags := 265, nameIndex := 727, descriptorIndex := 728, attributes := #[] }] 49 2 #[] #[{ accessFlags := 25, nameIndex := 507, descriptorIndex := 526, attributes := #[] }, { accessFlags := 25, nameIndex := 399, descriptorIndex := 155, attributes := #[] }, { accessFlags := 25, nameIndex := 396, descriptorIndex := 155, attributes := #[] }, { accessFlags := 10, nameIndex := 525, descriptorIndex := 526, attributes := #[] }, { accessFlags := 26, nameIndex := 674, descriptorIndex := 12, attributes := #[] }, { accessFlags := 26, nameIndex := 677, descriptorIndex := 12, attributes := #[] }, { accessFlags := 10, nameIndex := 11, descriptorIndex := 12, attributes := #[] }, { accessFlags := 74, nameIndex := 175, descriptorIndex := 176, attributes := #[] }, { accessFlags := 10, nameIndex := 491, descriptorIndex := 222, attributes := #[] }, { accessFlags := 74, nameIndex := 29, descriptorIndex := 30, attributes := #[] }, { accessFlags := 74, nameIndex := 154, descriptorIndex := 155, attributes := #[] }, { accessFlags := 10, nameIndex := 217, descriptorIndex := 218, attributes := #[] }, { accessFlags := 10, nameIndex := 221, descriptorIndex := 222, attributes := #[] }, { accessFlags := 8, nameIndex := 562, descriptorIndex := 563, attributes := #[] }])
  fields := #[{ name := "in", type := (.object "java/io/InputStream"), accessFlags := 25, slot := 0, constantValue := 0 }, { name := "out", type := (.object "java/io/PrintStream"), accessFlags := 25, slot := 1, constantValue := 0 }, { name := "err", type := (.object "java/io/PrintStream"), accessFlags := 25, slot := 2, constantValue := 0 }, { name := "initialIn", type := (.object "java/io/InputStream"), accessFlags := 10, slot := 3, constantValue := 0 }, { name := "NEVER", type := .int, accessFlags := 26, slot := 4, constantValue := 0 }, { name := "MAYBE", type := .int, accessFlags := 26, slot := 5, constantValue := 0 }, { name := "allowSecurityManager", type := .int, accessFlags := 10, slot := 6, constantValue := 0 }, { name := "security", type := (.object "java/lang/SecurityManager"), accessFlags := 74, slot := 7, constantValue := 0 }, { name := "notSupportedJnuEncoding", type := (.object "java/lang/String"), accessFlags := 10, slot := 8, constantValue := 0 }, { name := "cons", type := (.object "java/io/Console"), accessFlags := 74, slot := 9, constantValue := 0 }, { name := "initialErrStream", type := (.object "java/io/PrintStream"), accessFlags := 74, slot := 10, constantValue := 0 }, { name := "props", type := (.object "java/util/Properties"), accessFlags := 10, slot := 11, constantValue := 0 }, { name := "lineSeparator", type := (.object "java/lang/String"), accessFlags := 10, slot := 12, constantValue := 0 }, { name := "bootLayer", type := (.object "java/lang/ModuleLayer"), accessFlags := 8, slot := 13, constantValue := 0 }]
  methods := #[k29m0, k29m1]
  instanceTypes := #[]
  staticTypes := #[(.object "java/io/InputStream"), (.object "java/io/PrintStream"), (.object "java/io/PrintStream"), (.object "java/io/InputStream"), .int, .int, .int, (.object "java/lang/SecurityManager"), (.object "java/lang/String"), (.object "java/io/Console"), (.object "java/io/PrintStream"), (.object "java/util/Properties"), (.object "java/lang/String"), (.object "java/lang/ModuleLayer")]
  resolved := Array.replicate 834 none
  statics := none }

def pool30 : Array CpInfo := pool [(2, .class_ 4), (1, u "java/lang/Object"), (0, u "<init>"), (0, u "()V"), (35, .class_ 44), (1, u "java/util/Objects"), (0, u "requireNonNull"), (0, u "(Ljava/lang/Object;)Ljava/lang/Object;")] 137

def k30m0 : Method := { name := "<init>", desc := "()V", sig := { parameters := [], returnType := none }, accessFlags := 2, code := none }
def k30c1 : Code := { maxStack := 2, maxLocals := 1, code := jdk_31_method_10_code, exceptionTable := #[], attributes := #[] }
def k30m1 : Method := { name := "requireNonNull", desc := "(Ljava/lang/Object;)Ljava/lang/Object;", sig := { parameters := [(.object "java/lang/Object")], returnType := some (.object "java/lang/Object") }, accessFlags := 9, code := some k30c1 }
/-- java/util/Objects -/
def k30 : Class := { plain "java/util/Objects" (some 0) with
  accessFlags := 49
  interfaces := #[]
  cf := some (fileOf pool30 42 #[] #[{ accessFlags := 2, nameIndex := 5, descriptorIndex := 6, attributes := #[] }, { accessFlags := 9, nameIndex := 45, descriptorIndex := 46, attributes := #[] }] 49 2 #[] #[])
  fields := #[]
  methods := #[k30m0, k30m1]
  instanceTypes := #[]
  staticTypes := #[]
  resolved := Array.replicate 184 none
  statics := none }

def pool31 : Array CpInfo := pool [(2, .class_ 4), (1, u "java/lang/Object"), (0, u "<init>"), (0, u "()V"), (17, .class_ 26), (1, u "jdk/internal/util/Preconditions"), (28, .class_ 56), (0, u "jdk/internal/util/Preconditions$4"), (57, .class_ 115), (0, u "jdk/internal/util/Preconditions$1"), (7, u "SIOOBE_FORMATTER"), (0, u "Ljava/util/function/BiFunction;"), (0, .class_ 126), (0, u "jdk/internal/util/Preconditions$2"), (3, u "AIOOBE_FORMATTER"), (0, .class_ 132), (0, u "jdk/internal/util/Preconditions$3"), (3, u "IOOBE_FORMATTER")] 57

def k31m0 : Method := { name := "<init>", desc := "()V", sig := { parameters := [], returnType := none }, accessFlags := 1, code := none }
/-- jdk/internal/util/Preconditions -/
def k31 : Class := { plain "jdk/internal/util/Preconditions" (some 0) with
  accessFlags := 33
  interfaces := #[]
  cf := some (fileOf pool31 24 #[.nestMembers #[55, 131, 125, 114]] #[{ accessFlags := 1, nameIndex := 5, descriptorIndex := 6, attributes := #[] }] 33 2 #[] #[{ accessFlags := 25, nameIndex := 123, descriptorIndex := 124, attributes := #[] }, { accessFlags := 25, nameIndex := 130, descriptorIndex := 124, attributes := #[] }, { accessFlags := 25, nameIndex := 136, descriptorIndex := 124, attributes := #[] }])
  fields := #[{ name := "SIOOBE_FORMATTER", type := (.object "java/util/function/BiFunction"), accessFlags := 25, slot := 0, constantValue := 0 }, { name := "AIOOBE_FORMATTER", type := (.object "java/util/function/BiFunction"), accessFlags := 25, slot := 1, constantValue := 0 }, { name := "IOOBE_FORMATTER", type := (.object "java/util/function/BiFunction"), accessFlags := 25, slot := 2, constantValue := 0 }]
  methods := #[k31m0]
  instanceTypes := #[]
  staticTypes := #[(.object "java/util/function/BiFunction"), (.object "java/util/function/BiFunction"), (.object "java/util/function/BiFunction")]
  resolved := Array.replicate 194 none
  statics := some 5 }

def pool32 : Array CpInfo := pool [(9, u "<init>"), (6, .class_ 18), (1, u "java/lang/Object"), (0, u "()V"), (1, .class_ 23), (1, u "jdk/internal/util/ArraysSupport"), (0, u "LOG2_ARRAY_LONG_INDEX_SCALE"), (0, u "I"), (2, u "U"), (0, u "Ljdk/internal/misc/Unsafe;"), (8, u "BIG_ENDIAN"), (0, u "Z"), (8, u "LOG2_BYTE_BIT_SIZE"), (4, u "LOG2_ARRAY_INT_INDEX_SCALE"), (54, u "JLA"), (0, u "Ljdk/internal/access/JavaLangAccess;"), (11, u "LOG2_ARRAY_BOOLEAN_INDEX_SCALE"), (9, u "LOG2_ARRAY_BYTE_INDEX_SCALE"), (5, u "LOG2_ARRAY_CHAR_INDEX_SCALE"), (5, u "LOG2_ARRAY_SHORT_INDEX_SCALE"), (18, u "LOG2_ARRAY_FLOAT_INDEX_SCALE"), (24, u "LOG2_ARRAY_DOUBLE_INDEX_SCALE"), (89, u "T_BOOLEAN"), (2, u "T_CHAR"), (1, u "T_FLOAT"), (1, u "T_DOUBLE"), (1, u "T_BYTE"), (1, u "T_SHORT"), (1, u "T_INT"), (1, u "T_LONG"), (1, u "SOFT_MAX_ARRAY_LENGTH")] 83

def k32m0 : Method := { name := "<init>", desc := "()V", sig := { parameters := [], returnType := none }, accessFlags := 2, code := none }
/-- jdk/internal/util/ArraysSupport -/
def k32 : Class := { plain "jdk/internal/util/ArraysSupport" (some 0) with
  accessFlags := 33
  interfaces := #[]
  cf := some (fileOf pool32 21 #[] #[{ accessFlags := 2, nameIndex := 9, descriptorIndex := 19, attributes := #[] }] 33 16 #[] #[{ accessFlags := 24, nameIndex := 28, descriptorIndex := 29, attributes := #[] }, { accessFlags := 26, nameIndex := 38, descriptorIndex := 39, attributes := #[] }, { accessFlags := 25, nameIndex := 121, descriptorIndex := 25, attributes := #[] }, { accessFlags := 25, nameIndex := 131, descriptorIndex := 25, attributes := #[] }, { accessFlags := 25, nameIndex := 137, descriptorIndex := 25, attributes := #[] }, { accessFlags := 25, nameIndex := 143, descriptorIndex := 25, attributes := #[] }, { accessFlags := 25, nameIndex := 53, descriptorIndex := 25, attributes := #[] }, { accessFlags := 25, nameIndex := 24, descriptorIndex := 25, attributes := #[] }, { accessFlags := 25, nameIndex := 162, descriptorIndex := 25, attributes := #[] }, { accessFlags := 25, nameIndex := 187, descriptorIndex := 25, attributes := #[] }, { accessFlags := 26, nameIndex := 48, descriptorIndex := 25, attributes := #[] }, { accessFlags := 25, nameIndex := 277, descriptorIndex := 25, attributes := #[] }, { accessFlags := 25, nameIndex := 280, descriptorIndex := 25, attributes := #[] }, { accessFlags := 25, nameIndex := 282, descriptorIndex := 25, attributes := #[] }, { accessFlags := 25, nameIndex := 284, descriptorIndex := 25, attributes := #[] }, { accessFlags := 25, nameIndex := 286, descriptorIndex := 25, attributes := #[] }, { accessFlags := 25, nameIndex := 288, descriptorIndex := 25, attributes := #[] }, { accessFlags := 25, nameIndex := 290, descriptorIndex := 25, attributes := #[] }, { accessFlags := 25, nameIndex := 292, descriptorIndex := 25, attributes := #[] }, { accessFlags := 26, nameIndex := 108, descriptorIndex := 109, attributes := #[] }, { accessFlags := 25, nameIndex := 294, descriptorIndex := 25, attributes := #[] }])
  fields := #[{ name := "U", type := (.object "jdk/internal/misc/Unsafe"), accessFlags := 24, slot := 0, constantValue := 0 }, { name := "BIG_ENDIAN", type := .boolean, accessFlags := 26, slot := 1, constantValue := 0 }, { name := "LOG2_ARRAY_BOOLEAN_INDEX_SCALE", type := .int, accessFlags := 25, slot := 2, constantValue := 0 }, { name := "LOG2_ARRAY_BYTE_INDEX_SCALE", type := .int, accessFlags := 25, slot := 3, constantValue := 0 }, { name := "LOG2_ARRAY_CHAR_INDEX_SCALE", type := .int, accessFlags := 25, slot := 4, constantValue := 0 }, { name := "LOG2_ARRAY_SHORT_INDEX_SCALE", type := .int, accessFlags := 25, slot := 5, constantValue := 0 }, { name := "LOG2_ARRAY_INT_INDEX_SCALE", type := .int, accessFlags := 25, slot := 6, constantValue := 0 }, { name := "LOG2_ARRAY_LONG_INDEX_SCALE", type := .int, accessFlags := 25, slot := 7, constantValue := 0 }, { name := "LOG2_ARRAY_FLOAT_INDEX_SCALE", type := .int, accessFlags := 25, slot := 8, constantValue := 0 }, { name := "LOG2_ARRAY_DOUBLE_INDEX_SCALE", type := .int, accessFlags := 25, slot := 9, constantValue := 0 }, { name := "LOG2_BYTE_BIT_SIZE", type := .int, accessFlags := 26, slot := 10, constantValue := 0 }, { name := "T_BOOLEAN", type := .int, accessFlags := 25, slot := 11, constantValue := 0 }, { name := "T_CHAR", type := .int, accessFlags := 25, slot := 12, constantValue := 0 }, { name := "T_FLOAT", type := .int, accessFlags := 25, slot := 13, constantValue := 0 }, { name := "T_DOUBLE", type := .int, accessFlags := 25, slot := 14, constantValue := 0 }, { name := "T_BYTE", type := .int, accessFlags := 25, slot := 15, constantValue := 0 }, { name := "T_SHORT", type := .int, accessFlags := 25, slot := 16, constantValue := 0 }, { name := "T_INT", type := .int, accessFlags := 25, slot := 17, constantValue := 0 }, { name := "T_LONG", type := .int, accessFlags := 25, slot := 18, constantValue := 0 }, { name := "JLA", type := (.object "jdk/internal/access/JavaLangAccess"), accessFlags := 26, slot := 19, constantValue := 0 }, { name := "SOFT_MAX_ARRAY_LENGTH", type := .int, accessFlags := 25, slot := 20, constantValue := 0 }]
  methods := #[k32m0]
  instanceTypes := #[]
  staticTypes := #[(.object "jdk/internal/misc/Unsafe"), .boolean, .int, .int, .int, .int, .int, .int, .int, .int, .int, .int, .int, .int, .int, .int, .int, .int, .int, (.object "jdk/internal/access/JavaLangAccess"), .int]
  resolved := Array.replicate 378 none
  statics := none }

/-- the primitive byte -/
def k33 : Class := { plain "byte" none with kind := .primitive 'B', accessFlags := 0x411 }
/-- [B -/
def k34 : Class := { plain "[B" (some 0) with kind := .array 33 .byte, interfaces := #[17, 2], accessFlags := 1041 }

/-- the primitive int -/
def k35 : Class := { plain "int" none with kind := .primitive 'I', accessFlags := 0x411 }
/-- [I -/
def k36 : Class := { plain "[I" (some 0) with kind := .array 35 .int, interfaces := #[17, 2], accessFlags := 1041 }

/-- [Ljava/lang/Object; -/
def k37 : Class := { plain "[Ljava/lang/Object;" (some 0) with kind := .array 0 (.object "java/lang/Object"), interfaces := #[17, 2], accessFlags := 1041, mirror := some 6 }

/-- [Ljava/lang/String; -/
def k38 : Class := { plain "[Ljava/lang/String;" (some 0) with kind := .array 7 (.object "java/lang/String"), interfaces := #[17, 2], accessFlags := 1041 }

def heap : Heap := #[{ cls := 7, slots := #[.long 0, .int 1, .null, .int 0, .null, .int 0, .int 0], vm := .statics 7 },
  { cls := 9, slots := #[.int 0, .int 8, .int 0, .int 1], vm := .statics 9 },
  { cls := 18, slots := #[.long 0, .int 0, .ref 8, .ref 9], vm := .statics 18 },
  { cls := 21, slots := #[.ref 7, .ref 7, .ref 7, .ref 7, .null], vm := .statics 21 },
  { cls := 23, slots := #[.long 0, .int 0, .null, .ref 10, .ref 11, .null, .null, .null, .int 0, .int 1], vm := .statics 23 },
  { cls := 31, slots := #[.null, .null, .null], vm := .statics 31 },
  { cls := 0, slots := #[], vm := .mirror 37 },
  { cls := 21, slots := #[.null, .int 0, .int 0, .null], vm := .none },
  { cls := 37, slots := #[], vm := .none },
  { cls := 37, slots := #[], vm := .none },
  { cls := 0, slots := #[], vm := .none },
  { cls := 27, slots := #[.null, .int 0], vm := .none }]
def classes : Array Class := #[k0, k1, k2, k3, k4, k5, k6, k7, k8, k9, k10, k11, k12, k13, k14, k15, k16, k17, k18, k19, k20, k21, k22, k23, k24, k25, k26, k27, k28, k29, k30, k31, k32, k33, k34, k35, k36, k37, k38]
def interned : List (Array UInt16 × Addr) := []
def slotsUsed : Nat := 39
def theMethod : MethodId := ⟨1, 3⟩
def args0 : Array Value := #[.int 1, .long 5, .int 2]
def aboutOver (below : List Frame) : State where
  vm := { classes := classes, interned := interned.toArray }
  heap := heap
  slotsUsed := slotsUsed
  threads := #[{ frames := .invoking theMethod args0 :: below }]
def below0 : List Frame := [.native { method := ⟨0, 0⟩, args := #[] }]
def about1 : State := aboutOver below0
def p0 : Program := .bare "" "" ""
def e0 : Env := launch0.env 0 0 0
theorem w_frames : about1.frames = Frame.invoking theMethod args0 :: below0 := rfl
set_option maxRecDepth 65536 in
theorem w_args : argsFit about1.vm theMethod args0 = true := by decide +kernel
set_option maxRecDepth 65536 in
theorem w_heap : heapFits about1 = true := by decide +kernel
set_option maxRecDepth 65536 in
theorem w_runnable : about1.curStatus? = some .runnable := by decide +kernel
set_option maxRecDepth 65536 in
theorem w_alone : about1.alone = true := by decide +kernel
set_option maxRecDepth 65536 in
theorem w_named : about1.methodNamed? x = some theMethod := by decide +kernel
set_option maxRecDepth 65536 in
theorem w_hears : about1.hears theMethod below0 = true := by decide +kernel
set_option maxRecDepth 65536 in
theorem w_ripe : about1.ripe theMethod args0 below0 = true := by decide +kernel
theorem w_running : about1.status = .running := rfl
set_option maxRecDepth 65536 in
theorem w_room : about1.hasRoom e0.platform room_1 = true :=
  launch0.hasRoom_least _ room_1 (by decide +kernel) (by decide +kernel) (by decide +kernel) (by decide +kernel) (by decide +kernel) (by decide +kernel)
theorem allAtoms_all (ts : List Jvm.Cond) (a : Array Jvm.Value) (st : Jvm.State) : (allAtoms ts).before a st = ts.all (fun c => c.before a st) := by
  induction ts with
  | nil => rfl
  | cons c t ih =>
    show (Jvm.Cond.and c (allAtoms t)).before a st = _
    rw [Jvm.Cond.before_and, ih, List.all_cons]
def words1 : List Jvm.Cond := Jvm.Cond.code x code maxLocals ret :: tables_1
/-- a 'code' word, met by the world's own term for the bytes: nothing is compared byte by byte -/
theorem code_word {y : MethodName} {bytes : ByteArray} {mx : Nat} {rt : Option FieldType} {a : Array Value} {s : State} {m : MethodId} {meth : Method} {c : Code} (h1 : s.methodNamed? y = some m) (h2 : s.vm.method? m = some meth) (h3 : meth.code = some c) (h4 : c.code = bytes)
    (h5 : (c.maxLocals == mx && c.exceptionTable.isEmpty && decide (c.maxStack ≤ mostOperands) && decide (meth.sig.returnType = rt) && !meth.locks && decide (parseMethodDescriptor y.desc = some meth.sig)) = true) : (Jvm.Cond.code y bytes mx rt).before a s = true := by
  simp only [Bool.and_eq_true, beq_iff_eq, Bool.not_eq_true', decide_eq_true_eq] at h5
  obtain ⟨⟨⟨⟨⟨g1, g2⟩, g3⟩, g4⟩, g5⟩, g6⟩ := h5
  simp [Cond.before, Cond.holds, Cond.value, h1, h2, h3, h4, g1, g2, g3, g4, g5, g6]
def isCode : Jvm.Cond → Bool
  | .code _ _ _ _ => true
  | _ => false
theorem all_split {L : List Jvm.Cond} {P : Jvm.Cond → Bool} (h1 : L.all (fun c => isCode c || P c) = true) (h2 : ∀ c ∈ L.filter isCode, P c = true) : L.all P = true := by
  refine List.all_eq_true.mpr fun c hc => ?_
  have h := List.all_eq_true.mp h1 c hc
  rcases Bool.eq_false_or_eq_true (isCode c) with hi | hi
  · exact h2 c (List.mem_filter.mpr ⟨hc, hi⟩)
  · simpa [hi] using h
set_option maxRecDepth 65536 in
theorem w_c0 : (Jvm.Cond.code x code maxLocals ret).before args0 about1 = true := code_word (m := ⟨1, 3⟩) (meth := k1m3) (c := k1c3) (by decide +kernel) rfl rfl rfl (by decide +kernel)
set_option maxRecDepth 65536 in
theorem w_c1 : (Jvm.Cond.code ({ cls := "com/example/rights_leak_checker/rightsleakchecker/takegrant/BridgeToPinLaw", name := "vertex", desc := "(JI)Ljava/lang/String;" } : Jvm.MethodName) method_3_code (3 : Nat) (Option.some (Jvm.ClassFile.FieldType.object "java/lang/String"))).before args0 about1 = true := code_word (m := ⟨1, 2⟩) (meth := k1m2) (c := k1c2) (by decide +kernel) rfl rfl rfl (by decide +kernel)
set_option maxRecDepth 65536 in
theorem w_c2 : (Jvm.Cond.code ({ cls := "java/lang/String", name := "valueOf", desc := "(C)Ljava/lang/String;" } : Jvm.MethodName) jdk_42_method_139_code (1 : Nat) (Option.some (Jvm.ClassFile.FieldType.object "java/lang/String"))).before args0 about1 = true := code_word (m := ⟨7, 2⟩) (meth := k7m2) (c := k7c2) (by decide +kernel) rfl rfl rfl (by decide +kernel)
set_option maxRecDepth 65536 in
theorem w_c3 : (Jvm.Cond.code ({ cls := "java/lang/StringLatin1", name := "canEncode", desc := "(C)Z" } : Jvm.MethodName) jdk_43_method_3_code (1 : Nat) (Option.some Jvm.ClassFile.FieldType.boolean)).before args0 about1 = true := code_word (m := ⟨8, 1⟩) (meth := k8m1) (c := k8c1) (by decide +kernel) rfl rfl rfl (by decide +kernel)
set_option maxRecDepth 65536 in
theorem w_c4 : (Jvm.Cond.code ({ cls := "java/lang/StringLatin1", name := "toBytes", desc := "(C)[B" } : Jvm.MethodName) jdk_43_method_46_code (1 : Nat) (Option.some (Jvm.ClassFile.FieldType.array Jvm.ClassFile.FieldType.byte))).before args0 about1 = true := code_word (m := ⟨8, 2⟩) (meth := k8m2) (c := k8c2) (by decide +kernel) rfl rfl rfl (by decide +kernel)
set_option maxRecDepth 65536 in
theorem w_c5 : (Jvm.Cond.code ({ cls := "java/lang/String", name := "<init>", desc := "([BB)V" } : Jvm.MethodName) jdk_42_method_151_code (3 : Nat) (Option.none : Option Jvm.ClassFile.FieldType)).before args0 about1 = true := code_word (m := ⟨7, 3⟩) (meth := k7m3) (c := k7c3) (by decide +kernel) rfl rfl rfl (by decide +kernel)
set_option maxRecDepth 65536 in
theorem w_c6 : (Jvm.Cond.code ({ cls := "java/lang/Object", name := "<init>", desc := "()V" } : Jvm.MethodName) object_method_1_code (1 : Nat) (Option.none : Option Jvm.ClassFile.FieldType)).before args0 about1 = true := code_word (m := ⟨0, 0⟩) (meth := k0m0) (c := k0c0) (by decide +kernel) rfl rfl rfl (by decide +kernel)
set_option maxRecDepth 65536 in
theorem w_c7 : (Jvm.Cond.code ({ cls := "java/lang/StringUTF16", name := "toBytes", desc := "(C)[B" } : Jvm.MethodName) jdk_52_method_24_code (2 : Nat) (Option.some (Jvm.ClassFile.FieldType.array Jvm.ClassFile.FieldType.byte))).before args0 about1 = true := code_word (m := ⟨9, 2⟩) (meth := k9m2) (c := k9c2) (by decide +kernel) rfl rfl rfl (by decide +kernel)
set_option maxRecDepth 65536 in
theorem w_c8 : (Jvm.Cond.code ({ cls := "java/lang/StringUTF16", name := "putChar", desc := "([BII)V" } : Jvm.MethodName) jdk_52_method_4_code (3 : Nat) (Option.none : Option Jvm.ClassFile.FieldType)).before args0 about1 = true := code_word (m := ⟨9, 1⟩) (meth := k9m1) (c := k9c1) (by decide +kernel) rfl rfl rfl (by decide +kernel)
set_option maxRecDepth 65536 in
theorem w_c9 : (Jvm.Cond.code ({ cls := "java/util/ArrayList", name := "<init>", desc := "()V" } : Jvm.MethodName) jdk_38_method_2_code (1 : Nat) (Option.none : Option Jvm.ClassFile.FieldType)).before args0 about1 = true := code_word (m := ⟨18, 0⟩) (meth := k18m0) (c := k18c0) (by decide +kernel) rfl rfl rfl (by decide +kernel)
set_option maxRecDepth 65536 in
theorem w_c10 : (Jvm.Cond.code ({ cls := "java/util/AbstractList", name := "<init>", desc := "()V" } : Jvm.MethodName) jdk_39_method_1_code (1 : Nat) (Option.none : Option Jvm.ClassFile.FieldType)).before args0 about1 = true := code_word (m := ⟨15, 0⟩) (meth := k15m0) (c := k15c0) (by decide +kernel) rfl rfl rfl (by decide +kernel)
set_option maxRecDepth 65536 in
theorem w_c11 : (Jvm.Cond.code ({ cls := "java/util/AbstractCollection", name := "<init>", desc := "()V" } : Jvm.MethodName) jdk_22_method_1_code (1 : Nat) (Option.none : Option Jvm.ClassFile.FieldType)).before args0 about1 = true := code_word (m := ⟨12, 0⟩) (meth := k12m0) (c := k12c0) (by decide +kernel) rfl rfl rfl (by decide +kernel)
set_option maxRecDepth 65536 in
theorem w_c12 : (Jvm.Cond.code ({ cls := "java/util/ArrayList", name := "add", desc := "(Ljava/lang/Object;)Z" } : Jvm.MethodName) jdk_38_method_25_code (2 : Nat) (Option.some Jvm.ClassFile.FieldType.boolean)).before args0 about1 = true := code_word (m := ⟨18, 7⟩) (meth := k18m7) (c := k18c7) (by decide +kernel) rfl rfl rfl (by decide +kernel)
set_option maxRecDepth 65536 in
theorem w_c13 : (Jvm.Cond.code ({ cls := "java/util/ArrayList", name := "add", desc := "(Ljava/lang/Object;[Ljava/lang/Object;I)V" } : Jvm.MethodName) jdk_38_method_24_code (4 : Nat) (Option.none : Option Jvm.ClassFile.FieldType)).before args0 about1 = true := code_word (m := ⟨18, 6⟩) (meth := k18m6) (c := k18c6) (by decide +kernel) rfl rfl rfl (by decide +kernel)
set_option maxRecDepth 65536 in
theorem w_c14 : (Jvm.Cond.code ({ cls := "java/util/ArrayList", name := "grow", desc := "()[Ljava/lang/Object;" } : Jvm.MethodName) jdk_38_method_7_code (1 : Nat) (Option.some (Jvm.ClassFile.FieldType.array (Jvm.ClassFile.FieldType.object "java/lang/Object")))).before args0 about1 = true := code_word (m := ⟨18, 2⟩) (meth := k18m2) (c := k18c2) (by decide +kernel) rfl rfl rfl (by decide +kernel)
set_option maxRecDepth 65536 in
theorem w_c15 : (Jvm.Cond.code ({ cls := "java/util/ArrayList", name := "grow", desc := "(I)[Ljava/lang/Object;" } : Jvm.MethodName) jdk_38_method_6_code (4 : Nat) (Option.some (Jvm.ClassFile.FieldType.array (Jvm.ClassFile.FieldType.object "java/lang/Object")))).before args0 about1 = true := code_word (m := ⟨18, 1⟩) (meth := k18m1) (c := k18c1) (by decide +kernel) rfl rfl rfl (by decide +kernel)
set_option maxRecDepth 65536 in
theorem w_c16 : (Jvm.Cond.code ({ cls := "java/lang/Math", name := "max", desc := "(II)I" } : Jvm.MethodName) jdk_29_method_65_code (2 : Nat) (Option.some Jvm.ClassFile.FieldType.int)).before args0 about1 = true := code_word (m := ⟨19, 1⟩) (meth := k19m1) (c := k19c1) (by decide +kernel) rfl rfl rfl (by decide +kernel)
set_option maxRecDepth 65536 in
theorem w_c17 : (Jvm.Cond.code ({ cls := "com/example/rights_leak_checker/rightsleakchecker/takegrant/BridgeToPinLaw", name := "letter", desc := "(I)Lcom/example/rights_leak_checker/rightsleakchecker/takegrant/Bridge$Letter;" } : Jvm.MethodName) method_2_code (2 : Nat) (Option.some (Jvm.ClassFile.FieldType.object "com/example/rights_leak_checker/rightsleakchecker/takegrant/Bridge$Letter"))).before args0 about1 = true := code_word (m := ⟨1, 1⟩) (meth := k1m1) (c := k1c1) (by decide +kernel) rfl rfl rfl (by decide +kernel)
set_option maxRecDepth 65536 in
theorem w_c18 : (Jvm.Cond.code ({ cls := "com/example/rights_leak_checker/rightsleakchecker/takegrant/Bridge", name := "<init>", desc := "(Ljava/util/List;Ljava/util/List;)V" } : Jvm.MethodName) prog_42_method_1_code (3 : Nat) (Option.none : Option Jvm.ClassFile.FieldType)).before args0 about1 = true := code_word (m := ⟨22, 0⟩) (meth := k22m0) (c := k22c0) (by decide +kernel) rfl rfl rfl (by decide +kernel)
set_option maxRecDepth 65536 in
theorem w_c19 : (Jvm.Cond.code ({ cls := "java/util/ArrayList", name := "size", desc := "()I" } : Jvm.MethodName) jdk_38_method_8_code (1 : Nat) (Option.some Jvm.ClassFile.FieldType.int)).before args0 about1 = true := code_word (m := ⟨18, 3⟩) (meth := k18m3) (c := k18c3) (by decide +kernel) rfl rfl rfl (by decide +kernel)
set_option maxRecDepth 65536 in
theorem w_c20 : (Jvm.Cond.code ({ cls := "java/util/List", name := "copyOf", desc := "(Ljava/util/Collection;)Ljava/util/List;" } : Jvm.MethodName) jdk_40_method_48_code (1 : Nat) (Option.some (Jvm.ClassFile.FieldType.object "java/util/List"))).before args0 about1 = true := code_word (m := ⟨14, 3⟩) (meth := k14m3) (c := k14c3) (by decide +kernel) rfl rfl rfl (by decide +kernel)
set_option maxRecDepth 65536 in
theorem w_c21 : (Jvm.Cond.code ({ cls := "java/util/ImmutableCollections", name := "listCopy", desc := "(Ljava/util/Collection;)Ljava/util/List;" } : Jvm.MethodName) jdk_56_method_3_code (2 : Nat) (Option.some (Jvm.ClassFile.FieldType.object "java/util/List"))).before args0 about1 = true := code_word (m := ⟨23, 1⟩) (meth := k23m1) (c := k23c1) (by decide +kernel) rfl rfl rfl (by decide +kernel)
set_option maxRecDepth 65536 in
theorem w_c22 : (Jvm.Cond.code ({ cls := "java/util/ArrayList", name := "isEmpty", desc := "()Z" } : Jvm.MethodName) jdk_38_method_9_code (1 : Nat) (Option.some Jvm.ClassFile.FieldType.boolean)).before args0 about1 = true := code_word (m := ⟨18, 4⟩) (meth := k18m4) (c := k18c4) (by decide +kernel) rfl rfl rfl (by decide +kernel)
set_option maxRecDepth 65536 in
theorem w_c23 : (Jvm.Cond.code ({ cls := "java/util/ArrayList", name := "toArray", desc := "()[Ljava/lang/Object;" } : Jvm.MethodName) jdk_38_method_16_code (1 : Nat) (Option.some (Jvm.ClassFile.FieldType.array (Jvm.ClassFile.FieldType.object "java/lang/Object")))).before args0 about1 = true := code_word (m := ⟨18, 5⟩) (meth := k18m5) (c := k18c5) (by decide +kernel) rfl rfl rfl (by decide +kernel)
set_option maxRecDepth 65536 in
theorem w_c24 : (Jvm.Cond.code ({ cls := "java/util/Arrays", name := "copyOf", desc := "([Ljava/lang/Object;I)[Ljava/lang/Object;" } : Jvm.MethodName) jdk_65_method_119_code (2 : Nat) (Option.some (Jvm.ClassFile.FieldType.array (Jvm.ClassFile.FieldType.object "java/lang/Object")))).before args0 about1 = true := code_word (m := ⟨28, 1⟩) (meth := k28m1) (c := k28c1) (by decide +kernel) rfl rfl rfl (by decide +kernel)
set_option maxRecDepth 65536 in
theorem w_c25 : (Jvm.Cond.code ({ cls := "java/util/Arrays", name := "copyOf", desc := "([Ljava/lang/Object;ILjava/lang/Class;)[Ljava/lang/Object;" } : Jvm.MethodName) jdk_65_method_120_code (4 : Nat) (Option.some (Jvm.ClassFile.FieldType.array (Jvm.ClassFile.FieldType.object "java/lang/Object")))).before args0 about1 = true := code_word (m := ⟨28, 2⟩) (meth := k28m2) (c := k28c2) (by decide +kernel) rfl rfl rfl (by decide +kernel)
set_option maxRecDepth 65536 in
theorem w_c26 : (Jvm.Cond.code ({ cls := "java/lang/Math", name := "min", desc := "(II)I" } : Jvm.MethodName) jdk_29_method_69_code (2 : Nat) (Option.some Jvm.ClassFile.FieldType.int)).before args0 about1 = true := code_word (m := ⟨19, 2⟩) (meth := k19m2) (c := k19c2) (by decide +kernel) rfl rfl rfl (by decide +kernel)
set_option maxRecDepth 65536 in
theorem w_c27 : (Jvm.Cond.code ({ cls := "java/util/List", name := "of", desc := "([Ljava/lang/Object;)Ljava/util/List;" } : Jvm.MethodName) jdk_40_method_47_code (2 : Nat) (Option.some (Jvm.ClassFile.FieldType.object "java/util/List"))).before args0 about1 = true := code_word (m := ⟨14, 2⟩) (meth := k14m2) (c := k14c2) (by decide +kernel) rfl rfl rfl (by decide +kernel)
set_option maxRecDepth 65536 in
theorem w_c28 : (Jvm.Cond.code ({ cls := "java/util/ImmutableCollections$List12", name := "<init>", desc := "(Ljava/lang/Object;Ljava/lang/Object;)V" } : Jvm.MethodName) jdk_44_method_2_code (3 : Nat) (Option.none : Option Jvm.ClassFile.FieldType)).before args0 about1 = true := code_word (m := ⟨26, 1⟩) (meth := k26m1) (c := k26c1) (by decide +kernel) rfl rfl rfl (by decide +kernel)
set_option maxRecDepth 65536 in
theorem w_c29 : (Jvm.Cond.code ({ cls := "java/util/ImmutableCollections$AbstractImmutableList", name := "<init>", desc := "()V" } : Jvm.MethodName) jdk_46_method_1_code (1 : Nat) (Option.none : Option Jvm.ClassFile.FieldType)).before args0 about1 = true := code_word (m := ⟨25, 0⟩) (meth := k25m0) (c := k25c0) (by decide +kernel) rfl rfl rfl (by decide +kernel)
set_option maxRecDepth 65536 in
theorem w_c30 : (Jvm.Cond.code ({ cls := "java/util/ImmutableCollections$AbstractImmutableCollection", name := "<init>", desc := "()V" } : Jvm.MethodName) jdk_47_method_1_code (1 : Nat) (Option.none : Option Jvm.ClassFile.FieldType)).before args0 about1 = true := code_word (m := ⟨24, 0⟩) (meth := k24m0) (c := k24c0) (by decide +kernel) rfl rfl rfl (by decide +kernel)
set_option maxRecDepth 65536 in
theorem w_c31 : (Jvm.Cond.code ({ cls := "java/util/Objects", name := "requireNonNull", desc := "(Ljava/lang/Object;)Ljava/lang/Object;" } : Jvm.MethodName) jdk_31_method_10_code (1 : Nat) (Option.some (Jvm.ClassFile.FieldType.object "java/lang/Object"))).before args0 about1 = true := code_word (m := ⟨30, 1⟩) (meth := k30m1) (c := k30c1) (by decide +kernel) rfl rfl rfl (by decide +kernel)
set_option maxRecDepth 65536 in
theorem w_c32 : (Jvm.Cond.code ({ cls := "java/util/ImmutableCollections$List12", name := "<init>", desc := "(Ljava/lang/Object;)V" } : Jvm.MethodName) jdk_44_method_1_code (2 : Nat) (Option.none : Option Jvm.ClassFile.FieldType)).before args0 about1 = true := code_word (m := ⟨26, 0⟩) (meth := k26m0) (c := k26c0) (by decide +kernel) rfl rfl rfl (by decide +kernel)
set_option maxRecDepth 65536 in
theorem w_c33 : (Jvm.Cond.code ({ cls := "com/example/rights_leak_checker/rightsleakchecker/takegrant/Bridge", name := "to", desc := "()Ljava/lang/String;" } : Jvm.MethodName) prog_42_method_3_code (1 : Nat) (Option.some (Jvm.ClassFile.FieldType.object "java/lang/String"))).before args0 about1 = true := code_word (m := ⟨22, 1⟩) (meth := k22m1) (c := k22c1) (by decide +kernel) rfl rfl rfl (by decide +kernel)
set_option maxRecDepth 65536 in
theorem w_c34 : (Jvm.Cond.code ({ cls := "java/util/ImmutableCollections$List12", name := "size", desc := "()I" } : Jvm.MethodName) jdk_44_method_3_code (1 : Nat) (Option.some Jvm.ClassFile.FieldType.int)).before args0 about1 = true := code_word (m := ⟨26, 2⟩) (meth := k26m2) (c := k26c2) (by decide +kernel) rfl rfl rfl (by decide +kernel)
set_option maxRecDepth 65536 in
theorem w_c35 : (Jvm.Cond.code ({ cls := "java/util/ImmutableCollections$List12", name := "get", desc := "(I)Ljava/lang/Object;" } : Jvm.MethodName) jdk_44_method_5_code (2 : Nat) (Option.some (Jvm.ClassFile.FieldType.object "java/lang/Object"))).before args0 about1 = true := code_word (m := ⟨26, 3⟩) (meth := k26m3) (c := k26c3) (by decide +kernel) rfl rfl rfl (by decide +kernel)
set_option maxRecDepth 65536 in
theorem w_c36 : (Jvm.Cond.code ({ cls := "java/lang/String", name := "equals", desc := "(Ljava/lang/Object;)Z" } : Jvm.MethodName) jdk_42_method_66_code (3 : Nat) (Option.some Jvm.ClassFile.FieldType.boolean)).before args0 about1 = true := code_word (m := ⟨7, 1⟩) (meth := k7m1) (c := k7c1) (by decide +kernel) rfl rfl rfl (by decide +kernel)
set_option maxRecDepth 65536 in
theorem w_c37 : (Jvm.Cond.code ({ cls := "java/util/ImmutableCollections", name := "listFromArray", desc := "([Ljava/lang/Object;)Ljava/util/List;" } : Jvm.MethodName) jdk_56_method_4_code (3 : Nat) (Option.some (Jvm.ClassFile.FieldType.object "java/util/List"))).before args0 about1 = true := code_word (m := ⟨23, 2⟩) (meth := k23m2) (c := k23c2) (by decide +kernel) rfl rfl rfl (by decide +kernel)
set_option maxRecDepth 65536 in
theorem w_c38 : (Jvm.Cond.code ({ cls := "java/util/ImmutableCollections$ListN", name := "<init>", desc := "([Ljava/lang/Object;Z)V" } : Jvm.MethodName) jdk_45_method_1_code (3 : Nat) (Option.none : Option Jvm.ClassFile.FieldType)).before args0 about1 = true := code_word (m := ⟨27, 0⟩) (meth := k27m0) (c := k27c0) (by decide +kernel) rfl rfl rfl (by decide +kernel)
set_option maxRecDepth 65536 in
theorem w_c39 : (Jvm.Cond.code ({ cls := "java/util/ImmutableCollections$ListN", name := "size", desc := "()I" } : Jvm.MethodName) jdk_45_method_3_code (1 : Nat) (Option.some Jvm.ClassFile.FieldType.int)).before args0 about1 = true := code_word (m := ⟨27, 1⟩) (meth := k27m1) (c := k27c1) (by decide +kernel) rfl rfl rfl (by decide +kernel)
set_option maxRecDepth 65536 in
theorem w_c40 : (Jvm.Cond.code ({ cls := "java/util/ImmutableCollections$ListN", name := "get", desc := "(I)Ljava/lang/Object;" } : Jvm.MethodName) jdk_45_method_4_code (2 : Nat) (Option.some (Jvm.ClassFile.FieldType.object "java/lang/Object"))).before args0 about1 = true := code_word (m := ⟨27, 2⟩) (meth := k27m2) (c := k27c2) (by decide +kernel) rfl rfl rfl (by decide +kernel)
def codes1 : List Jvm.Cond := [Jvm.Cond.code x code maxLocals ret, Jvm.Cond.code ({ cls := "com/example/rights_leak_checker/rightsleakchecker/takegrant/BridgeToPinLaw", name := "vertex", desc := "(JI)Ljava/lang/String;" } : Jvm.MethodName) method_3_code (3 : Nat) (Option.some (Jvm.ClassFile.FieldType.object "java/lang/String")), Jvm.Cond.code ({ cls := "java/lang/String", name := "valueOf", desc := "(C)Ljava/lang/String;" } : Jvm.MethodName) jdk_42_method_139_code (1 : Nat) (Option.some (Jvm.ClassFile.FieldType.object "java/lang/String")), Jvm.Cond.code ({ cls := "java/lang/StringLatin1", name := "canEncode", desc := "(C)Z" } : Jvm.MethodName) jdk_43_method_3_code (1 : Nat) (Option.some Jvm.ClassFile.FieldType.boolean), Jvm.Cond.code ({ cls := "java/lang/StringLatin1", name := "toBytes", desc := "(C)[B" } : Jvm.MethodName) jdk_43_method_46_code (1 : Nat) (Option.some (Jvm.ClassFile.FieldType.array Jvm.ClassFile.FieldType.byte)), Jvm.Cond.code ({ cls := "java/lang/String", name := "<init>", desc := "([BB)V" } : Jvm.MethodName) jdk_42_method_151_code (3 : Nat) (Option.none : Option Jvm.ClassFile.FieldType), Jvm.Cond.code ({ cls := "java/lang/Object", name := "<init>", desc := "()V" } : Jvm.MethodName) object_method_1_code (1 : Nat) (Option.none : Option Jvm.ClassFile.FieldType), Jvm.Cond.code ({ cls := "java/lang/StringUTF16", name := "toBytes", desc := "(C)[B" } : Jvm.MethodName) jdk_52_method_24_code (2 : Nat) (Option.some (Jvm.ClassFile.FieldType.array Jvm.ClassFile.FieldType.byte)), Jvm.Cond.code ({ cls := "java/lang/StringUTF16", name := "putChar", desc := "([BII)V" } : Jvm.MethodName) jdk_52_method_4_code (3 : Nat) (Option.none : Option Jvm.ClassFile.FieldType), Jvm.Cond.code ({ cls := "java/util/ArrayList", name := "<init>", desc := "()V" } : Jvm.MethodName) jdk_38_method_2_code (1 : Nat) (Option.none : Option Jvm.ClassFile.FieldType), Jvm.Cond.code ({ cls := "java/util/AbstractList", name := "<init>", desc := "()V" } : Jvm.MethodName) jdk_39_method_1_code (1 : Nat) (Option.none : Option Jvm.ClassFile.FieldType), Jvm.Cond.code ({ cls := "java/util/AbstractCollection", name := "<init>", desc := "()V" } : Jvm.MethodName) jdk_22_method_1_code (1 : Nat) (Option.none : Option Jvm.ClassFile.FieldType), Jvm.Cond.code ({ cls := "java/util/ArrayList", name := "add", desc := "(Ljava/lang/Object;)Z" } : Jvm.MethodName) jdk_38_method_25_code (2 : Nat) (Option.some Jvm.ClassFile.FieldType.boolean), Jvm.Cond.code ({ cls := "java/util/ArrayList", name := "add", desc := "(Ljava/lang/Object;[Ljava/lang/Object;I)V" } : Jvm.MethodName) jdk_38_method_24_code (4 : Nat) (Option.none : Option Jvm.ClassFile.FieldType), Jvm.Cond.code ({ cls := "java/util/ArrayList", name := "grow", desc := "()[Ljava/lang/Object;" } : Jvm.MethodName) jdk_38_method_7_code (1 : Nat) (Option.some (Jvm.ClassFile.FieldType.array (Jvm.ClassFile.FieldType.object "java/lang/Object"))), Jvm.Cond.code ({ cls := "java/util/ArrayList", name := "grow", desc := "(I)[Ljava/lang/Object;" } : Jvm.MethodName) jdk_38_method_6_code (4 : Nat) (Option.some (Jvm.ClassFile.FieldType.array (Jvm.ClassFile.FieldType.object "java/lang/Object"))), Jvm.Cond.code ({ cls := "java/lang/Math", name := "max", desc := "(II)I" } : Jvm.MethodName) jdk_29_method_65_code (2 : Nat) (Option.some Jvm.ClassFile.FieldType.int), Jvm.Cond.code ({ cls := "com/example/rights_leak_checker/rightsleakchecker/takegrant/BridgeToPinLaw", name := "letter", desc := "(I)Lcom/example/rights_leak_checker/rightsleakchecker/takegrant/Bridge$Letter;" } : Jvm.MethodName) method_2_code (2 : Nat) (Option.some (Jvm.ClassFile.FieldType.object "com/example/rights_leak_checker/rightsleakchecker/takegrant/Bridge$Letter")), Jvm.Cond.code ({ cls := "com/example/rights_leak_checker/rightsleakchecker/takegrant/Bridge", name := "<init>", desc := "(Ljava/util/List;Ljava/util/List;)V" } : Jvm.MethodName) prog_42_method_1_code (3 : Nat) (Option.none : Option Jvm.ClassFile.FieldType), Jvm.Cond.code ({ cls := "java/util/ArrayList", name := "size", desc := "()I" } : Jvm.MethodName) jdk_38_method_8_code (1 : Nat) (Option.some Jvm.ClassFile.FieldType.int), Jvm.Cond.code ({ cls := "java/util/List", name := "copyOf", desc := "(Ljava/util/Collection;)Ljava/util/List;" } : Jvm.MethodName) jdk_40_method_48_code (1 : Nat) (Option.some (Jvm.ClassFile.FieldType.object "java/util/List")), Jvm.Cond.code ({ cls := "java/util/ImmutableCollections", name := "listCopy", desc := "(Ljava/util/Collection;)Ljava/util/List;" } : Jvm.MethodName) jdk_56_method_3_code (2 : Nat) (Option.some (Jvm.ClassFile.FieldType.object "java/util/List")), Jvm.Cond.code ({ cls := "java/util/ArrayList", name := "isEmpty", desc := "()Z" } : Jvm.MethodName) jdk_38_method_9_code (1 : Nat) (Option.some Jvm.ClassFile.FieldType.boolean), Jvm.Cond.code ({ cls := "java/util/ArrayList", name := "toArray", desc := "()[Ljava/lang/Object;" } : Jvm.MethodName) jdk_38_method_16_code (1 : Nat) (Option.some (Jvm.ClassFile.FieldType.array (Jvm.ClassFile.FieldType.object "java/lang/Object"))), Jvm.Cond.code ({ cls := "java/util/Arrays", name := "copyOf", desc := "([Ljava/lang/Object;I)[Ljava/lang/Object;" } : Jvm.MethodName) jdk_65_method_119_code (2 : Nat) (Option.some (Jvm.ClassFile.FieldType.array (Jvm.ClassFile.FieldType.object "java/lang/Object"))), Jvm.Cond.code ({ cls := "java/util/Arrays", name := "copyOf", desc := "([Ljava/lang/Object;ILjava/lang/Class;)[Ljava/lang/Object;" } : Jvm.MethodName) jdk_65_method_120_code (4 : Nat) (Option.some (Jvm.ClassFile.FieldType.array (Jvm.ClassFile.FieldType.object "java/lang/Object"))), Jvm.Cond.code ({ cls := "java/lang/Math", name := "min", desc := "(II)I" } : Jvm.MethodName) jdk_29_method_69_code (2 : Nat) (Option.some Jvm.ClassFile.FieldType.int), Jvm.Cond.code ({ cls := "java/util/List", name := "of", desc := "([Ljava/lang/Object;)Ljava/util/List;" } : Jvm.MethodName) jdk_40_method_47_code (2 : Nat) (Option.some (Jvm.ClassFile.FieldType.object "java/util/List")), Jvm.Cond.code ({ cls := "java/util/ImmutableCollections$List12", name := "<init>", desc := "(Ljava/lang/Object;Ljava/lang/Object;)V" } : Jvm.MethodName) jdk_44_method_2_code (3 : Nat) (Option.none : Option Jvm.ClassFile.FieldType), Jvm.Cond.code ({ cls := "java/util/ImmutableCollections$AbstractImmutableList", name := "<init>", desc := "()V" } : Jvm.MethodName) jdk_46_method_1_code (1 : Nat) (Option.none : Option Jvm.ClassFile.FieldType), Jvm.Cond.code ({ cls := "java/util/ImmutableCollections$AbstractImmutableCollection", name := "<init>", desc := "()V" } : Jvm.MethodName) jdk_47_method_1_code (1 : Nat) (Option.none : Option Jvm.ClassFile.FieldType), Jvm.Cond.code ({ cls := "java/util/Objects", name := "requireNonNull", desc := "(Ljava/lang/Object;)Ljava/lang/Object;" } : Jvm.MethodName) jdk_31_method_10_code (1 : Nat) (Option.some (Jvm.ClassFile.FieldType.object "java/lang/Object")), Jvm.Cond.code ({ cls := "java/util/ImmutableCollections$List12", name := "<init>", desc := "(Ljava/lang/Object;)V" } : Jvm.MethodName) jdk_44_method_1_code (2 : Nat) (Option.none : Option Jvm.ClassFile.FieldType), Jvm.Cond.code ({ cls := "com/example/rights_leak_checker/rightsleakchecker/takegrant/Bridge", name := "to", desc := "()Ljava/lang/String;" } : Jvm.MethodName) prog_42_method_3_code (1 : Nat) (Option.some (Jvm.ClassFile.FieldType.object "java/lang/String")), Jvm.Cond.code ({ cls := "java/util/ImmutableCollections$List12", name := "size", desc := "()I" } : Jvm.MethodName) jdk_44_method_3_code (1 : Nat) (Option.some Jvm.ClassFile.FieldType.int), Jvm.Cond.code ({ cls := "java/util/ImmutableCollections$List12", name := "get", desc := "(I)Ljava/lang/Object;" } : Jvm.MethodName) jdk_44_method_5_code (2 : Nat) (Option.some (Jvm.ClassFile.FieldType.object "java/lang/Object")), Jvm.Cond.code ({ cls := "java/lang/String", name := "equals", desc := "(Ljava/lang/Object;)Z" } : Jvm.MethodName) jdk_42_method_66_code (3 : Nat) (Option.some Jvm.ClassFile.FieldType.boolean), Jvm.Cond.code ({ cls := "java/util/ImmutableCollections", name := "listFromArray", desc := "([Ljava/lang/Object;)Ljava/util/List;" } : Jvm.MethodName) jdk_56_method_4_code (3 : Nat) (Option.some (Jvm.ClassFile.FieldType.object "java/util/List")), Jvm.Cond.code ({ cls := "java/util/ImmutableCollections$ListN", name := "<init>", desc := "([Ljava/lang/Object;Z)V" } : Jvm.MethodName) jdk_45_method_1_code (3 : Nat) (Option.none : Option Jvm.ClassFile.FieldType), Jvm.Cond.code ({ cls := "java/util/ImmutableCollections$ListN", name := "size", desc := "()I" } : Jvm.MethodName) jdk_45_method_3_code (1 : Nat) (Option.some Jvm.ClassFile.FieldType.int), Jvm.Cond.code ({ cls := "java/util/ImmutableCollections$ListN", name := "get", desc := "(I)Ljava/lang/Object;" } : Jvm.MethodName) jdk_45_method_4_code (2 : Nat) (Option.some (Jvm.ClassFile.FieldType.object "java/lang/Object"))]
set_option maxRecDepth 65536 in
theorem codes_eq : words1.filter isCode = codes1 := rfl
theorem w_codes : ∀ c ∈ words1.filter isCode, c.before args0 about1 = true := by
  rw [codes_eq]
  intro c hc
  simp only [codes1, List.mem_cons, List.not_mem_nil, or_false] at hc
  rcases hc with rfl | rfl | rfl | rfl | rfl | rfl | rfl | rfl | rfl | rfl | rfl | rfl | rfl | rfl | rfl | rfl | rfl | rfl | rfl | rfl | rfl | rfl | rfl | rfl | rfl | rfl | rfl | rfl | rfl | rfl | rfl | rfl | rfl | rfl | rfl | rfl | rfl | rfl | rfl | rfl | rfl
  · exact w_c0
  · exact w_c1
  · exact w_c2
  · exact w_c3
  · exact w_c4
  · exact w_c5
  · exact w_c6
  · exact w_c7
  · exact w_c8
  · exact w_c9
  · exact w_c10
  · exact w_c11
  · exact w_c12
  · exact w_c13
  · exact w_c14
  · exact w_c15
  · exact w_c16
  · exact w_c17
  · exact w_c18
  · exact w_c19
  · exact w_c20
  · exact w_c21
  · exact w_c22
  · exact w_c23
  · exact w_c24
  · exact w_c25
  · exact w_c26
  · exact w_c27
  · exact w_c28
  · exact w_c29
  · exact w_c30
  · exact w_c31
  · exact w_c32
  · exact w_c33
  · exact w_c34
  · exact w_c35
  · exact w_c36
  · exact w_c37
  · exact w_c38
  · exact w_c39
  · exact w_c40
set_option maxRecDepth 65536 in
theorem w_t1 : (words1.take 24).all (fun c => isCode c || c.before args0 about1) = true := by decide +kernel
set_option maxRecDepth 65536 in
theorem w_t2 : ((words1.drop 24).take 24).all (fun c => isCode c || c.before args0 about1) = true := by decide +kernel
set_option maxRecDepth 65536 in
theorem w_t3 : (((words1.drop 24).drop 24).take 24).all (fun c => isCode c || c.before args0 about1) = true := by decide +kernel
set_option maxRecDepth 65536 in
theorem w_t4 : ((((words1.drop 24).drop 24).drop 24).take 24).all (fun c => isCode c || c.before args0 about1) = true := by decide +kernel
set_option maxRecDepth 65536 in
theorem w_t5 : (((((words1.drop 24).drop 24).drop 24).drop 24).take 24).all (fun c => isCode c || c.before args0 about1) = true := by decide +kernel
set_option maxRecDepth 65536 in
theorem w_t6 : ((((((words1.drop 24).drop 24).drop 24).drop 24).drop 24).take 24).all (fun c => isCode c || c.before args0 about1) = true := by decide +kernel
set_option maxRecDepth 65536 in
theorem w_t7 : (((((((words1.drop 24).drop 24).drop 24).drop 24).drop 24).drop 24).take 24).all (fun c => isCode c || c.before args0 about1) = true := by decide +kernel
set_option maxRecDepth 65536 in
theorem w_t8 : ((((((((words1.drop 24).drop 24).drop 24).drop 24).drop 24).drop 24).drop 24).take 24).all (fun c => isCode c || c.before args0 about1) = true := by decide +kernel
set_option maxRecDepth 65536 in
theorem w_t9 : (((((((((words1.drop 24).drop 24).drop 24).drop 24).drop 24).drop 24).drop 24).drop 24).take 24).all (fun c => isCode c || c.before args0 about1) = true := by decide +kernel
set_option maxRecDepth 65536 in
theorem w_t10 : ((((((((((words1.drop 24).drop 24).drop 24).drop 24).drop 24).drop 24).drop 24).drop 24).drop 24).take 24).all (fun c => isCode c || c.before args0 about1) = true := by decide +kernel
set_option maxRecDepth 65536 in
theorem w_t11 : (((((((((((words1.drop 24).drop 24).drop 24).drop 24).drop 24).drop 24).drop 24).drop 24).drop 24).drop 24).take 24).all (fun c => isCode c || c.before args0 about1) = true := by decide +kernel
set_option maxRecDepth 65536 in
theorem w_t12 : (((((((((((words1.drop 24).drop 24).drop 24).drop 24).drop 24).drop 24).drop 24).drop 24).drop 24).drop 24).drop 24).all (fun c => isCode c || c.before args0 about1) = true := by decide +kernel
theorem w_tables : (allAtoms (Jvm.Cond.code x code maxLocals ret :: tables_1)).before args0 about1 = true := by
  rw [allAtoms_all]
  show words1.all (fun c => c.before args0 about1) = true
  refine all_split ?_ w_codes
  rw [← List.take_append_drop 24 words1, List.all_append, w_t1, ← List.take_append_drop 24 (words1.drop 24), List.all_append, w_t2, ← List.take_append_drop 24 ((words1.drop 24).drop 24), List.all_append, w_t3, ← List.take_append_drop 24 (((words1.drop 24).drop 24).drop 24), List.all_append, w_t4, ← List.take_append_drop 24 ((((words1.drop 24).drop 24).drop 24).drop 24), List.all_append, w_t5, ← List.take_append_drop 24 (((((words1.drop 24).drop 24).drop 24).drop 24).drop 24), List.all_append, w_t6, ← List.take_append_drop 24 ((((((words1.drop 24).drop 24).drop 24).drop 24).drop 24).drop 24), List.all_append, w_t7, ← List.take_append_drop 24 (((((((words1.drop 24).drop 24).drop 24).drop 24).drop 24).drop 24).drop 24), List.all_append, w_t8, ← List.take_append_drop 24 ((((((((words1.drop 24).drop 24).drop 24).drop 24).drop 24).drop 24).drop 24).drop 24), List.all_append, w_t9, ← List.take_append_drop 24 (((((((((words1.drop 24).drop 24).drop 24).drop 24).drop 24).drop 24).drop 24).drop 24).drop 24), List.all_append, w_t10, ← List.take_append_drop 24 ((((((((((words1.drop 24).drop 24).drop 24).drop 24).drop 24).drop 24).drop 24).drop 24).drop 24).drop 24), List.all_append, w_t11, w_t12]
  rfl
set_option maxRecDepth 65536 in
theorem w_rest : rest_1_c.before args0 about1 = true := by decide +kernel
set_option maxRecDepth 65536 in
theorem w_case : (Jvm.Cond.and given_1 narrow_1).before args0 about1 = true := by decide +kernel
theorem w_applies : (headSpec (Jvm.Cond.code x code maxLocals ret :: tables_1) room_1).applies x e0.platform about1 = true :=
  (Spec.applies_iff w_frames).mpr ⟨w_running, w_runnable, w_alone, w_named, w_hears, w_ripe, w_room, w_tables⟩
theorem atStart : AtStart classFile x code maxLocals ret World_1 tables_1 room_1 Calls_1 rest_1 Pre_1 launch0 p0 e0 about1 theMethod args0 below0 :=
  ⟨lists_1, trivial, launch0.admits_env _ _ _, launch0.least_env, fairChoices_fair.cas, fairChoices_fair.clock, w_frames, w_args, w_heap, w_applies, ⟨⟨37, k37, 6, by decide +kernel, rfl, rfl, _, rfl, rfl⟩, trivial⟩, w_rest, w_case⟩
end start1
theorem witness_1 : WitnessClaimed_1 := ⟨start1.p0, start1.e0, start1.about1, start1.theMethod, start1.args0, start1.below0, start1.atStart⟩
end Jvm.Pilot.@@N@@
