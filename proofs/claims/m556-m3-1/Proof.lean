import JvmDerived
import JvmDerived.Pilot.@@N@@Statement
import JvmDerived.Pilot.@@N@@Code
set_option linter.unusedVariables false
set_option linter.unusedSimpArgs false
namespace Jvm.Pilot.@@N@@
open Jvm Jvm.ClassFile Sem Op Lib Jvm.Free Jvm.Stand Jvm.LawKit Jvm.RoadKit Bundle Jvm.Pilot.@@N@@.Jvm.D
section Own
/-- the run goes on from here and ends as E says -/
def Go (p : Program) (e : Env) (below : List Frame) (E : State → Prop) (T : State) (f : JFrame) : Prop := ∃ t, Steps p.tables e below (T.setTop f) t ∧ E t
theorem Go.of {p : Program} {e : Env} {below : List Frame} {E : State → Prop} {T T' : State} {f f' : JFrame} (st : ∀ t, Steps p.tables e below (T'.setTop f') t → Steps p.tables e below (T.setTop f) t) (h : Go p e below E T' f') : Go p e below E T f := by
  obtain ⟨t, h1, h2⟩ := h
  exact ⟨t, st t h1, h2⟩
theorem Go.cast {p : Program} {e : Env} {below : List Frame} {E : State → Prop} {T : State} {f f' : JFrame} (q : f = f') (h : Go p e below E T f') : Go p e below E T f := q ▸ h
/-- the end of an invocation: it has returned, and Q holds of what it returned, of the heap, of what it wrote -/
def Fine (s : State) (below : List Frame) (rm : Room) (Q : Option Value → Heap → List Loc → Prop) (t : State) : Prop :=
  ∃ o, t.status = .running ∧ Ended t below o ∧ ∃ v L, o = .returned v ∧ Q v t.heap L ∧ FrameEnd s o t L rm.cells rm.slots
/-- a contract -/
abbrev Ct (l : Launch) (Z : State) (y : MethodName) (bytes : ByteArray) (maxL : Nat) (rt : Option FieldType) (ws : List Jvm.Cond) (rm : Room) (as' : Array Value) (h : Heap) (Q : Option Value → Heap → List Loc → Prop) : Prop :=
  MetFree l y (head1 (Jvm.Cond.code y bytes maxL rt :: ws) rm) (fun a U => a = as' ∧ Z.Warmed39 U.vm ∧ U.heap = h) (fun _ _ _ _ _ => True) (fun _ U o U' => ∃ v L, o = .returned v ∧ Q v U'.heap L ∧ FrameEnd U o U' L rm.cells rm.slots)
/-- it returns V and leaves the heap as it was -/
def Pu (h : Heap) (V : Option Value) : Option Value → Heap → List Loc → Prop := fun v h' L => v = V ∧ L = [] ∧ h' = h
theorem own_met {l : Launch} {Z : State} {y : MethodName} {bytes : ByteArray} {maxL : Nat} {rt : Option FieldType} {ws : List Jvm.Cond} {rm : Room} {as' : Array Value} {h : Heap} {Q : Option Value → Heap → List Loc → Prop} (hpl : plainFor y = true)
    (body : ∀ (p : Program) (e : Env) (s : State) (m : MethodId) (below : List Frame) (meth : Method) (c : Code) (s₁ : State), Stand p l e rm s m as' below meth c s₁ [] 0 0 → p.tables.exec = Jvm.exec → c.code = bytes → c.maxLocals = maxL → meth.sig.returnType = rt →
      s.vm.findClass y.cls = some m.cls → meth.name = y.name → meth.locks = false → Z.Warmed39 s.vm → s₁.heap = h → Go p e below (Fine s below rm Q) s₁ (entryFrame m as' maxL)) : Ct l Z y bytes maxL rt ws rm as' h Q := by
  refine MetFree.of_bodySF hpl hisR ?_
  intro p e s m args below meth c s₁ Bd hml0 hP hK
  obtain ⟨rfl, hZ, hh⟩ := hP
  have X0 : Stand p l e rm s m _ below meth c s₁ [] 0 0 := Stand.of_body Bd
  obtain ⟨t, h1, o, h2, h3, h4⟩ := body p e s m below meth c s₁ X0 Bd.exec Bd.bytes hml0 Bd.returns (findClass_of_methodNamed Bd.named) (name_of_methodNamed Bd.named Bd.method).1 Bd.notSynchronized hZ (by rw [← hh, Bd.state]; rfl)
  exact ⟨t, o, h1, h2, h3, h4⟩
section Steps
variable {p : Program} {l : Launch} {e : Env} {R : Room} {s : State} {m : MethodId} {args : Array Value} {below : List Frame} {meth : Method} {c : Code} {T : State} {locs : List Loc} {cells slots : Nat} {Z : State} {a0 : Array Value} {h : Heap} {Q : Option Value → Heap → List Loc → Prop}
theorem own_retI (X : Stand p l e R s m args below meth c T locs cells slots) (hx : p.tables.exec = Jvm.exec) (hlk : meth.locks = false) {pc : Nat} {Ls : Array Slot} {z : Int32} {rest : List Value} (hret : meth.sig.returnType = some .int) (hd : decode c.code pc = .ok (.ireturn, 1))
    (hQ : Q (some (.int z)) T.heap locs) (hc : cells ≤ R.cells) (hs : slots ≤ R.slots) : Go p e below (Fine s below R Q) T (mkF m pc Ls (.int z :: rest)) := by
  obtain ⟨fs, hr, hrun, hended, hW, hsame⟩ := X.leave (v := some (.int z)) (fun h => by rw [hret] at h; cases h) hlk
  exact ⟨_, retOut X hx hret rfl (Or.inl ⟨rfl, Or.inl rfl, z, rfl⟩) hd hr, _, hrun, hended, _, _, rfl, hQ, ⟨_, rfl⟩, hW, hsame.mono hc hs⟩
theorem own_retZ (X : Stand p l e R s m args below meth c T locs cells slots) (hx : p.tables.exec = Jvm.exec) (hlk : meth.locks = false) {pc : Nat} {Ls : Array Slot} {z z' : Int32} {rest : List Value} (hret : meth.sig.returnType = some .boolean) (hd : decode c.code pc = .ok (.ireturn, 1)) (hz : nar .boolean z = z')
    (hQ : Q (some (.int z')) T.heap locs) (hc : cells ≤ R.cells) (hs : slots ≤ R.slots) : Go p e below (Fine s below R Q) T (mkF m pc Ls (.int z :: rest)) := by
  subst hz
  obtain ⟨fs, hr, hrun, hended, hW, hsame⟩ := X.leave (v := some (.int (nar .boolean z))) (fun h => by rw [hret] at h; cases h) hlk
  exact ⟨_, retN X hx (t := .boolean) hret (by simp) hd hr, _, hrun, hended, _, _, rfl, hQ, ⟨_, rfl⟩, hW, hsame.mono hc hs⟩
theorem own_retA (X : Stand p l e R s m args below meth c T locs cells slots) (hx : p.tables.exec = Jvm.exec) (hlk : meth.locks = false) {pc : Nat} {Ls : Array Slot} {w : Value} {t : FieldType} {rest : List Value} (hret : meth.sig.returnType = some t) (ht : t.isReference = true) (hw : w.isRef = true) (hd : decode c.code pc = .ok (.areturn, 1))
    (hQ : Q (some w) T.heap locs) (hc : cells ≤ R.cells) (hs : slots ≤ R.slots) : Go p e below (Fine s below R Q) T (mkF m pc Ls (w :: rest)) := by
  obtain ⟨fs, hr, hrun, hended, hW, hsame⟩ := X.leave (v := some w) (fun h => by rw [hret] at h; cases h) hlk
  have hn : narrow t w = w := by rcases ref_cases hw with rfl | ⟨q, rfl⟩ <;> cases t <;> first | rfl | (cases ht; done)
  exact ⟨_, retOut X hx hret hn (Or.inr (Or.inr (Or.inr (Or.inr ⟨rfl, ht, hw⟩)))) hd hr, _, hrun, hended, _, _, rfl, hQ, ⟨_, rfl⟩, hW, hsame.mono hc hs⟩
theorem own_retV (X : Stand p l e R s m args below meth c T locs cells slots) (hx : p.tables.exec = Jvm.exec) (hlk : meth.locks = false) {pc : Nat} {Ls : Array Slot} (hret : meth.sig.returnType = none) (hd : decode c.code pc = .ok (.return_, 1))
    (hQ : Q none T.heap locs) (hc : cells ≤ R.cells) (hs : slots ≤ R.slots) : Go p e below (Fine s below R Q) T (mkF m pc Ls []) := by
  obtain ⟨fs, hr, hrun, hended, hW, hsame⟩ := X.leave (v := none) (fun _ => rfl) hlk
  exact ⟨_, X.returnOut hx hret hd hr, _, hrun, hended, _, _, rfl, hQ, ⟨_, rfl⟩, hW, hsame.mono hc hs⟩
/-- a static call by a contract -/
theorem own_callSQ (X : Stand p l e R s m args below meth c T locs cells slots) (hx : p.tables.exec = Jvm.exec) (hZ : Z.Warmed39 s.vm) {own : String} {index : Nat} {y : MethodName} {bytes : ByteArray} {maxL : Nat} {rt : Option FieldType} (hown : s.vm.findClass own = some m.cls)
    (w1 : (Jvm.Cond.methodLink own index y).before a0 Z = true) (w2 : (Jvm.Cond.static y).before a0 Z = true) (w3 : (Jvm.Cond.initialized y.cls).before a0 Z = true) (w4 : (Jvm.Cond.code y bytes maxL rt).before a0 Z = true) (hy : y.cls ≠ "java/lang/invoke/MethodHandle" ∧ y.cls ≠ "java/lang/invoke/VarHandle")
    {rm : Room} {as' : Array Value} (hM : Ct l Z y bytes maxL rt [] rm as' h Q) (hf : rm.frames + 1 ≤ R.frames) (W : Nat) (hl : W + (maxL + 11) + rm.locals ≤ R.locals) (hc : cells + rm.cells ≤ R.cells) (hs : slots + rm.slots ≤ R.slots) (eT : T.heap = h)
    {g : JFrame} (hg : g.method = m) (hsize : g.locals.size = c.maxLocals) (argsL rest : List Value) (hlen : ∀ sig, parseMethodDescriptor y.desc = some sig → argsL.length = sig.parameters.length) (hstack : g.stack = argsL.reverse ++ rest) (hW : 2 * g.monitorRoom + (rest.map fun v => v.category).sum ≤ W) (has : argsL.toArray = as')
    (hd : decode c.code g.pc = .ok (.invokestatic index, 3)) : ∃ T' L v, Stand p l e R s m args below meth c T' (locs ++ L) (cells + rm.cells) (slots + rm.slots) ∧ Q v T'.heap L ∧ ∀ t, Steps p.tables e below (T'.setTop { g with pc := g.pc + 3, stack := v.toList ++ rest }) t → Steps p.tables e below (T.setTop g) t := by
  obtain ⟨v, _, ⟨T', L', k', n'⟩, -, X', ⟨L, hQ, q1, q2, q3⟩, st⟩ := Jvm.LawKit.callS X hx (y := y) hown (mvT hZ w1) (mvT hZ w2) (mvT hZ w3) (mvT hZ w4) hy (backOf (W := W) hM hZ w4 w3 hf hl) hg hsize (argsL := argsL) (rest := rest) hlen hstack hW hd (fun _ _ => ⟨has, eT, hc, hs⟩)
  dsimp only [Pt.U, Pt.locs, Pt.cells, Pt.slots] at X' q1 q2 q3 st hQ
  subst q1 q2 q3
  exact ⟨T', L, v, X', hQ, st⟩
/-- an instance call by a contract -/
theorem own_callVQ (X : Stand p l e R s m args below meth c T locs cells slots) (hx : p.tables.exec = Jvm.exec) (hZ : Z.Warmed39 s.vm) {own C : String} {index : Nat} {y z : MethodName} {bytes : ByteArray} {maxL : Nat} {rt : Option FieldType} (hown : s.vm.findClass own = some m.cls)
    (w1 : (Jvm.Cond.methodLink own index y).before a0 Z = true) (w2 : (Jvm.Cond.declares y).before a0 Z = true) (w2' : (Jvm.Cond.selects y.cls y y).before a0 Z = true) (w3 : (Jvm.Cond.selects C y z).before a0 Z = true) (w4 : (Jvm.Cond.instanceMethod z).before a0 Z = true) (w5 : (Jvm.Cond.code z bytes maxL rt).before a0 Z = true) (w6 : (Jvm.Cond.initialized z.cls).before a0 Z = true) (hy : y.cls ≠ "java/lang/invoke/MethodHandle" ∧ y.cls ≠ "java/lang/invoke/VarHandle")
    {rm : Room} {as' : Array Value} (hM : Ct l Z z bytes maxL rt [] rm as' h Q) (hf : rm.frames + 1 ≤ R.frames) (W : Nat) (hl : W + (maxL + 11) + rm.locals ≤ R.locals) (hc : cells + rm.cells ≤ R.cells) (hs : slots + rm.slots ≤ R.slots) (eT : T.heap = h) {b : Addr} (hE : Exa Z h b C)
    {g : JFrame} (hg : g.method = m) (hsize : g.locals.size = c.maxLocals) (argsL rest : List Value) (hlen : ∀ sig, parseMethodDescriptor y.desc = some sig → argsL.length = sig.parameters.length) (hstack : g.stack = argsL.reverse ++ .ref b :: rest) (hW : 2 * g.monitorRoom + (rest.map fun v => v.category).sum ≤ W) (has : (.ref b :: argsL).toArray = as')
    (hd : decode c.code g.pc = .ok (.invokevirtual index, 3)) : ∃ T' L v, Stand p l e R s m args below meth c T' (locs ++ L) (cells + rm.cells) (slots + rm.slots) ∧ Q v T'.heap L ∧ ∀ t, Steps p.tables e below (T'.setTop { g with pc := g.pc + 3, stack := v.toList ++ rest }) t → Steps p.tables e below (T.setTop g) t := by
  obtain ⟨cq, kq, qa, qb, qc⟩ := isOf (s := s) hZ eT hE
  obtain ⟨v, _, ⟨T', L', k', n'⟩, -, X', ⟨L, hQ, q1, q2, q3⟩, st⟩ := X.virtualBack hx (y := y) (z := z) hown (mvT hZ w1) (mvT hZ w2) (notFace_of_selects (args := #[]) (mvT hZ w2')) (mvT hZ w3) (mvT hZ w4) hy (backOf (W := W) hM hZ w5 w6 hf hl) qa qc hg hsize (Steps.refl _) (argsL := argsL) (rest := rest) hlen hstack hW hd (fun _ _ => ⟨has, eT, hc, hs⟩)
  dsimp only [Pt.U, Pt.locs, Pt.cells, Pt.slots] at X' q1 q2 q3 st hQ
  subst q1 q2 q3
  exact ⟨T', L, v, X', hQ, fun t k => st.trans k⟩
/-- an instance call of a method that a class above declares -/
theorem own_callUQ (X : Stand p l e R s m args below meth c T locs cells slots) (hx : p.tables.exec = Jvm.exec) (hZ : Z.Warmed39 s.vm) {own C owner : String} {index : Nat} {y z : MethodName} {bytes : ByteArray} {maxL : Nat} {rt : Option FieldType} (hown : s.vm.findClass own = some m.cls)
    (w1 : (Jvm.Cond.methodLink own index y).before a0 Z = true) (w2 : (Jvm.Cond.sameMethod y.cls owner y.name y.desc).before a0 Z = true) (w2' : (Jvm.Cond.declares ⟨owner, y.name, y.desc⟩).before a0 Z = true) (hy : owner ≠ "java/lang/invoke/MethodHandle" ∧ owner ≠ "java/lang/invoke/VarHandle") (w3 : (Jvm.Cond.selects C y z).before a0 Z = true) (w4 : (Jvm.Cond.instanceMethod z).before a0 Z = true) (w5 : (Jvm.Cond.code z bytes maxL rt).before a0 Z = true) (w6 : (Jvm.Cond.initialized z.cls).before a0 Z = true)
    {rm : Room} {as' : Array Value} (hM : Ct l Z z bytes maxL rt [] rm as' h Q) (hf : rm.frames + 1 ≤ R.frames) (W : Nat) (hl : W + (maxL + 11) + rm.locals ≤ R.locals) (hc : cells + rm.cells ≤ R.cells) (hs : slots + rm.slots ≤ R.slots) (eT : T.heap = h) {b : Addr} (hE : Exa Z h b C)
    {g : JFrame} (hg : g.method = m) (hsize : g.locals.size = c.maxLocals) (argsL rest : List Value) (hlen : ∀ sig, parseMethodDescriptor y.desc = some sig → argsL.length = sig.parameters.length) (hstack : g.stack = argsL.reverse ++ .ref b :: rest) (hW : 2 * g.monitorRoom + (rest.map fun v => v.category).sum ≤ W) (has : (.ref b :: argsL).toArray = as')
    (hd : decode c.code g.pc = .ok (.invokevirtual index, 3)) : ∃ T' L v, Stand p l e R s m args below meth c T' (locs ++ L) (cells + rm.cells) (slots + rm.slots) ∧ Q v T'.heap L ∧ ∀ t, Steps p.tables e below (T'.setTop { g with pc := g.pc + 3, stack := v.toList ++ rest }) t → Steps p.tables e below (T.setTop g) t := by
  obtain ⟨cq, kq, qa, qb, qc⟩ := isOf (s := s) hZ eT hE
  obtain ⟨v, _, ⟨T', L', k', n'⟩, -, X', ⟨L, hQ, q1, q2, q3⟩, st⟩ := X.virtualBackUp hx (x := y) (y := z) hown (mvT hZ w1) (mvT hZ w2) (mvT hZ w2') hy (mvT hZ w3) (mvT hZ w4) (backOf (W := W) hM hZ w5 w6 hf hl) qa qc hg hsize (Steps.refl _) (argsL := argsL) (rest := rest) hlen hstack hW hd (fun _ _ => ⟨has, eT, hc, hs⟩)
  dsimp only [Pt.U, Pt.locs, Pt.cells, Pt.slots] at X' q1 q2 q3 st hQ
  subst q1 q2 q3
  exact ⟨T', L, v, X', hQ, fun t k => st.trans k⟩
/-- a constructor by a contract -/
theorem own_callCQ (X : Stand p l e R s m args below meth c T locs cells slots) (hx : p.tables.exec = Jvm.exec) (hZ : Z.Warmed39 s.vm) {own : String} {index : Nat} {y : MethodName} {bytes : ByteArray} {maxL : Nat} (hy1 : y.name = "<init>") (hown : s.vm.findClass own = some m.cls)
    (w1 : (Jvm.Cond.methodLink own index y).before a0 Z = true) (w2 : (Jvm.Cond.instanceMethod y).before a0 Z = true) (w5 : (Jvm.Cond.code y bytes maxL none).before a0 Z = true) (w6 : (Jvm.Cond.initialized y.cls).before a0 Z = true) (hy : y.cls ≠ "java/lang/invoke/MethodHandle" ∧ y.cls ≠ "java/lang/invoke/VarHandle")
    {rm : Room} {as' : Array Value} (hM : Ct l Z y bytes maxL none [] rm as' h Q) (hf : rm.frames + 1 ≤ R.frames) (W : Nat) (hl : W + (maxL + 11) + rm.locals ≤ R.locals) (hc : cells + rm.cells ≤ R.cells) (hs : slots + rm.slots ≤ R.slots) (eT : T.heap = h) {b : Addr}
    {g : JFrame} (hg : g.method = m) (hsize : g.locals.size = c.maxLocals) (argsL rest : List Value) (hlen : ∀ sig, parseMethodDescriptor y.desc = some sig → argsL.length = sig.parameters.length) (hstack : g.stack = argsL.reverse ++ .ref b :: rest) (hW : 2 * g.monitorRoom + (rest.map fun v => v.category).sum ≤ W) (has : (.ref b :: argsL).toArray = as')
    (hd : decode c.code g.pc = .ok (.invokespecial index, 3)) : ∃ T' L v, Stand p l e R s m args below meth c T' (locs ++ L) (cells + rm.cells) (slots + rm.slots) ∧ Q v T'.heap L ∧ ∀ t, Steps p.tables e below (T'.setTop { g with pc := g.pc + 3, stack := v.toList ++ rest }) t → Steps p.tables e below (T.setTop g) t := by
  obtain ⟨v, _, ⟨T', L', k', n'⟩, -, X', ⟨L, hQ, q1, q2, q3⟩, st⟩ := X.specialBack hx (y := y) hy1 hown (mvT hZ w1) (mvT hZ w2) (mvT hZ w5) hy (backOf (W := W) hM hZ w5 w6 hf hl) hg hsize (Steps.refl _) (a := b) (argsL := argsL) (rest := rest) hlen hstack hW hd (fun _ _ => ⟨has, eT, hc, hs⟩)
  dsimp only [Pt.U, Pt.locs, Pt.cells, Pt.slots] at X' q1 q2 q3 st hQ
  subst q1 q2 q3
  exact ⟨T', L, v, X', hQ, fun t k => st.trans k⟩
/-- behind a call whose contract is 'Pu': nothing has moved -/
theorem own_pure {g : JFrame} {rest : List Value} {V : Value} {rc rs : Nat} (h1 : rc = 0) (h2 : rs = 0)
    (q : ∃ T' L v, Stand p l e R s m args below meth c T' (locs ++ L) (cells + rc) (slots + rs) ∧ Pu h (some V) v T'.heap L ∧ ∀ t, Steps p.tables e below (T'.setTop { g with pc := g.pc + 3, stack := v.toList ++ rest }) t → Steps p.tables e below (T.setTop g) t) :
    ∃ T', Stand p l e R s m args below meth c T' locs cells slots ∧ T'.heap = h ∧ ∀ t, Steps p.tables e below (T'.setTop { g with pc := g.pc + 3, stack := V :: rest }) t → Steps p.tables e below (T.setTop g) t := by
  subst h1 h2
  obtain ⟨T', L, v, X', ⟨rfl, rfl, e'⟩, st⟩ := q
  rw [List.append_nil] at X'
  exact ⟨T', X', e', st⟩
/-- the same for a call that returns nothing -/
theorem own_pureN {g : JFrame} {rest : List Value} {rc rs : Nat} (h1 : rc = 0) (h2 : rs = 0)
    (q : ∃ T' L v, Stand p l e R s m args below meth c T' (locs ++ L) (cells + rc) (slots + rs) ∧ Pu h none v T'.heap L ∧ ∀ t, Steps p.tables e below (T'.setTop { g with pc := g.pc + 3, stack := v.toList ++ rest }) t → Steps p.tables e below (T.setTop g) t) :
    ∃ T', Stand p l e R s m args below meth c T' locs cells slots ∧ T'.heap = h ∧ ∀ t, Steps p.tables e below (T'.setTop { g with pc := g.pc + 3, stack := rest }) t → Steps p.tables e below (T.setTop g) t := by
  subst h1 h2
  obtain ⟨T', L, v, X', ⟨rfl, rfl, e'⟩, st⟩ := q
  rw [List.append_nil] at X'
  exact ⟨T', X', e', st⟩
end Steps
/-- the same Stand at another state -/
def Same {p : Program} {l : Launch} {e : Env} {R : Room} {s : State} {m : MethodId} {args : Array Value} {below : List Frame} {meth : Method} {c : Code} {T : State} {locs : List Loc} {cells slots : Nat} (X : Stand p l e R s m args below meth c T locs cells slots) (T' : State) : Prop := Stand p l e R s m args below meth c T' locs cells slots
theorem Same.out {p : Program} {l : Launch} {e : Env} {R : Room} {s : State} {m : MethodId} {args : Array Value} {below : List Frame} {meth : Method} {c : Code} {T : State} {locs : List Loc} {cells slots : Nat} {X : Stand p l e R s m args below meth c T locs cells slots} {T' : State} (h : Same X T') : Stand p l e R s m args below meth c T' locs cells slots := h
theorem Same.mk {p : Program} {l : Launch} {e : Env} {R : Room} {s : State} {m : MethodId} {args : Array Value} {below : List Frame} {meth : Method} {c : Code} {T : State} {locs : List Loc} {cells slots : Nat} {X : Stand p l e R s m args below meth c T locs cells slots} {T' : State} (h : Stand p l e R s m args below meth c T' locs cells slots) : Same X T' := h
/-! heaps that keep the old cells -/
theorem own_ext0 (h : Heap) : Ext h h := ⟨Nat.le_refl _, fun _ _ q => q⟩
theorem own_extT {h1 h2 h3 : Heap} (a : Ext h1 h2) (b : Ext h2 h3) : Ext h1 h3 := ⟨Nat.le_trans a.1 b.1, fun x c q => b.2 x c (a.2 x c q)⟩
theorem own_extW {h0 h h' : Heap} {a : Addr} {sl : Nat} {v : Value} (x : Ext h0 h) (W : Wr h h' a sl v) (ha : h0.size ≤ a) : Ext h0 h' := by
  refine ⟨by rw [W.size]; exact x.1, fun b c q => ?_⟩
  obtain ⟨c', e1, -, -, -, e5, -⟩ := wr_at W (x.2 b c q)
  have hb : b < h0.size := (Array.getElem?_eq_some_iff.mp q).1
  rw [e1, e5 (fun z => absurd ha (by rw [← z]; exact Nat.not_le.mpr hb))]
/-- an array of references: just these values -/
def Al (Z : State) (h : Heap) (a : Addr) (k : ClassId) (C : String) (vs : List Value) : Prop := ∃ c : Cell, Arr Z h a c (.object C) ∧ c.cls = k ∧ c.slots = vs.toArray
theorem own_newA {Z : State} {h : Heap} {a : Addr} {k : ClassId} {C : String} {n : Int32} {vs : List Value} (A : Arr Z h a (newA k (.object C) n) (.object C)) (hv : List.replicate n.toNatClampNeg .null = vs) : Al Z h a k C vs := by
  subst hv
  exact ⟨_, A, rfl, by simp [newA, defaultValue]⟩
theorem Al.ext {Z : State} {h h' : Heap} {a : Addr} {k : ClassId} {C : String} {vs : List Value} (F : Al Z h a k C vs) (x : Ext h h') : Al Z h' a k C vs := by
  obtain ⟨c, A, q⟩ := F
  exact ⟨c, A.ext x, q⟩
theorem own_stA {p : Program} {l : Launch} {e : Env} {R : Room} {s : State} {m : MethodId} {args : Array Value} {below : List Frame} {meth : Method} {c : Code} {T : State} {locs : List Loc} {cells slots : Nat} {Z : State} {h : Heap} (X : Stand p l e R s m args below meth c T locs cells slots) (hx : p.tables.exec = Jvm.exec) (hZ : Z.Warmed39 s.vm) (eT : T.heap = h)
    {a : Addr} {k : ClassId} {C : String} {vs : List Value} (A : Al Z h a k C vs) (O : Ovr Z k C) {j : Int32} {v : Value} (hj : ¬ j < 0) (hl : j.toNatClampNeg < vs.length) (F : v = .null ∨ ∃ y, v = .ref y ∧ Exa Z h y C) {vs' : List Value} (hv : vs.set j.toNatClampNeg v = vs')
    {g : JFrame} (hg : g.method = m) {rest : List Value} (hs : g.stack = v :: .int j :: .ref a :: rest) (hd : decode c.code g.pc = .ok (.aastore, 1)) :
    ∃ T' h', Stand p l e R s m args below meth c T' (locs ++ [⟨a, j.toNatClampNeg⟩]) cells slots ∧ T'.heap = h' ∧ Wr h h' a j.toNatClampNeg v ∧ Al Z h' a k C vs' ∧ ∀ target, Steps p.tables e below (T'.setTop { g with pc := g.pc + 1, stack := rest }) target → Steps p.tables e below (T.setTop g) target := by
  obtain ⟨cl, A1, q1, q2⟩ := A
  subst hv
  have S : Sto Z h a v := by
    rcases F with rfl | ⟨y, rfl, E⟩
    · exact Or.inl rfl
    · exact Sto.ofV A1 q1 O (Ins.self E)
  obtain ⟨T', h', X', e', W, st⟩ := stR X hx hZ eT A1 (j := j) (fun q => q.elim hj (fun z => by rw [q2] at z; simp at z; omega)) rfl S hg hs hd
  exact ⟨T', h', X', e', W, ⟨_, Arr.same W A1, q1, by simp [Cell.setSlot, q2]⟩, st⟩
/-! from a case's words to facts of the heap -/
section Words
variable {Z : State} {args : Array Value}
theorem own_fld {t : Term} {C n d : String} {a : Addr} {k : Int32} (ev : t.eval args Z none [] Z = some (.ref a)) (h : (Jvm.Cond.eq (.field t C n d) (.int k)).value args Z none Z [] = some true) : Fld Z Z.heap a C n d (.int k) := by
  obtain ⟨x, y, h1, h2, -, h4⟩ := cmp_v (Or.inl h)
  cases h2
  obtain ⟨z, rfl⟩ := h4
  have h3 := h1
  rw [fld_at ev] at h3
  have e2 : (Term.int k).eval args Z none [] Z = some (.int k) := rfl
  have : z = k := by simpa [Jvm.Cond.value, h1, e2] using h
  subst this
  exact Fld.start h3
theorem own_ne {Z : State} {h : Heap} {a b : Addr} {C n d : String} {v w : Value} (F : Fld Z h a C n d v) (G : Fld Z h b C n d w) (hn : v ≠ w) : a ≠ b := fun q => by
  subst q
  obtain ⟨c1, _, _, _, f1, h1, h2, -, -, -, -, h7⟩ := F
  obtain ⟨c2, _, _, _, f2, g1, g2, -, -, -, -, g7⟩ := G
  cases h1.symm.trans g1
  cases h2.symm.trans g2
  exact hn (Option.some.inj (h7.symm.trans g7))
end Words
end Own
def Wd (Z : State) (h : Heap) (w : Nat → Addr) : Prop := Sta Z h "com/example/drawdown/drawdown/core/pricing/SplitRatingRule" "COLUMNS" "Lcom/example/drawdown/drawdown/core/pricing/SplitRatingRule;" (.ref (w 0)) ∧ Sta Z h "com/example/drawdown/drawdown/core/pricing/SplitRatingRule" "BETTER" "Lcom/example/drawdown/drawdown/core/pricing/SplitRatingRule;" (.ref (w 1)) ∧ Sta Z h "com/example/drawdown/drawdown/core/pricing/SplitRatingRule" "ONE_BETTER_THAN_WORSE" "Lcom/example/drawdown/drawdown/core/pricing/SplitRatingRule;" (.ref (w 2)) ∧ (∀ i, i < 3 → Exa Z h (w i) "com/example/drawdown/drawdown/core/pricing/SplitRatingRule") ∧ (∀ i, i < 3 → Fld Z h (w i) "java/lang/Enum" "ordinal" "I" (.int (Int32.ofNat i)))
theorem own_inj {Z : State} {h : Heap} {w : Nat → Addr} (F : ∀ i, i < 3 → Fld Z h (w i) "java/lang/Enum" "ordinal" "I" (.int (Int32.ofNat i))) {i j : Nat} (hi : i < 3) (hj : j < 3) (hn : Int32.ofNat i ≠ Int32.ofNat j) : ¬ w i = w j := own_ne (F i hi) (F j hj) (fun q => hn (Value.int.inj q))
theorem own_rem (x n : Int32) (hn : 0 < n.toInt) : 0 ≤ ((x &&& 2147483647) % n).toInt ∧ ((x &&& 2147483647) % n).toInt < n.toInt := by
  have h1 := (c_and x 2147483647 (by decide)).1
  have h2 := (c_iremV (x &&& 2147483647) n).1 h1 hn
  exact ⟨h2.1, h2.2.1⟩
theorem own_c3 {i : Int32} (h : 0 ≤ i.toInt ∧ i.toInt < 3) : i = 0 ∨ i = 1 ∨ i = 2 := by
  simp only [← Int32.toInt_inj, (by decide : (0 : Int32).toInt = 0), (by decide : (1 : Int32).toInt = 1), (by decide : (2 : Int32).toInt = 2)]
  omega
def mn (u v : Int32) : Int32 := if v < u then v else u
def mx (u v : Int32) : Int32 := if u < v then v else u
def lvl (o u v : Int32) : Int32 := if o = 0 then (if 1 < mx u v - mn u v then mx u v - 1 else mx u v) else if o = 1 then mn u v else (if mx u v - mn u v = 0 then mx u v else mx u v - 1)
theorem own_asym {a b : Int32} (h : a < b) : ¬ b < a := by rw [Int32.lt_iff_toInt_lt] at h ⊢; omega
theorem own_gt {a b : Int32} (h1 : ¬ a = b) (h2 : ¬ a < b) : b < a := by rw [Int32.lt_iff_toInt_lt] at h2 ⊢; rw [← Int32.toInt_inj] at h1; omega
theorem lvl0 (u v : Int32) : lvl 0 u v = (if 1 < mx u v - mn u v then mx u v - 1 else mx u v) := if_pos rfl
theorem lvl1 (u v : Int32) : lvl 1 u v = mn u v := (if_neg (by decide)).trans (if_pos rfl)
theorem lvl2 (u v : Int32) : lvl 2 u v = (if mx u v - mn u v = 0 then mx u v else mx u v - 1) := (if_neg (by decide)).trans (if_neg (by decide))
theorem lvl_eq (a : Int32) : lvl 0 a a = a ∧ lvl 1 a a = a ∧ lvl 2 a a = a := by
  have e1 : mn a a = a := by simp [mn]
  have e2 : mx a a = a := by simp [mx]
  have e3 : a - a = 0 := Int32.sub_self a
  exact ⟨by rw [lvl0, e1, e2, e3]; exact if_neg (by decide), by rw [lvl1, e1], by rw [lvl2, e1, e2, e3]; exact if_pos rfl⟩
theorem lvl_lt {a b : Int32} (Ra : 0 ≤ a.toInt) (h : a < b) : lvl 0 a b = (if b - a = 1 then b else b - 1) ∧ lvl 0 b a = (if b - a = 1 then b else b - 1) ∧ lvl 1 a b = a ∧ lvl 1 b a = a ∧ lvl 2 a b = b - 1 ∧ lvl 2 b a = b - 1 := by
  have e1 : mn a b = a := if_neg (own_asym h)
  have e2 : mx a b = b := if_pos h
  have e3 : mn b a = a := if_pos h
  have e4 : mx b a = b := if_neg (own_asym h)
  have hl := Int32.lt_iff_toInt_lt.mp h
  have u1 := Int32.toInt_lt b
  have es : (b - a).toInt = b.toInt - a.toInt := XT.sub32 ⟨by omega, by omega⟩
  have z1 : (1 : Int32).toInt = 1 := by decide
  have z0 : (0 : Int32).toInt = 0 := by decide
  have k1 : (1 < b - a) ↔ ¬ (b - a = 1) := by rw [Int32.lt_iff_toInt_lt, ← Int32.toInt_inj, es, z1]; omega
  have k2 : ¬ (b - a = 0) := by rw [← Int32.toInt_inj, es, z0]; omega
  have q0 : (if 1 < b - a then b - 1 else b) = (if b - a = 1 then b else b - 1) := by
    by_cases c : b - a = 1
    · rw [if_neg (fun z => (k1.mp z) c), if_pos c]
    · rw [if_pos (k1.mpr c), if_neg c]
  exact ⟨by rw [lvl0, e1, e2]; exact q0, by rw [lvl0, e3, e4]; exact q0, by rw [lvl1, e1], by rw [lvl1, e3], by rw [lvl2, e1, e2]; exact if_neg k2, by rw [lvl2, e3, e4]; exact if_neg k2⟩
theorem dc1_0 : decode jdk_29_method_69_code 0 = .ok (.iload_n 0, 1) := by decide +kernel
theorem dc1_1 : decode jdk_29_method_69_code 1 = .ok (.iload_n 1, 1) := by decide +kernel
theorem dc1_2 : decode jdk_29_method_69_code 2 = .ok (.if_icmp .gt 7, 3) := by decide +kernel
theorem dc1_5 : decode jdk_29_method_69_code 5 = .ok (.iload_n 0, 1) := by decide +kernel
theorem dc1_6 : decode jdk_29_method_69_code 6 = .ok (.goto 4, 3) := by decide +kernel
theorem dc1_9 : decode jdk_29_method_69_code 9 = .ok (.iload_n 1, 1) := by decide +kernel
theorem dc1_10 : decode jdk_29_method_69_code 10 = .ok (.ireturn, 1) := by decide +kernel
theorem pn_c1 : plainFor (⟨"java/lang/Math", "min", "(II)I"⟩ : MethodName) = true := by first | (refine plainFor_of_name ?_; simp [plainName, overriddenIn]; done) | (refine plainFor_of_name ?_; decide +kernel) | decide +kernel
theorem ef_c1 (m : MethodId) (u : Int32) (v : Int32) : entryFrame m #[(.int u), (.int v)] 2 = mkF m 0 #[.val (.int u), .val (.int v)] [] := by first | (simp [entryFrame, mkF, argsToLocals, Value.category]; done) | rfl
set_option maxRecDepth 65536 in
set_option maxHeartbeats 40000000 in
theorem c1 (l : Launch) (Z : State) (a0 : Array Value) (hw : ∀ d ∈ tables_1, d.before a0 Z = true) (h0 : Heap) (u v : Int32) :
    Ct l Z (⟨"java/lang/Math", "min", "(II)I"⟩ : MethodName) jdk_29_method_69_code 2 (some .int) [] ({ frames := 0, cells := 0, slots := 0, locals := 0 } : Room) #[(.int u), (.int v)] h0 (Pu h0 (some (.int (mn u v)))) := by
  refine own_met pn_c1 ?_
  intro p e s m below meth c s₁ X0 hx hby hml hret hown hnm hlk hZ e0
  refine Go.cast (ef_c1 m u v) ?_
  show Go p e below _ s₁ (mkF m 0 #[.val (.int u), .val (.int v)] [])
  refine Go.of (fun _ k => XS.iloadN X0.here hx rfl (hb hby dc1_0) rfl k) ?_
  show Go p e below _ s₁ (mkF m 1 #[.val (.int u), .val (.int v)] [(.int u)])
  refine Go.of (fun _ k => XS.iloadN X0.here hx rfl (hb hby dc1_1) rfl k) ?_
  show Go p e below _ s₁ (mkF m 2 #[.val (.int u), .val (.int v)] [(.int v), (.int u)])
  by_cases hc2_1 : v < u
  ·
    refine Go.of (fun _ k => XS.icmpYes X0.here hx rfl (pc0 := 2) (pc' := 9) rfl (hb hby dc1_2) rfl (XT.ii_gt_t hc2_1) (by decide) (by decide) k) ?_
    show Go p e below _ s₁ (mkF m 9 #[.val (.int u), .val (.int v)] [])
    refine Go.of (fun _ k => XS.iloadN X0.here hx rfl (hb hby dc1_9) rfl k) ?_
    show Go p e below _ s₁ (mkF m 10 #[.val (.int u), .val (.int v)] [(.int v)])
    exact own_retI X0 hx hlk hret (hb hby dc1_10) ⟨by rw [mn, if_pos hc2_1], rfl, e0⟩ (by decide) (by decide)
  ·
    refine Go.of (fun _ k => XS.icmpNo X0.here hx rfl (hb hby dc1_2) rfl (XT.ii_gt_f hc2_1) k) ?_
    show Go p e below _ s₁ (mkF m 5 #[.val (.int u), .val (.int v)] [])
    refine Go.of (fun _ k => XS.iloadN X0.here hx rfl (hb hby dc1_5) rfl k) ?_
    show Go p e below _ s₁ (mkF m 6 #[.val (.int u), .val (.int v)] [(.int u)])
    refine Go.of (fun _ k => XS.goto X0.here hx rfl (pc0 := 6) (pc' := 10) rfl (hb hby dc1_6) (by decide) (by decide) k) ?_
    show Go p e below _ s₁ (mkF m 10 #[.val (.int u), .val (.int v)] [(.int u)])
    exact own_retI X0 hx hlk hret (hb hby dc1_10) ⟨by rw [mn, if_neg hc2_1], rfl, e0⟩ (by decide) (by decide)
theorem dc2_0 : decode jdk_29_method_65_code 0 = .ok (.iload_n 0, 1) := by decide +kernel
theorem dc2_1 : decode jdk_29_method_65_code 1 = .ok (.iload_n 1, 1) := by decide +kernel
theorem dc2_2 : decode jdk_29_method_65_code 2 = .ok (.if_icmp .lt 7, 3) := by decide +kernel
theorem dc2_5 : decode jdk_29_method_65_code 5 = .ok (.iload_n 0, 1) := by decide +kernel
theorem dc2_6 : decode jdk_29_method_65_code 6 = .ok (.goto 4, 3) := by decide +kernel
theorem dc2_9 : decode jdk_29_method_65_code 9 = .ok (.iload_n 1, 1) := by decide +kernel
theorem dc2_10 : decode jdk_29_method_65_code 10 = .ok (.ireturn, 1) := by decide +kernel
theorem pn_c2 : plainFor (⟨"java/lang/Math", "max", "(II)I"⟩ : MethodName) = true := by first | (refine plainFor_of_name ?_; simp [plainName, overriddenIn]; done) | (refine plainFor_of_name ?_; decide +kernel) | decide +kernel
theorem ef_c2 (m : MethodId) (u : Int32) (v : Int32) : entryFrame m #[(.int u), (.int v)] 2 = mkF m 0 #[.val (.int u), .val (.int v)] [] := by first | (simp [entryFrame, mkF, argsToLocals, Value.category]; done) | rfl
set_option maxRecDepth 65536 in
set_option maxHeartbeats 40000000 in
theorem c2 (l : Launch) (Z : State) (a0 : Array Value) (hw : ∀ d ∈ tables_1, d.before a0 Z = true) (h0 : Heap) (u v : Int32) :
    Ct l Z (⟨"java/lang/Math", "max", "(II)I"⟩ : MethodName) jdk_29_method_65_code 2 (some .int) [] ({ frames := 0, cells := 0, slots := 0, locals := 0 } : Room) #[(.int u), (.int v)] h0 (Pu h0 (some (.int (mx u v)))) := by
  refine own_met pn_c2 ?_
  intro p e s m below meth c s₁ X0 hx hby hml hret hown hnm hlk hZ e0
  refine Go.cast (ef_c2 m u v) ?_
  show Go p e below _ s₁ (mkF m 0 #[.val (.int u), .val (.int v)] [])
  refine Go.of (fun _ k => XS.iloadN X0.here hx rfl (hb hby dc2_0) rfl k) ?_
  show Go p e below _ s₁ (mkF m 1 #[.val (.int u), .val (.int v)] [(.int u)])
  refine Go.of (fun _ k => XS.iloadN X0.here hx rfl (hb hby dc2_1) rfl k) ?_
  show Go p e below _ s₁ (mkF m 2 #[.val (.int u), .val (.int v)] [(.int v), (.int u)])
  by_cases hc2_1 : u < v
  ·
    refine Go.of (fun _ k => XS.icmpYes X0.here hx rfl (pc0 := 2) (pc' := 9) rfl (hb hby dc2_2) rfl (XT.ii_lt_t hc2_1) (by decide) (by decide) k) ?_
    show Go p e below _ s₁ (mkF m 9 #[.val (.int u), .val (.int v)] [])
    refine Go.of (fun _ k => XS.iloadN X0.here hx rfl (hb hby dc2_9) rfl k) ?_
    show Go p e below _ s₁ (mkF m 10 #[.val (.int u), .val (.int v)] [(.int v)])
    exact own_retI X0 hx hlk hret (hb hby dc2_10) ⟨by rw [mx, if_pos hc2_1], rfl, e0⟩ (by decide) (by decide)
  ·
    refine Go.of (fun _ k => XS.icmpNo X0.here hx rfl (hb hby dc2_2) rfl (XT.ii_lt_f hc2_1) k) ?_
    show Go p e below _ s₁ (mkF m 5 #[.val (.int u), .val (.int v)] [])
    refine Go.of (fun _ k => XS.iloadN X0.here hx rfl (hb hby dc2_5) rfl k) ?_
    show Go p e below _ s₁ (mkF m 6 #[.val (.int u), .val (.int v)] [(.int u)])
    refine Go.of (fun _ k => XS.goto X0.here hx rfl (pc0 := 6) (pc' := 10) rfl (hb hby dc2_6) (by decide) (by decide) k) ?_
    show Go p e below _ s₁ (mkF m 10 #[.val (.int u), .val (.int v)] [(.int u)])
    exact own_retI X0 hx hlk hret (hb hby dc2_10) ⟨by rw [mx, if_neg hc2_1], rfl, e0⟩ (by decide) (by decide)
theorem dc3_0 : decode jdk_37_method_2_code 0 = .ok (.aload_n 0, 1) := by decide +kernel
theorem dc3_1 : decode jdk_37_method_2_code 1 = .ok (.getfield 7, 3) := by decide +kernel
theorem dc3_4 : decode jdk_37_method_2_code 4 = .ok (.ireturn, 1) := by decide +kernel
theorem pn_c3 : plainFor (⟨"java/lang/Enum", "ordinal", "()I"⟩ : MethodName) = true := by first | (refine plainFor_of_name ?_; simp [plainName, overriddenIn]; done) | (refine plainFor_of_name ?_; decide +kernel) | decide +kernel
theorem ef_c3 (m : MethodId) (a : Addr) : entryFrame m #[(.ref a)] 1 = mkF m 0 #[.val (.ref a)] [] := by first | (simp [entryFrame, mkF, argsToLocals, Value.category]; done) | rfl
set_option maxRecDepth 65536 in
set_option maxHeartbeats 40000000 in
theorem c3 (l : Launch) (Z : State) (a0 : Array Value) (hw : ∀ d ∈ tables_1, d.before a0 Z = true) (h0 : Heap) (a : Addr) (r : Int32) (F : Fld Z h0 a "java/lang/Enum" "ordinal" "I" (.int r)) :
    Ct l Z (⟨"java/lang/Enum", "ordinal", "()I"⟩ : MethodName) jdk_37_method_2_code 1 (some .int) [] ({ frames := 0, cells := 0, slots := 0, locals := 0 } : Room) #[(.ref a)] h0 (Pu h0 (some (.int r))) := by
  refine own_met pn_c3 ?_
  intro p e s m below meth c s₁ X0 hx hby hml hret hown hnm hlk hZ e0
  refine Go.cast (ef_c3 m a) ?_
  show Go p e below _ s₁ (mkF m 0 #[.val (.ref a)] [])
  refine Go.of (fun _ k => XS.aloadN X0.here hx rfl (hb hby dc3_0) rfl rfl k) ?_
  show Go p e below _ s₁ (mkF m 1 #[.val (.ref a)] [(.ref a)])
  obtain ⟨T1, X1, e1, st1⟩ := getF X0 hx hZ hown (host := "") (Or.inl (hw _ (List.mem_of_getElem? (i := 23) rfl))) Via.refl e0 F (g := (mkF m 1 #[.val (.ref a)] [(.ref a)])) rfl rfl (hb hby dc3_1)
  refine Go.of st1 ?_
  show Go p e below _ T1 (mkF m 4 #[.val (.ref a)] [(.int r)])
  exact own_retI X1 hx hlk hret (hb hby dc3_4) ⟨rfl, rfl, e1⟩ (by decide) (by decide)
theorem dc4_0_0 : decode prog_73_method_4_code 0 = .ok (.iload_n 1, 1) := by decide +kernel
theorem dc4_0_1 : decode prog_73_method_4_code 1 = .ok (.iload_n 2, 1) := by decide +kernel
theorem dc4_0_2 : decode prog_73_method_4_code 2 = .ok (.invokestatic 32, 3) := by decide +kernel
theorem dc4_0_5 : decode prog_73_method_4_code 5 = .ok (.istore_n 3, 1) := by decide +kernel
theorem dc4_0_6 : decode prog_73_method_4_code 6 = .ok (.iload_n 1, 1) := by decide +kernel
theorem dc4_0_7 : decode prog_73_method_4_code 7 = .ok (.iload_n 2, 1) := by decide +kernel
theorem dc4_0_8 : decode prog_73_method_4_code 8 = .ok (.invokestatic 38, 3) := by decide +kernel
theorem dc4_0_11 : decode prog_73_method_4_code 11 = .ok (.istore 4, 2) := by decide +kernel
theorem dc4_0_13 : decode prog_73_method_4_code 13 = .ok (.iload 4, 2) := by decide +kernel
theorem dc4_0_15 : decode prog_73_method_4_code 15 = .ok (.iload_n 3, 1) := by decide +kernel
theorem dc4_0_16 : decode prog_73_method_4_code 16 = .ok (.isub, 1) := by decide +kernel
theorem dc4_0_17 : decode prog_73_method_4_code 17 = .ok (.istore 5, 2) := by decide +kernel
theorem dc4_0_19 : decode prog_73_method_4_code 19 = .ok (.aload_n 0, 1) := by decide +kernel
theorem dc4_0_20 : decode prog_73_method_4_code 20 = .ok (.invokevirtual 41, 3) := by decide +kernel
theorem dc4_0_23 : decode prog_73_method_4_code 23 = .ok (.tableswitch 25 0 2 #[35, 53, 57], 25) := by decide +kernel
theorem dc4_0_58 : decode prog_73_method_4_code 58 = .ok (.iload 5, 2) := by decide +kernel
theorem dc4_0_60 : decode prog_73_method_4_code 60 = .ok (.iconst 1, 1) := by decide +kernel
theorem dc4_0_61 : decode prog_73_method_4_code 61 = .ok (.if_icmp .gt 8, 3) := by decide +kernel
theorem dc4_0_64 : decode prog_73_method_4_code 64 = .ok (.iload 4, 2) := by decide +kernel
theorem dc4_0_66 : decode prog_73_method_4_code 66 = .ok (.goto 28, 3) := by decide +kernel
theorem dc4_0_69 : decode prog_73_method_4_code 69 = .ok (.iload 4, 2) := by decide +kernel
theorem dc4_0_71 : decode prog_73_method_4_code 71 = .ok (.iconst 1, 1) := by decide +kernel
theorem dc4_0_72 : decode prog_73_method_4_code 72 = .ok (.isub, 1) := by decide +kernel
theorem dc4_0_73 : decode prog_73_method_4_code 73 = .ok (.goto 21, 3) := by decide +kernel
theorem dc4_0_94 : decode prog_73_method_4_code 94 = .ok (.ireturn, 1) := by decide +kernel
theorem pn_c4_0 : plainFor (⟨"com/example/drawdown/drawdown/core/pricing/SplitRatingRule", "level", "(II)I"⟩ : MethodName) = true := by first | (refine plainFor_of_name ?_; simp [plainName, overriddenIn]; done) | (refine plainFor_of_name ?_; decide +kernel) | decide +kernel
theorem ef_c4_0 (m : MethodId) (a : Addr) (u : Int32) (v : Int32) : entryFrame m #[(.ref a), (.int u), (.int v)] 6 = mkF m 0 #[.val (.ref a), .val (.int u), .val (.int v), .unset, .unset, .unset] [] := by first | (simp [entryFrame, mkF, argsToLocals, Value.category]; done) | rfl
set_option maxRecDepth 65536 in
set_option maxHeartbeats 40000000 in
theorem c4_0 (l : Launch) (Z : State) (a0 : Array Value) (hw : ∀ d ∈ tables_1, d.before a0 Z = true) (h0 : Heap) (a : Addr) (u v : Int32) (Ea : Exa Z h0 a "com/example/drawdown/drawdown/core/pricing/SplitRatingRule") (F : Fld Z h0 a "java/lang/Enum" "ordinal" "I" (.int (0 : Int32))) :
    Ct l Z (⟨"com/example/drawdown/drawdown/core/pricing/SplitRatingRule", "level", "(II)I"⟩ : MethodName) prog_73_method_4_code 6 (some .int) [] ({ frames := 1, cells := 0, slots := 0, locals := 13 } : Room) #[(.ref a), (.int u), (.int v)] h0 (Pu h0 (some (.int (lvl (0 : Int32) u v)))) := by
  refine own_met pn_c4_0 ?_
  intro p e s m below meth c s₁ X0 hx hby hml hret hown hnm hlk hZ e0
  refine Go.cast (ef_c4_0 m a u v) ?_
  show Go p e below _ s₁ (mkF m 0 #[.val (.ref a), .val (.int u), .val (.int v), .unset, .unset, .unset] [])
  refine Go.of (fun _ k => XS.iloadN X0.here hx rfl (hb hby dc4_0_0) rfl k) ?_
  show Go p e below _ s₁ (mkF m 1 #[.val (.ref a), .val (.int u), .val (.int v), .unset, .unset, .unset] [(.int u)])
  refine Go.of (fun _ k => XS.iloadN X0.here hx rfl (hb hby dc4_0_1) rfl k) ?_
  show Go p e below _ s₁ (mkF m 2 #[.val (.ref a), .val (.int u), .val (.int v), .unset, .unset, .unset] [(.int v), (.int u)])
  obtain ⟨T1, X1, e1, st1⟩ := own_pure rfl rfl (own_callSQ X0 hx hZ (y := (⟨"java/lang/Math", "min", "(II)I"⟩ : MethodName)) hown (hw _ (List.mem_of_getElem? (i := 9) rfl)) (hw _ (List.mem_of_getElem? (i := 10) rfl)) (hw _ (List.mem_of_getElem? (i := 11) rfl)) (hw _ (List.mem_of_getElem? (i := 12) rfl)) (by decide) (c1 l Z a0 hw h0 u v) (by decide) 0 (by decide) (by decide) (by decide) e0 (g := (mkF m 2 #[.val (.ref a), .val (.int u), .val (.int v), .unset, .unset, .unset] [(.int v), (.int u)])) rfl (by rw [hml]; rfl) [(.int u), (.int v)] [] (lenOf (by decide +kernel : parseMethodDescriptor "(II)I" = some ⟨[.int, .int], some .int⟩) rfl) rfl (by show 2 * 0 + _ ≤ _; exact Nat.le_of_eq rfl) rfl (hb hby dc4_0_2))
  refine Go.of st1 ?_
  show Go p e below _ T1 (mkF m 5 #[.val (.ref a), .val (.int u), .val (.int v), .unset, .unset, .unset] [(.int (mn u v))])
  refine Go.of (fun _ k => XS.istoreN X1.here hx rfl (hb hby dc4_0_5) rfl (l' := #[.val (.ref a), .val (.int u), .val (.int v), .val (.int (mn u v)), .unset, .unset]) rfl k) ?_
  show Go p e below _ T1 (mkF m 6 #[.val (.ref a), .val (.int u), .val (.int v), .val (.int (mn u v)), .unset, .unset] [])
  refine Go.of (fun _ k => XS.iloadN X1.here hx rfl (hb hby dc4_0_6) rfl k) ?_
  show Go p e below _ T1 (mkF m 7 #[.val (.ref a), .val (.int u), .val (.int v), .val (.int (mn u v)), .unset, .unset] [(.int u)])
  refine Go.of (fun _ k => XS.iloadN X1.here hx rfl (hb hby dc4_0_7) rfl k) ?_
  show Go p e below _ T1 (mkF m 8 #[.val (.ref a), .val (.int u), .val (.int v), .val (.int (mn u v)), .unset, .unset] [(.int v), (.int u)])
  obtain ⟨T2, X2, e2, st2⟩ := own_pure rfl rfl (own_callSQ X1 hx hZ (y := (⟨"java/lang/Math", "max", "(II)I"⟩ : MethodName)) hown (hw _ (List.mem_of_getElem? (i := 13) rfl)) (hw _ (List.mem_of_getElem? (i := 14) rfl)) (hw _ (List.mem_of_getElem? (i := 11) rfl)) (hw _ (List.mem_of_getElem? (i := 15) rfl)) (by decide) (c2 l Z a0 hw h0 u v) (by decide) 0 (by decide) (by decide) (by decide) e1 (g := (mkF m 8 #[.val (.ref a), .val (.int u), .val (.int v), .val (.int (mn u v)), .unset, .unset] [(.int v), (.int u)])) rfl (by rw [hml]; rfl) [(.int u), (.int v)] [] (lenOf (by decide +kernel : parseMethodDescriptor "(II)I" = some ⟨[.int, .int], some .int⟩) rfl) rfl (by show 2 * 0 + _ ≤ _; exact Nat.le_of_eq rfl) rfl (hb hby dc4_0_8))
  refine Go.of st2 ?_
  show Go p e below _ T2 (mkF m 11 #[.val (.ref a), .val (.int u), .val (.int v), .val (.int (mn u v)), .unset, .unset] [(.int (mx u v))])
  refine Go.of (fun _ k => XS.istore X2.here hx rfl (hb hby dc4_0_11) rfl (l' := #[.val (.ref a), .val (.int u), .val (.int v), .val (.int (mn u v)), .val (.int (mx u v)), .unset]) rfl k) ?_
  show Go p e below _ T2 (mkF m 13 #[.val (.ref a), .val (.int u), .val (.int v), .val (.int (mn u v)), .val (.int (mx u v)), .unset] [])
  refine Go.of (fun _ k => XS.iload X2.here hx rfl (hb hby dc4_0_13) rfl k) ?_
  show Go p e below _ T2 (mkF m 15 #[.val (.ref a), .val (.int u), .val (.int v), .val (.int (mn u v)), .val (.int (mx u v)), .unset] [(.int (mx u v))])
  refine Go.of (fun _ k => XS.iloadN X2.here hx rfl (hb hby dc4_0_15) rfl k) ?_
  show Go p e below _ T2 (mkF m 16 #[.val (.ref a), .val (.int u), .val (.int v), .val (.int (mn u v)), .val (.int (mx u v)), .unset] [(.int (mn u v)), (.int (mx u v))])
  refine Go.of (fun _ k => XS.isub X2.here hx rfl (hb hby dc4_0_16) rfl k) ?_
  show Go p e below _ T2 (mkF m 17 #[.val (.ref a), .val (.int u), .val (.int v), .val (.int (mn u v)), .val (.int (mx u v)), .unset] [(.int ((mx u v) - (mn u v)))])
  refine Go.of (fun _ k => XS.istore X2.here hx rfl (hb hby dc4_0_17) rfl (l' := #[.val (.ref a), .val (.int u), .val (.int v), .val (.int (mn u v)), .val (.int (mx u v)), .val (.int ((mx u v) - (mn u v)))]) rfl k) ?_
  show Go p e below _ T2 (mkF m 19 #[.val (.ref a), .val (.int u), .val (.int v), .val (.int (mn u v)), .val (.int (mx u v)), .val (.int ((mx u v) - (mn u v)))] [])
  refine Go.of (fun _ k => XS.aloadN X2.here hx rfl (hb hby dc4_0_19) rfl rfl k) ?_
  show Go p e below _ T2 (mkF m 20 #[.val (.ref a), .val (.int u), .val (.int v), .val (.int (mn u v)), .val (.int (mx u v)), .val (.int ((mx u v) - (mn u v)))] [(.ref a)])
  obtain ⟨T3, X3, e3, st3⟩ := own_pure rfl rfl (own_callUQ X2 hx hZ (y := (⟨"com/example/drawdown/drawdown/core/pricing/SplitRatingRule", "ordinal", "()I"⟩ : MethodName)) hown (hw _ (List.mem_of_getElem? (i := 16) rfl)) (hw _ (List.mem_of_getElem? (i := 17) rfl)) (hw _ (List.mem_of_getElem? (i := 18) rfl)) (by decide) (hw _ (List.mem_of_getElem? (i := 20) rfl)) (hw _ (List.mem_of_getElem? (i := 19) rfl)) (hw _ (List.mem_of_getElem? (i := 22) rfl)) (hw _ (List.mem_of_getElem? (i := 21) rfl)) (c3 l Z a0 hw h0 a (0 : Int32) F) (by decide) 0 (by decide) (by decide) (by decide) e2 Ea (g := (mkF m 20 #[.val (.ref a), .val (.int u), .val (.int v), .val (.int (mn u v)), .val (.int (mx u v)), .val (.int ((mx u v) - (mn u v)))] [(.ref a)])) rfl (by rw [hml]; rfl) [] [] (lenOf (by decide +kernel : parseMethodDescriptor "()I" = some ⟨[], some .int⟩) rfl) rfl (by show 2 * 0 + _ ≤ _; exact Nat.le_of_eq rfl) rfl (hb hby dc4_0_20))
  refine Go.of st3 ?_
  show Go p e below _ T3 (mkF m 23 #[.val (.ref a), .val (.int u), .val (.int v), .val (.int (mn u v)), .val (.int (mx u v)), .val (.int ((mx u v) - (mn u v)))] [(.int (0 : Int32))])
  refine Go.of (fun _ k => XS.tswIn X3.here hx rfl (pc0 := 23) (pc' := 58) rfl (hb hby dc4_0_23) rfl (by decide) (o := 35) (by decide) (by decide) (by decide) k) ?_
  show Go p e below _ T3 (mkF m 58 #[.val (.ref a), .val (.int u), .val (.int v), .val (.int (mn u v)), .val (.int (mx u v)), .val (.int ((mx u v) - (mn u v)))] [])
  refine Go.of (fun _ k => XS.iload X3.here hx rfl (hb hby dc4_0_58) rfl k) ?_
  show Go p e below _ T3 (mkF m 60 #[.val (.ref a), .val (.int u), .val (.int v), .val (.int (mn u v)), .val (.int (mx u v)), .val (.int ((mx u v) - (mn u v)))] [(.int ((mx u v) - (mn u v)))])
  refine Go.of (fun _ k => XS.iconst X3.here hx rfl (hb hby dc4_0_60) k) ?_
  show Go p e below _ T3 (mkF m 61 #[.val (.ref a), .val (.int u), .val (.int v), .val (.int (mn u v)), .val (.int (mx u v)), .val (.int ((mx u v) - (mn u v)))] [(.int (1 : Int32)), (.int ((mx u v) - (mn u v)))])
  by_cases hc61_4 : (1 : Int32) < ((mx u v) - (mn u v))
  ·
    refine Go.of (fun _ k => XS.icmpYes X3.here hx rfl (pc0 := 61) (pc' := 69) rfl (hb hby dc4_0_61) rfl (XT.ii_gt_t hc61_4) (by decide) (by decide) k) ?_
    show Go p e below _ T3 (mkF m 69 #[.val (.ref a), .val (.int u), .val (.int v), .val (.int (mn u v)), .val (.int (mx u v)), .val (.int ((mx u v) - (mn u v)))] [])
    refine Go.of (fun _ k => XS.iload X3.here hx rfl (hb hby dc4_0_69) rfl k) ?_
    show Go p e below _ T3 (mkF m 71 #[.val (.ref a), .val (.int u), .val (.int v), .val (.int (mn u v)), .val (.int (mx u v)), .val (.int ((mx u v) - (mn u v)))] [(.int (mx u v))])
    refine Go.of (fun _ k => XS.iconst X3.here hx rfl (hb hby dc4_0_71) k) ?_
    show Go p e below _ T3 (mkF m 72 #[.val (.ref a), .val (.int u), .val (.int v), .val (.int (mn u v)), .val (.int (mx u v)), .val (.int ((mx u v) - (mn u v)))] [(.int (1 : Int32)), (.int (mx u v))])
    refine Go.of (fun _ k => XS.isub X3.here hx rfl (hb hby dc4_0_72) rfl k) ?_
    show Go p e below _ T3 (mkF m 73 #[.val (.ref a), .val (.int u), .val (.int v), .val (.int (mn u v)), .val (.int (mx u v)), .val (.int ((mx u v) - (mn u v)))] [(.int ((mx u v) - (1 : Int32)))])
    refine Go.of (fun _ k => XS.goto X3.here hx rfl (pc0 := 73) (pc' := 94) rfl (hb hby dc4_0_73) (by decide) (by decide) k) ?_
    show Go p e below _ T3 (mkF m 94 #[.val (.ref a), .val (.int u), .val (.int v), .val (.int (mn u v)), .val (.int (mx u v)), .val (.int ((mx u v) - (mn u v)))] [(.int ((mx u v) - (1 : Int32)))])
    exact own_retI X3 hx hlk hret (hb hby dc4_0_94) ⟨by rw [lvl0, if_pos hc61_4], rfl, e3⟩ (by decide) (by decide)
  ·
    refine Go.of (fun _ k => XS.icmpNo X3.here hx rfl (hb hby dc4_0_61) rfl (XT.ii_gt_f hc61_4) k) ?_
    show Go p e below _ T3 (mkF m 64 #[.val (.ref a), .val (.int u), .val (.int v), .val (.int (mn u v)), .val (.int (mx u v)), .val (.int ((mx u v) - (mn u v)))] [])
    refine Go.of (fun _ k => XS.iload X3.here hx rfl (hb hby dc4_0_64) rfl k) ?_
    show Go p e below _ T3 (mkF m 66 #[.val (.ref a), .val (.int u), .val (.int v), .val (.int (mn u v)), .val (.int (mx u v)), .val (.int ((mx u v) - (mn u v)))] [(.int (mx u v))])
    refine Go.of (fun _ k => XS.goto X3.here hx rfl (pc0 := 66) (pc' := 94) rfl (hb hby dc4_0_66) (by decide) (by decide) k) ?_
    show Go p e below _ T3 (mkF m 94 #[.val (.ref a), .val (.int u), .val (.int v), .val (.int (mn u v)), .val (.int (mx u v)), .val (.int ((mx u v) - (mn u v)))] [(.int (mx u v))])
    exact own_retI X3 hx hlk hret (hb hby dc4_0_94) ⟨by rw [lvl0, if_neg hc61_4], rfl, e3⟩ (by decide) (by decide)
theorem dc4_1_0 : decode prog_73_method_4_code 0 = .ok (.iload_n 1, 1) := by decide +kernel
theorem dc4_1_1 : decode prog_73_method_4_code 1 = .ok (.iload_n 2, 1) := by decide +kernel
theorem dc4_1_2 : decode prog_73_method_4_code 2 = .ok (.invokestatic 32, 3) := by decide +kernel
theorem dc4_1_5 : decode prog_73_method_4_code 5 = .ok (.istore_n 3, 1) := by decide +kernel
theorem dc4_1_6 : decode prog_73_method_4_code 6 = .ok (.iload_n 1, 1) := by decide +kernel
theorem dc4_1_7 : decode prog_73_method_4_code 7 = .ok (.iload_n 2, 1) := by decide +kernel
theorem dc4_1_8 : decode prog_73_method_4_code 8 = .ok (.invokestatic 38, 3) := by decide +kernel
theorem dc4_1_11 : decode prog_73_method_4_code 11 = .ok (.istore 4, 2) := by decide +kernel
theorem dc4_1_13 : decode prog_73_method_4_code 13 = .ok (.iload 4, 2) := by decide +kernel
theorem dc4_1_15 : decode prog_73_method_4_code 15 = .ok (.iload_n 3, 1) := by decide +kernel
theorem dc4_1_16 : decode prog_73_method_4_code 16 = .ok (.isub, 1) := by decide +kernel
theorem dc4_1_17 : decode prog_73_method_4_code 17 = .ok (.istore 5, 2) := by decide +kernel
theorem dc4_1_19 : decode prog_73_method_4_code 19 = .ok (.aload_n 0, 1) := by decide +kernel
theorem dc4_1_20 : decode prog_73_method_4_code 20 = .ok (.invokevirtual 41, 3) := by decide +kernel
theorem dc4_1_23 : decode prog_73_method_4_code 23 = .ok (.tableswitch 25 0 2 #[35, 53, 57], 25) := by decide +kernel
theorem dc4_1_76 : decode prog_73_method_4_code 76 = .ok (.iload_n 3, 1) := by decide +kernel
theorem dc4_1_77 : decode prog_73_method_4_code 77 = .ok (.goto 17, 3) := by decide +kernel
theorem dc4_1_94 : decode prog_73_method_4_code 94 = .ok (.ireturn, 1) := by decide +kernel
theorem pn_c4_1 : plainFor (⟨"com/example/drawdown/drawdown/core/pricing/SplitRatingRule", "level", "(II)I"⟩ : MethodName) = true := by first | (refine plainFor_of_name ?_; simp [plainName, overriddenIn]; done) | (refine plainFor_of_name ?_; decide +kernel) | decide +kernel
theorem ef_c4_1 (m : MethodId) (a : Addr) (u : Int32) (v : Int32) : entryFrame m #[(.ref a), (.int u), (.int v)] 6 = mkF m 0 #[.val (.ref a), .val (.int u), .val (.int v), .unset, .unset, .unset] [] := by first | (simp [entryFrame, mkF, argsToLocals, Value.category]; done) | rfl
set_option maxRecDepth 65536 in
set_option maxHeartbeats 40000000 in
theorem c4_1 (l : Launch) (Z : State) (a0 : Array Value) (hw : ∀ d ∈ tables_1, d.before a0 Z = true) (h0 : Heap) (a : Addr) (u v : Int32) (Ea : Exa Z h0 a "com/example/drawdown/drawdown/core/pricing/SplitRatingRule") (F : Fld Z h0 a "java/lang/Enum" "ordinal" "I" (.int (1 : Int32))) :
    Ct l Z (⟨"com/example/drawdown/drawdown/core/pricing/SplitRatingRule", "level", "(II)I"⟩ : MethodName) prog_73_method_4_code 6 (some .int) [] ({ frames := 1, cells := 0, slots := 0, locals := 13 } : Room) #[(.ref a), (.int u), (.int v)] h0 (Pu h0 (some (.int (lvl (1 : Int32) u v)))) := by
  refine own_met pn_c4_1 ?_
  intro p e s m below meth c s₁ X0 hx hby hml hret hown hnm hlk hZ e0
  refine Go.cast (ef_c4_1 m a u v) ?_
  show Go p e below _ s₁ (mkF m 0 #[.val (.ref a), .val (.int u), .val (.int v), .unset, .unset, .unset] [])
  refine Go.of (fun _ k => XS.iloadN X0.here hx rfl (hb hby dc4_1_0) rfl k) ?_
  show Go p e below _ s₁ (mkF m 1 #[.val (.ref a), .val (.int u), .val (.int v), .unset, .unset, .unset] [(.int u)])
  refine Go.of (fun _ k => XS.iloadN X0.here hx rfl (hb hby dc4_1_1) rfl k) ?_
  show Go p e below _ s₁ (mkF m 2 #[.val (.ref a), .val (.int u), .val (.int v), .unset, .unset, .unset] [(.int v), (.int u)])
  obtain ⟨T1, X1, e1, st1⟩ := own_pure rfl rfl (own_callSQ X0 hx hZ (y := (⟨"java/lang/Math", "min", "(II)I"⟩ : MethodName)) hown (hw _ (List.mem_of_getElem? (i := 9) rfl)) (hw _ (List.mem_of_getElem? (i := 10) rfl)) (hw _ (List.mem_of_getElem? (i := 11) rfl)) (hw _ (List.mem_of_getElem? (i := 12) rfl)) (by decide) (c1 l Z a0 hw h0 u v) (by decide) 0 (by decide) (by decide) (by decide) e0 (g := (mkF m 2 #[.val (.ref a), .val (.int u), .val (.int v), .unset, .unset, .unset] [(.int v), (.int u)])) rfl (by rw [hml]; rfl) [(.int u), (.int v)] [] (lenOf (by decide +kernel : parseMethodDescriptor "(II)I" = some ⟨[.int, .int], some .int⟩) rfl) rfl (by show 2 * 0 + _ ≤ _; exact Nat.le_of_eq rfl) rfl (hb hby dc4_1_2))
  refine Go.of st1 ?_
  show Go p e below _ T1 (mkF m 5 #[.val (.ref a), .val (.int u), .val (.int v), .unset, .unset, .unset] [(.int (mn u v))])
  refine Go.of (fun _ k => XS.istoreN X1.here hx rfl (hb hby dc4_1_5) rfl (l' := #[.val (.ref a), .val (.int u), .val (.int v), .val (.int (mn u v)), .unset, .unset]) rfl k) ?_
  show Go p e below _ T1 (mkF m 6 #[.val (.ref a), .val (.int u), .val (.int v), .val (.int (mn u v)), .unset, .unset] [])
  refine Go.of (fun _ k => XS.iloadN X1.here hx rfl (hb hby dc4_1_6) rfl k) ?_
  show Go p e below _ T1 (mkF m 7 #[.val (.ref a), .val (.int u), .val (.int v), .val (.int (mn u v)), .unset, .unset] [(.int u)])
  refine Go.of (fun _ k => XS.iloadN X1.here hx rfl (hb hby dc4_1_7) rfl k) ?_
  show Go p e below _ T1 (mkF m 8 #[.val (.ref a), .val (.int u), .val (.int v), .val (.int (mn u v)), .unset, .unset] [(.int v), (.int u)])
  obtain ⟨T2, X2, e2, st2⟩ := own_pure rfl rfl (own_callSQ X1 hx hZ (y := (⟨"java/lang/Math", "max", "(II)I"⟩ : MethodName)) hown (hw _ (List.mem_of_getElem? (i := 13) rfl)) (hw _ (List.mem_of_getElem? (i := 14) rfl)) (hw _ (List.mem_of_getElem? (i := 11) rfl)) (hw _ (List.mem_of_getElem? (i := 15) rfl)) (by decide) (c2 l Z a0 hw h0 u v) (by decide) 0 (by decide) (by decide) (by decide) e1 (g := (mkF m 8 #[.val (.ref a), .val (.int u), .val (.int v), .val (.int (mn u v)), .unset, .unset] [(.int v), (.int u)])) rfl (by rw [hml]; rfl) [(.int u), (.int v)] [] (lenOf (by decide +kernel : parseMethodDescriptor "(II)I" = some ⟨[.int, .int], some .int⟩) rfl) rfl (by show 2 * 0 + _ ≤ _; exact Nat.le_of_eq rfl) rfl (hb hby dc4_1_8))
  refine Go.of st2 ?_
  show Go p e below _ T2 (mkF m 11 #[.val (.ref a), .val (.int u), .val (.int v), .val (.int (mn u v)), .unset, .unset] [(.int (mx u v))])
  refine Go.of (fun _ k => XS.istore X2.here hx rfl (hb hby dc4_1_11) rfl (l' := #[.val (.ref a), .val (.int u), .val (.int v), .val (.int (mn u v)), .val (.int (mx u v)), .unset]) rfl k) ?_
  show Go p e below _ T2 (mkF m 13 #[.val (.ref a), .val (.int u), .val (.int v), .val (.int (mn u v)), .val (.int (mx u v)), .unset] [])
  refine Go.of (fun _ k => XS.iload X2.here hx rfl (hb hby dc4_1_13) rfl k) ?_
  show Go p e below _ T2 (mkF m 15 #[.val (.ref a), .val (.int u), .val (.int v), .val (.int (mn u v)), .val (.int (mx u v)), .unset] [(.int (mx u v))])
  refine Go.of (fun _ k => XS.iloadN X2.here hx rfl (hb hby dc4_1_15) rfl k) ?_
  show Go p e below _ T2 (mkF m 16 #[.val (.ref a), .val (.int u), .val (.int v), .val (.int (mn u v)), .val (.int (mx u v)), .unset] [(.int (mn u v)), (.int (mx u v))])
  refine Go.of (fun _ k => XS.isub X2.here hx rfl (hb hby dc4_1_16) rfl k) ?_
  show Go p e below _ T2 (mkF m 17 #[.val (.ref a), .val (.int u), .val (.int v), .val (.int (mn u v)), .val (.int (mx u v)), .unset] [(.int ((mx u v) - (mn u v)))])
  refine Go.of (fun _ k => XS.istore X2.here hx rfl (hb hby dc4_1_17) rfl (l' := #[.val (.ref a), .val (.int u), .val (.int v), .val (.int (mn u v)), .val (.int (mx u v)), .val (.int ((mx u v) - (mn u v)))]) rfl k) ?_
  show Go p e below _ T2 (mkF m 19 #[.val (.ref a), .val (.int u), .val (.int v), .val (.int (mn u v)), .val (.int (mx u v)), .val (.int ((mx u v) - (mn u v)))] [])
  refine Go.of (fun _ k => XS.aloadN X2.here hx rfl (hb hby dc4_1_19) rfl rfl k) ?_
  show Go p e below _ T2 (mkF m 20 #[.val (.ref a), .val (.int u), .val (.int v), .val (.int (mn u v)), .val (.int (mx u v)), .val (.int ((mx u v) - (mn u v)))] [(.ref a)])
  obtain ⟨T3, X3, e3, st3⟩ := own_pure rfl rfl (own_callUQ X2 hx hZ (y := (⟨"com/example/drawdown/drawdown/core/pricing/SplitRatingRule", "ordinal", "()I"⟩ : MethodName)) hown (hw _ (List.mem_of_getElem? (i := 16) rfl)) (hw _ (List.mem_of_getElem? (i := 17) rfl)) (hw _ (List.mem_of_getElem? (i := 18) rfl)) (by decide) (hw _ (List.mem_of_getElem? (i := 20) rfl)) (hw _ (List.mem_of_getElem? (i := 19) rfl)) (hw _ (List.mem_of_getElem? (i := 22) rfl)) (hw _ (List.mem_of_getElem? (i := 21) rfl)) (c3 l Z a0 hw h0 a (1 : Int32) F) (by decide) 0 (by decide) (by decide) (by decide) e2 Ea (g := (mkF m 20 #[.val (.ref a), .val (.int u), .val (.int v), .val (.int (mn u v)), .val (.int (mx u v)), .val (.int ((mx u v) - (mn u v)))] [(.ref a)])) rfl (by rw [hml]; rfl) [] [] (lenOf (by decide +kernel : parseMethodDescriptor "()I" = some ⟨[], some .int⟩) rfl) rfl (by show 2 * 0 + _ ≤ _; exact Nat.le_of_eq rfl) rfl (hb hby dc4_1_20))
  refine Go.of st3 ?_
  show Go p e below _ T3 (mkF m 23 #[.val (.ref a), .val (.int u), .val (.int v), .val (.int (mn u v)), .val (.int (mx u v)), .val (.int ((mx u v) - (mn u v)))] [(.int (1 : Int32))])
  refine Go.of (fun _ k => XS.tswIn X3.here hx rfl (pc0 := 23) (pc' := 76) rfl (hb hby dc4_1_23) rfl (by decide) (o := 53) (by decide) (by decide) (by decide) k) ?_
  show Go p e below _ T3 (mkF m 76 #[.val (.ref a), .val (.int u), .val (.int v), .val (.int (mn u v)), .val (.int (mx u v)), .val (.int ((mx u v) - (mn u v)))] [])
  refine Go.of (fun _ k => XS.iloadN X3.here hx rfl (hb hby dc4_1_76) rfl k) ?_
  show Go p e below _ T3 (mkF m 77 #[.val (.ref a), .val (.int u), .val (.int v), .val (.int (mn u v)), .val (.int (mx u v)), .val (.int ((mx u v) - (mn u v)))] [(.int (mn u v))])
  refine Go.of (fun _ k => XS.goto X3.here hx rfl (pc0 := 77) (pc' := 94) rfl (hb hby dc4_1_77) (by decide) (by decide) k) ?_
  show Go p e below _ T3 (mkF m 94 #[.val (.ref a), .val (.int u), .val (.int v), .val (.int (mn u v)), .val (.int (mx u v)), .val (.int ((mx u v) - (mn u v)))] [(.int (mn u v))])
  exact own_retI X3 hx hlk hret (hb hby dc4_1_94) ⟨by rw [lvl1], rfl, e3⟩ (by decide) (by decide)
theorem dc4_2_0 : decode prog_73_method_4_code 0 = .ok (.iload_n 1, 1) := by decide +kernel
theorem dc4_2_1 : decode prog_73_method_4_code 1 = .ok (.iload_n 2, 1) := by decide +kernel
theorem dc4_2_2 : decode prog_73_method_4_code 2 = .ok (.invokestatic 32, 3) := by decide +kernel
theorem dc4_2_5 : decode prog_73_method_4_code 5 = .ok (.istore_n 3, 1) := by decide +kernel
theorem dc4_2_6 : decode prog_73_method_4_code 6 = .ok (.iload_n 1, 1) := by decide +kernel
theorem dc4_2_7 : decode prog_73_method_4_code 7 = .ok (.iload_n 2, 1) := by decide +kernel
theorem dc4_2_8 : decode prog_73_method_4_code 8 = .ok (.invokestatic 38, 3) := by decide +kernel
theorem dc4_2_11 : decode prog_73_method_4_code 11 = .ok (.istore 4, 2) := by decide +kernel
theorem dc4_2_13 : decode prog_73_method_4_code 13 = .ok (.iload 4, 2) := by decide +kernel
theorem dc4_2_15 : decode prog_73_method_4_code 15 = .ok (.iload_n 3, 1) := by decide +kernel
theorem dc4_2_16 : decode prog_73_method_4_code 16 = .ok (.isub, 1) := by decide +kernel
theorem dc4_2_17 : decode prog_73_method_4_code 17 = .ok (.istore 5, 2) := by decide +kernel
theorem dc4_2_19 : decode prog_73_method_4_code 19 = .ok (.aload_n 0, 1) := by decide +kernel
theorem dc4_2_20 : decode prog_73_method_4_code 20 = .ok (.invokevirtual 41, 3) := by decide +kernel
theorem dc4_2_23 : decode prog_73_method_4_code 23 = .ok (.tableswitch 25 0 2 #[35, 53, 57], 25) := by decide +kernel
theorem dc4_2_80 : decode prog_73_method_4_code 80 = .ok (.iload 5, 2) := by decide +kernel
theorem dc4_2_82 : decode prog_73_method_4_code 82 = .ok (.ifCond .ne 8, 3) := by decide +kernel
theorem dc4_2_85 : decode prog_73_method_4_code 85 = .ok (.iload 4, 2) := by decide +kernel
theorem dc4_2_87 : decode prog_73_method_4_code 87 = .ok (.goto 7, 3) := by decide +kernel
theorem dc4_2_90 : decode prog_73_method_4_code 90 = .ok (.iload 4, 2) := by decide +kernel
theorem dc4_2_92 : decode prog_73_method_4_code 92 = .ok (.iconst 1, 1) := by decide +kernel
theorem dc4_2_93 : decode prog_73_method_4_code 93 = .ok (.isub, 1) := by decide +kernel
theorem dc4_2_94 : decode prog_73_method_4_code 94 = .ok (.ireturn, 1) := by decide +kernel
theorem pn_c4_2 : plainFor (⟨"com/example/drawdown/drawdown/core/pricing/SplitRatingRule", "level", "(II)I"⟩ : MethodName) = true := by first | (refine plainFor_of_name ?_; simp [plainName, overriddenIn]; done) | (refine plainFor_of_name ?_; decide +kernel) | decide +kernel
theorem ef_c4_2 (m : MethodId) (a : Addr) (u : Int32) (v : Int32) : entryFrame m #[(.ref a), (.int u), (.int v)] 6 = mkF m 0 #[.val (.ref a), .val (.int u), .val (.int v), .unset, .unset, .unset] [] := by first | (simp [entryFrame, mkF, argsToLocals, Value.category]; done) | rfl
set_option maxRecDepth 65536 in
set_option maxHeartbeats 40000000 in
theorem c4_2 (l : Launch) (Z : State) (a0 : Array Value) (hw : ∀ d ∈ tables_1, d.before a0 Z = true) (h0 : Heap) (a : Addr) (u v : Int32) (Ea : Exa Z h0 a "com/example/drawdown/drawdown/core/pricing/SplitRatingRule") (F : Fld Z h0 a "java/lang/Enum" "ordinal" "I" (.int (2 : Int32))) :
    Ct l Z (⟨"com/example/drawdown/drawdown/core/pricing/SplitRatingRule", "level", "(II)I"⟩ : MethodName) prog_73_method_4_code 6 (some .int) [] ({ frames := 1, cells := 0, slots := 0, locals := 13 } : Room) #[(.ref a), (.int u), (.int v)] h0 (Pu h0 (some (.int (lvl (2 : Int32) u v)))) := by
  refine own_met pn_c4_2 ?_
  intro p e s m below meth c s₁ X0 hx hby hml hret hown hnm hlk hZ e0
  refine Go.cast (ef_c4_2 m a u v) ?_
  show Go p e below _ s₁ (mkF m 0 #[.val (.ref a), .val (.int u), .val (.int v), .unset, .unset, .unset] [])
  refine Go.of (fun _ k => XS.iloadN X0.here hx rfl (hb hby dc4_2_0) rfl k) ?_
  show Go p e below _ s₁ (mkF m 1 #[.val (.ref a), .val (.int u), .val (.int v), .unset, .unset, .unset] [(.int u)])
  refine Go.of (fun _ k => XS.iloadN X0.here hx rfl (hb hby dc4_2_1) rfl k) ?_
  show Go p e below _ s₁ (mkF m 2 #[.val (.ref a), .val (.int u), .val (.int v), .unset, .unset, .unset] [(.int v), (.int u)])
  obtain ⟨T1, X1, e1, st1⟩ := own_pure rfl rfl (own_callSQ X0 hx hZ (y := (⟨"java/lang/Math", "min", "(II)I"⟩ : MethodName)) hown (hw _ (List.mem_of_getElem? (i := 9) rfl)) (hw _ (List.mem_of_getElem? (i := 10) rfl)) (hw _ (List.mem_of_getElem? (i := 11) rfl)) (hw _ (List.mem_of_getElem? (i := 12) rfl)) (by decide) (c1 l Z a0 hw h0 u v) (by decide) 0 (by decide) (by decide) (by decide) e0 (g := (mkF m 2 #[.val (.ref a), .val (.int u), .val (.int v), .unset, .unset, .unset] [(.int v), (.int u)])) rfl (by rw [hml]; rfl) [(.int u), (.int v)] [] (lenOf (by decide +kernel : parseMethodDescriptor "(II)I" = some ⟨[.int, .int], some .int⟩) rfl) rfl (by show 2 * 0 + _ ≤ _; exact Nat.le_of_eq rfl) rfl (hb hby dc4_2_2))
  refine Go.of st1 ?_
  show Go p e below _ T1 (mkF m 5 #[.val (.ref a), .val (.int u), .val (.int v), .unset, .unset, .unset] [(.int (mn u v))])
  refine Go.of (fun _ k => XS.istoreN X1.here hx rfl (hb hby dc4_2_5) rfl (l' := #[.val (.ref a), .val (.int u), .val (.int v), .val (.int (mn u v)), .unset, .unset]) rfl k) ?_
  show Go p e below _ T1 (mkF m 6 #[.val (.ref a), .val (.int u), .val (.int v), .val (.int (mn u v)), .unset, .unset] [])
  refine Go.of (fun _ k => XS.iloadN X1.here hx rfl (hb hby dc4_2_6) rfl k) ?_
  show Go p e below _ T1 (mkF m 7 #[.val (.ref a), .val (.int u), .val (.int v), .val (.int (mn u v)), .unset, .unset] [(.int u)])
  refine Go.of (fun _ k => XS.iloadN X1.here hx rfl (hb hby dc4_2_7) rfl k) ?_
  show Go p e below _ T1 (mkF m 8 #[.val (.ref a), .val (.int u), .val (.int v), .val (.int (mn u v)), .unset, .unset] [(.int v), (.int u)])
  obtain ⟨T2, X2, e2, st2⟩ := own_pure rfl rfl (own_callSQ X1 hx hZ (y := (⟨"java/lang/Math", "max", "(II)I"⟩ : MethodName)) hown (hw _ (List.mem_of_getElem? (i := 13) rfl)) (hw _ (List.mem_of_getElem? (i := 14) rfl)) (hw _ (List.mem_of_getElem? (i := 11) rfl)) (hw _ (List.mem_of_getElem? (i := 15) rfl)) (by decide) (c2 l Z a0 hw h0 u v) (by decide) 0 (by decide) (by decide) (by decide) e1 (g := (mkF m 8 #[.val (.ref a), .val (.int u), .val (.int v), .val (.int (mn u v)), .unset, .unset] [(.int v), (.int u)])) rfl (by rw [hml]; rfl) [(.int u), (.int v)] [] (lenOf (by decide +kernel : parseMethodDescriptor "(II)I" = some ⟨[.int, .int], some .int⟩) rfl) rfl (by show 2 * 0 + _ ≤ _; exact Nat.le_of_eq rfl) rfl (hb hby dc4_2_8))
  refine Go.of st2 ?_
  show Go p e below _ T2 (mkF m 11 #[.val (.ref a), .val (.int u), .val (.int v), .val (.int (mn u v)), .unset, .unset] [(.int (mx u v))])
  refine Go.of (fun _ k => XS.istore X2.here hx rfl (hb hby dc4_2_11) rfl (l' := #[.val (.ref a), .val (.int u), .val (.int v), .val (.int (mn u v)), .val (.int (mx u v)), .unset]) rfl k) ?_
  show Go p e below _ T2 (mkF m 13 #[.val (.ref a), .val (.int u), .val (.int v), .val (.int (mn u v)), .val (.int (mx u v)), .unset] [])
  refine Go.of (fun _ k => XS.iload X2.here hx rfl (hb hby dc4_2_13) rfl k) ?_
  show Go p e below _ T2 (mkF m 15 #[.val (.ref a), .val (.int u), .val (.int v), .val (.int (mn u v)), .val (.int (mx u v)), .unset] [(.int (mx u v))])
  refine Go.of (fun _ k => XS.iloadN X2.here hx rfl (hb hby dc4_2_15) rfl k) ?_
  show Go p e below _ T2 (mkF m 16 #[.val (.ref a), .val (.int u), .val (.int v), .val (.int (mn u v)), .val (.int (mx u v)), .unset] [(.int (mn u v)), (.int (mx u v))])
  refine Go.of (fun _ k => XS.isub X2.here hx rfl (hb hby dc4_2_16) rfl k) ?_
  show Go p e below _ T2 (mkF m 17 #[.val (.ref a), .val (.int u), .val (.int v), .val (.int (mn u v)), .val (.int (mx u v)), .unset] [(.int ((mx u v) - (mn u v)))])
  refine Go.of (fun _ k => XS.istore X2.here hx rfl (hb hby dc4_2_17) rfl (l' := #[.val (.ref a), .val (.int u), .val (.int v), .val (.int (mn u v)), .val (.int (mx u v)), .val (.int ((mx u v) - (mn u v)))]) rfl k) ?_
  show Go p e below _ T2 (mkF m 19 #[.val (.ref a), .val (.int u), .val (.int v), .val (.int (mn u v)), .val (.int (mx u v)), .val (.int ((mx u v) - (mn u v)))] [])
  refine Go.of (fun _ k => XS.aloadN X2.here hx rfl (hb hby dc4_2_19) rfl rfl k) ?_
  show Go p e below _ T2 (mkF m 20 #[.val (.ref a), .val (.int u), .val (.int v), .val (.int (mn u v)), .val (.int (mx u v)), .val (.int ((mx u v) - (mn u v)))] [(.ref a)])
  obtain ⟨T3, X3, e3, st3⟩ := own_pure rfl rfl (own_callUQ X2 hx hZ (y := (⟨"com/example/drawdown/drawdown/core/pricing/SplitRatingRule", "ordinal", "()I"⟩ : MethodName)) hown (hw _ (List.mem_of_getElem? (i := 16) rfl)) (hw _ (List.mem_of_getElem? (i := 17) rfl)) (hw _ (List.mem_of_getElem? (i := 18) rfl)) (by decide) (hw _ (List.mem_of_getElem? (i := 20) rfl)) (hw _ (List.mem_of_getElem? (i := 19) rfl)) (hw _ (List.mem_of_getElem? (i := 22) rfl)) (hw _ (List.mem_of_getElem? (i := 21) rfl)) (c3 l Z a0 hw h0 a (2 : Int32) F) (by decide) 0 (by decide) (by decide) (by decide) e2 Ea (g := (mkF m 20 #[.val (.ref a), .val (.int u), .val (.int v), .val (.int (mn u v)), .val (.int (mx u v)), .val (.int ((mx u v) - (mn u v)))] [(.ref a)])) rfl (by rw [hml]; rfl) [] [] (lenOf (by decide +kernel : parseMethodDescriptor "()I" = some ⟨[], some .int⟩) rfl) rfl (by show 2 * 0 + _ ≤ _; exact Nat.le_of_eq rfl) rfl (hb hby dc4_2_20))
  refine Go.of st3 ?_
  show Go p e below _ T3 (mkF m 23 #[.val (.ref a), .val (.int u), .val (.int v), .val (.int (mn u v)), .val (.int (mx u v)), .val (.int ((mx u v) - (mn u v)))] [(.int (2 : Int32))])
  refine Go.of (fun _ k => XS.tswIn X3.here hx rfl (pc0 := 23) (pc' := 80) rfl (hb hby dc4_2_23) rfl (by decide) (o := 57) (by decide) (by decide) (by decide) k) ?_
  show Go p e below _ T3 (mkF m 80 #[.val (.ref a), .val (.int u), .val (.int v), .val (.int (mn u v)), .val (.int (mx u v)), .val (.int ((mx u v) - (mn u v)))] [])
  refine Go.of (fun _ k => XS.iload X3.here hx rfl (hb hby dc4_2_80) rfl k) ?_
  show Go p e below _ T3 (mkF m 82 #[.val (.ref a), .val (.int u), .val (.int v), .val (.int (mn u v)), .val (.int (mx u v)), .val (.int ((mx u v) - (mn u v)))] [(.int ((mx u v) - (mn u v)))])
  by_cases hc82_4 : ((mx u v) - (mn u v)) = (0 : Int32)
  ·
    refine Go.of (fun _ k => XS.ifNo X3.here hx rfl (hb hby dc4_2_82) rfl (XT.i0_ne_f hc82_4) k) ?_
    show Go p e below _ T3 (mkF m 85 #[.val (.ref a), .val (.int u), .val (.int v), .val (.int (mn u v)), .val (.int (mx u v)), .val (.int ((mx u v) - (mn u v)))] [])
    refine Go.of (fun _ k => XS.iload X3.here hx rfl (hb hby dc4_2_85) rfl k) ?_
    show Go p e below _ T3 (mkF m 87 #[.val (.ref a), .val (.int u), .val (.int v), .val (.int (mn u v)), .val (.int (mx u v)), .val (.int ((mx u v) - (mn u v)))] [(.int (mx u v))])
    refine Go.of (fun _ k => XS.goto X3.here hx rfl (pc0 := 87) (pc' := 94) rfl (hb hby dc4_2_87) (by decide) (by decide) k) ?_
    show Go p e below _ T3 (mkF m 94 #[.val (.ref a), .val (.int u), .val (.int v), .val (.int (mn u v)), .val (.int (mx u v)), .val (.int ((mx u v) - (mn u v)))] [(.int (mx u v))])
    exact own_retI X3 hx hlk hret (hb hby dc4_2_94) ⟨by rw [lvl2, if_pos hc82_4], rfl, e3⟩ (by decide) (by decide)
  ·
    refine Go.of (fun _ k => XS.ifYes X3.here hx rfl (pc0 := 82) (pc' := 90) rfl (hb hby dc4_2_82) rfl (XT.i0_ne_t hc82_4) (by decide) (by decide) k) ?_
    show Go p e below _ T3 (mkF m 90 #[.val (.ref a), .val (.int u), .val (.int v), .val (.int (mn u v)), .val (.int (mx u v)), .val (.int ((mx u v) - (mn u v)))] [])
    refine Go.of (fun _ k => XS.iload X3.here hx rfl (hb hby dc4_2_90) rfl k) ?_
    show Go p e below _ T3 (mkF m 92 #[.val (.ref a), .val (.int u), .val (.int v), .val (.int (mn u v)), .val (.int (mx u v)), .val (.int ((mx u v) - (mn u v)))] [(.int (mx u v))])
    refine Go.of (fun _ k => XS.iconst X3.here hx rfl (hb hby dc4_2_92) k) ?_
    show Go p e below _ T3 (mkF m 93 #[.val (.ref a), .val (.int u), .val (.int v), .val (.int (mn u v)), .val (.int (mx u v)), .val (.int ((mx u v) - (mn u v)))] [(.int (1 : Int32)), (.int (mx u v))])
    refine Go.of (fun _ k => XS.isub X3.here hx rfl (hb hby dc4_2_93) rfl k) ?_
    show Go p e below _ T3 (mkF m 94 #[.val (.ref a), .val (.int u), .val (.int v), .val (.int (mn u v)), .val (.int (mx u v)), .val (.int ((mx u v) - (mn u v)))] [(.int ((mx u v) - (1 : Int32)))])
    exact own_retI X3 hx hlk hret (hb hby dc4_2_94) ⟨by rw [lvl2, if_neg hc82_4], rfl, e3⟩ (by decide) (by decide)
theorem pn_law : plainFor x = true := by first | (refine plainFor_of_name ?_; simp [plainName, overriddenIn, x]; done) | (refine plainFor_of_name ?_; decide +kernel) | decide +kernel
theorem ef_law (m : MethodId) (x0 : Int32) (x1 : Int32) (x2 : Int32) (x3 : Int32) : entryFrame m #[(.int x0), (.int x1), (.int x2), (.int x3)] maxLocals = mkF m 0 #[.val (.int x0), .val (.int x1), .val (.int x2), .val (.int x3), .unset, .unset, .unset, .unset, .unset, .unset, .unset, .unset] [] := by first | (simp [entryFrame, mkF, argsToLocals, Value.category, maxLocals]; done) | rfl
set_option maxRecDepth 65536 in
set_option maxHeartbeats 40000000 in
theorem rm0 (l : Launch) (Z : State) (a0 : Array Value) (hw : ∀ d ∈ tables_1, d.before a0 Z = true) (ws : List Jvm.Cond) (w : Nat → Addr) (h0 : Heap) (n0 : Nat) (D : Wd Z h0 w) (x0 x1 x2 x3 : Int32) :
    Ct l Z x code maxLocals ret ws room_1 #[(.int x0), (.int x1), (.int x2), (.int x3)] h0 (fun v h L => v = some (.int 1) ∧ Fr n0 L) := by
  refine own_met pn_law ?_
  intro p e s m below meth c s₁ X0 hx hby hml0 hret hown hnm hlk hZ e0
  have hml : c.maxLocals = 12 := hml0
  have N0 := Fr.nil n0
  have D' := D
  obtain ⟨S0, S1, S2, Ex, Fo⟩ := D'
  refine Go.cast (ef_law m x0 x1 x2 x3) ?_
  show Go p e below _ s₁ (mkF m 0 #[.val (.int x0), .val (.int x1), .val (.int x2), .val (.int x3), .unset, .unset, .unset, .unset, .unset, .unset, .unset, .unset] [])
  refine Go.of (fun _ k => XS.iloadN X0.here hx rfl (hb hby at_0) rfl k) ?_
  show Go p e below _ s₁ (mkF m 1 #[.val (.int x0), .val (.int x1), .val (.int x2), .val (.int x3), .unset, .unset, .unset, .unset, .unset, .unset, .unset, .unset] [(.int x0)])
  refine Go.of (fun _ k => X0.ldcI hx hown (mvT hZ (hw _ (List.mem_of_getElem? (i := 0) rfl))) rfl (hb hby at_1) k) ?_
  show Go p e below _ s₁ (mkF m 3 #[.val (.int x0), .val (.int x1), .val (.int x2), .val (.int x3), .unset, .unset, .unset, .unset, .unset, .unset, .unset, .unset] [(.int (2147483647 : Int32)), (.int x0)])
  refine Go.of (fun _ k => XS.iand X0.here hx rfl (hb hby at_3) rfl k) ?_
  show Go p e below _ s₁ (mkF m 4 #[.val (.int x0), .val (.int x1), .val (.int x2), .val (.int x3), .unset, .unset, .unset, .unset, .unset, .unset, .unset, .unset] [(.int (x0 &&& (2147483647 : Int32)))])
  generalize ha : (x0 &&& (2147483647 : Int32)) = a
  show Go p e below _ s₁ (mkF m 4 #[.val (.int x0), .val (.int x1), .val (.int x2), .val (.int x3), .unset, .unset, .unset, .unset, .unset, .unset, .unset, .unset] [(.int a)])
  have Ra : 0 ≤ a.toInt := by rw [← ha]; exact (c_and x0 2147483647 (by decide)).1
  refine Go.of (fun _ k => XS.istore X0.here hx rfl (hb hby at_4) rfl (l' := #[.val (.int x0), .val (.int x1), .val (.int x2), .val (.int x3), .val (.int a), .unset, .unset, .unset, .unset, .unset, .unset, .unset]) rfl k) ?_
  show Go p e below _ s₁ (mkF m 6 #[.val (.int x0), .val (.int x1), .val (.int x2), .val (.int x3), .val (.int a), .unset, .unset, .unset, .unset, .unset, .unset, .unset] [])
  have J : ∀ fr b : Int32, 0 ≤ b.toInt → Go p e below (Fine s below room_1 (fun v h L => v = some (.int 1) ∧ Fr n0 L)) s₁ (mkF m 39 #[.val (.int x0), .val (.int x1), .val (.int x2), .val (.int x3), .val (.int a), .val (.int fr), .val (.int b), .unset, .unset, .unset, .unset, .unset] []) := by
    intro fr b Rb
    refine Go.of (fun _ k => XS.iloadN X0.here hx rfl (hb hby at_39) rfl k) ?_
    show Go p e below _ s₁ (mkF m 40 #[.val (.int x0), .val (.int x1), .val (.int x2), .val (.int x3), .val (.int a), .val (.int fr), .val (.int b), .unset, .unset, .unset, .unset, .unset] [(.int x3)])
    refine Go.of (fun _ k => X0.ldcI hx hown (mvT hZ (hw _ (List.mem_of_getElem? (i := 0) rfl))) rfl (hb hby at_40) k) ?_
    show Go p e below _ s₁ (mkF m 42 #[.val (.int x0), .val (.int x1), .val (.int x2), .val (.int x3), .val (.int a), .val (.int fr), .val (.int b), .unset, .unset, .unset, .unset, .unset] [(.int (2147483647 : Int32)), (.int x3)])
    refine Go.of (fun _ k => XS.iand X0.here hx rfl (hb hby at_42) rfl k) ?_
    show Go p e below _ s₁ (mkF m 43 #[.val (.int x0), .val (.int x1), .val (.int x2), .val (.int x3), .val (.int a), .val (.int fr), .val (.int b), .unset, .unset, .unset, .unset, .unset] [(.int (x3 &&& (2147483647 : Int32)))])
    refine Go.of (fun _ k => XS.iconst X0.here hx rfl (hb hby at_43) k) ?_
    show Go p e below _ s₁ (mkF m 44 #[.val (.int x0), .val (.int x1), .val (.int x2), .val (.int x3), .val (.int a), .val (.int fr), .val (.int b), .unset, .unset, .unset, .unset, .unset] [(.int (3 : Int32)), (.int (x3 &&& (2147483647 : Int32)))])
    refine Go.of (fun _ k => iremM X0 hx rfl (hb hby at_44) rfl (by decide) k) ?_
    show Go p e below _ s₁ (mkF m 45 #[.val (.int x0), .val (.int x1), .val (.int x2), .val (.int x3), .val (.int a), .val (.int fr), .val (.int b), .unset, .unset, .unset, .unset, .unset] [(.int ((x3 &&& (2147483647 : Int32)) % (3 : Int32)))])
    refine Go.of (fun _ k => XS.istore X0.here hx rfl (hb hby at_45) rfl (l' := #[.val (.int x0), .val (.int x1), .val (.int x2), .val (.int x3), .val (.int a), .val (.int fr), .val (.int b), .val (.int ((x3 &&& (2147483647 : Int32)) % (3 : Int32))), .unset, .unset, .unset, .unset]) rfl k) ?_
    show Go p e below _ s₁ (mkF m 47 #[.val (.int x0), .val (.int x1), .val (.int x2), .val (.int x3), .val (.int a), .val (.int fr), .val (.int b), .val (.int ((x3 &&& (2147483647 : Int32)) % (3 : Int32))), .unset, .unset, .unset, .unset] [])
    generalize hsl : ((x3 &&& (2147483647 : Int32)) % (3 : Int32)) = sl
    show Go p e below _ s₁ (mkF m 47 #[.val (.int x0), .val (.int x1), .val (.int x2), .val (.int x3), .val (.int a), .val (.int fr), .val (.int b), .val (.int sl), .unset, .unset, .unset, .unset] [])
    rcases (own_c3 (hsl ▸ own_rem x3 3 (by decide))) with rfl | rfl | rfl
    ·
      show Go p e below _ s₁ (mkF m 47 #[.val (.int x0), .val (.int x1), .val (.int x2), .val (.int x3), .val (.int a), .val (.int fr), .val (.int b), .val (.int (0 : Int32)), .unset, .unset, .unset, .unset] [])
      refine Go.of (fun _ k => XS.iload X0.here hx rfl (hb hby at_47) rfl k) ?_
      show Go p e below _ s₁ (mkF m 49 #[.val (.int x0), .val (.int x1), .val (.int x2), .val (.int x3), .val (.int a), .val (.int fr), .val (.int b), .val (.int (0 : Int32)), .unset, .unset, .unset, .unset] [(.int (0 : Int32))])
      refine Go.of (fun _ k => XS.ifNo X0.here hx rfl (hb hby at_49) rfl (XT.i0_ne_f (by decide)) k) ?_
      show Go p e below _ s₁ (mkF m 52 #[.val (.int x0), .val (.int x1), .val (.int x2), .val (.int x3), .val (.int a), .val (.int fr), .val (.int b), .val (.int (0 : Int32)), .unset, .unset, .unset, .unset] [])
      obtain ⟨T1, X1, e1, st1⟩ := getS2 X0 hx hZ hown (host := "") (Or.inl (hw _ (List.mem_of_getElem? (i := 27) rfl))) Via.refl e0 S0 (g := (mkF m 52 #[.val (.int x0), .val (.int x1), .val (.int x2), .val (.int x3), .val (.int a), .val (.int fr), .val (.int b), .val (.int (0 : Int32)), .unset, .unset, .unset, .unset] [])) rfl (hb hby at_52)
      refine Go.of st1 ?_
      show Go p e below _ T1 (mkF m 55 #[.val (.int x0), .val (.int x1), .val (.int x2), .val (.int x3), .val (.int a), .val (.int fr), .val (.int b), .val (.int (0 : Int32)), .unset, .unset, .unset, .unset] [(.ref (w 0))])
      refine Go.of (fun _ k => XS.astore X1.here hx rfl (hb hby at_55) rfl rfl (l' := #[.val (.int x0), .val (.int x1), .val (.int x2), .val (.int x3), .val (.int a), .val (.int fr), .val (.int b), .val (.int (0 : Int32)), .val (.ref (w 0)), .unset, .unset, .unset]) rfl k) ?_
      show Go p e below _ T1 (mkF m 57 #[.val (.int x0), .val (.int x1), .val (.int x2), .val (.int x3), .val (.int a), .val (.int fr), .val (.int b), .val (.int (0 : Int32)), .val (.ref (w 0)), .unset, .unset, .unset] [])
      refine Go.of (fun _ k => XS.goto X1.here hx rfl (pc0 := 57) (pc' := 79) rfl (hb hby at_57) (by decide) (by decide) k) ?_
      show Go p e below _ T1 (mkF m 79 #[.val (.int x0), .val (.int x1), .val (.int x2), .val (.int x3), .val (.int a), .val (.int fr), .val (.int b), .val (.int (0 : Int32)), .val (.ref (w 0)), .unset, .unset, .unset] [])
      refine Go.of (fun _ k => XS.iload X1.here hx rfl (hb hby at_79) rfl k) ?_
      show Go p e below _ T1 (mkF m 81 #[.val (.int x0), .val (.int x1), .val (.int x2), .val (.int x3), .val (.int a), .val (.int fr), .val (.int b), .val (.int (0 : Int32)), .val (.ref (w 0)), .unset, .unset, .unset] [(.int a)])
      refine Go.of (fun _ k => XS.iload X1.here hx rfl (hb hby at_81) rfl k) ?_
      show Go p e below _ T1 (mkF m 83 #[.val (.int x0), .val (.int x1), .val (.int x2), .val (.int x3), .val (.int a), .val (.int fr), .val (.int b), .val (.int (0 : Int32)), .val (.ref (w 0)), .unset, .unset, .unset] [(.int b), (.int a)])
      by_cases hc83_2 : a = b
      ·
        refine Go.of (fun _ k => XS.icmpNo X1.here hx rfl (hb hby at_83) rfl (XT.ii_ne_f hc83_2) k) ?_
        show Go p e below _ T1 (mkF m 86 #[.val (.int x0), .val (.int x1), .val (.int x2), .val (.int x3), .val (.int a), .val (.int fr), .val (.int b), .val (.int (0 : Int32)), .val (.ref (w 0)), .unset, .unset, .unset] [])
        refine Go.of (fun _ k => XS.iload X1.here hx rfl (hb hby at_86) rfl k) ?_
        show Go p e below _ T1 (mkF m 88 #[.val (.int x0), .val (.int x1), .val (.int x2), .val (.int x3), .val (.int a), .val (.int fr), .val (.int b), .val (.int (0 : Int32)), .val (.ref (w 0)), .unset, .unset, .unset] [(.int a)])
        refine Go.of (fun _ k => XS.istore X1.here hx rfl (hb hby at_88) rfl (l' := #[.val (.int x0), .val (.int x1), .val (.int x2), .val (.int x3), .val (.int a), .val (.int fr), .val (.int b), .val (.int (0 : Int32)), .val (.ref (w 0)), .val (.int a), .unset, .unset]) rfl k) ?_
        show Go p e below _ T1 (mkF m 90 #[.val (.int x0), .val (.int x1), .val (.int x2), .val (.int x3), .val (.int a), .val (.int fr), .val (.int b), .val (.int (0 : Int32)), .val (.ref (w 0)), .val (.int a), .unset, .unset] [])
        refine Go.of (fun _ k => XS.goto X1.here hx rfl (pc0 := 90) (pc' := 173) rfl (hb hby at_90) (by decide) (by decide) k) ?_
        show Go p e below _ T1 (mkF m 173 #[.val (.int x0), .val (.int x1), .val (.int x2), .val (.int x3), .val (.int a), .val (.int fr), .val (.int b), .val (.int (0 : Int32)), .val (.ref (w 0)), .val (.int a), .unset, .unset] [])
        refine Go.of (fun _ k => XS.aload X1.here hx rfl (hb hby at_173) rfl rfl k) ?_
        show Go p e below _ T1 (mkF m 175 #[.val (.int x0), .val (.int x1), .val (.int x2), .val (.int x3), .val (.int a), .val (.int fr), .val (.int b), .val (.int (0 : Int32)), .val (.ref (w 0)), .val (.int a), .unset, .unset] [(.ref (w 0))])
        refine Go.of (fun _ k => XS.iload X1.here hx rfl (hb hby at_175) rfl k) ?_
        show Go p e below _ T1 (mkF m 177 #[.val (.int x0), .val (.int x1), .val (.int x2), .val (.int x3), .val (.int a), .val (.int fr), .val (.int b), .val (.int (0 : Int32)), .val (.ref (w 0)), .val (.int a), .unset, .unset] [(.int a), (.ref (w 0))])
        refine Go.of (fun _ k => XS.iload X1.here hx rfl (hb hby at_177) rfl k) ?_
        show Go p e below _ T1 (mkF m 179 #[.val (.int x0), .val (.int x1), .val (.int x2), .val (.int x3), .val (.int a), .val (.int fr), .val (.int b), .val (.int (0 : Int32)), .val (.ref (w 0)), .val (.int a), .unset, .unset] [(.int b), (.int a), (.ref (w 0))])
        obtain ⟨T3, X3, e3, st3⟩ := own_pure rfl rfl (own_callVQ X1 hx hZ (y := (⟨"com/example/drawdown/drawdown/core/pricing/SplitRatingRule", "level", "(II)I"⟩ : MethodName)) hown (hw _ (List.mem_of_getElem? (i := 4) rfl)) (hw _ (List.mem_of_getElem? (i := 5) rfl)) (hw _ (List.mem_of_getElem? (i := 7) rfl)) (hw _ (List.mem_of_getElem? (i := 7) rfl)) (hw _ (List.mem_of_getElem? (i := 6) rfl)) (hw _ (List.mem_of_getElem? (i := 8) rfl)) (hw _ (List.mem_of_getElem? (i := 2) rfl)) (by decide) (c4_0 l Z a0 hw h0 (w 0) a b (Ex 0 (by decide)) (Fo 0 (by decide))) (by decide) 0 (by decide) (by decide) (by decide) e1 (Ex 0 (by decide)) (g := (mkF m 179 #[.val (.int x0), .val (.int x1), .val (.int x2), .val (.int x3), .val (.int a), .val (.int fr), .val (.int b), .val (.int (0 : Int32)), .val (.ref (w 0)), .val (.int a), .unset, .unset] [(.int b), (.int a), (.ref (w 0))])) rfl (by rw [hml]; rfl) [(.int a), (.int b)] [] (lenOf (by decide +kernel : parseMethodDescriptor "(II)I" = some ⟨[.int, .int], some .int⟩) rfl) rfl (by show 2 * 0 + _ ≤ _; exact Nat.le_of_eq rfl) rfl (hb hby at_179))
        refine Go.of st3 ?_
        show Go p e below _ T3 (mkF m 182 #[.val (.int x0), .val (.int x1), .val (.int x2), .val (.int x3), .val (.int a), .val (.int fr), .val (.int b), .val (.int (0 : Int32)), .val (.ref (w 0)), .val (.int a), .unset, .unset] [(.int (lvl (0 : Int32) a b))])
        refine Go.of (fun _ k => XS.istore X3.here hx rfl (hb hby at_182) rfl (l' := #[.val (.int x0), .val (.int x1), .val (.int x2), .val (.int x3), .val (.int a), .val (.int fr), .val (.int b), .val (.int (0 : Int32)), .val (.ref (w 0)), .val (.int a), .val (.int (lvl (0 : Int32) a b)), .unset]) rfl k) ?_
        show Go p e below _ T3 (mkF m 184 #[.val (.int x0), .val (.int x1), .val (.int x2), .val (.int x3), .val (.int a), .val (.int fr), .val (.int b), .val (.int (0 : Int32)), .val (.ref (w 0)), .val (.int a), .val (.int (lvl (0 : Int32) a b)), .unset] [])
        refine Go.of (fun _ k => XS.aload X3.here hx rfl (hb hby at_184) rfl rfl k) ?_
        show Go p e below _ T3 (mkF m 186 #[.val (.int x0), .val (.int x1), .val (.int x2), .val (.int x3), .val (.int a), .val (.int fr), .val (.int b), .val (.int (0 : Int32)), .val (.ref (w 0)), .val (.int a), .val (.int (lvl (0 : Int32) a b)), .unset] [(.ref (w 0))])
        refine Go.of (fun _ k => XS.iload X3.here hx rfl (hb hby at_186) rfl k) ?_
        show Go p e below _ T3 (mkF m 188 #[.val (.int x0), .val (.int x1), .val (.int x2), .val (.int x3), .val (.int a), .val (.int fr), .val (.int b), .val (.int (0 : Int32)), .val (.ref (w 0)), .val (.int a), .val (.int (lvl (0 : Int32) a b)), .unset] [(.int b), (.ref (w 0))])
        refine Go.of (fun _ k => XS.iload X3.here hx rfl (hb hby at_188) rfl k) ?_
        show Go p e below _ T3 (mkF m 190 #[.val (.int x0), .val (.int x1), .val (.int x2), .val (.int x3), .val (.int a), .val (.int fr), .val (.int b), .val (.int (0 : Int32)), .val (.ref (w 0)), .val (.int a), .val (.int (lvl (0 : Int32) a b)), .unset] [(.int a), (.int b), (.ref (w 0))])
        obtain ⟨T4, X4, e4, st4⟩ := own_pure rfl rfl (own_callVQ X3 hx hZ (y := (⟨"com/example/drawdown/drawdown/core/pricing/SplitRatingRule", "level", "(II)I"⟩ : MethodName)) hown (hw _ (List.mem_of_getElem? (i := 4) rfl)) (hw _ (List.mem_of_getElem? (i := 5) rfl)) (hw _ (List.mem_of_getElem? (i := 7) rfl)) (hw _ (List.mem_of_getElem? (i := 7) rfl)) (hw _ (List.mem_of_getElem? (i := 6) rfl)) (hw _ (List.mem_of_getElem? (i := 8) rfl)) (hw _ (List.mem_of_getElem? (i := 2) rfl)) (by decide) (c4_0 l Z a0 hw h0 (w 0) b a (Ex 0 (by decide)) (Fo 0 (by decide))) (by decide) 0 (by decide) (by decide) (by decide) e3 (Ex 0 (by decide)) (g := (mkF m 190 #[.val (.int x0), .val (.int x1), .val (.int x2), .val (.int x3), .val (.int a), .val (.int fr), .val (.int b), .val (.int (0 : Int32)), .val (.ref (w 0)), .val (.int a), .val (.int (lvl (0 : Int32) a b)), .unset] [(.int a), (.int b), (.ref (w 0))])) rfl (by rw [hml]; rfl) [(.int b), (.int a)] [] (lenOf (by decide +kernel : parseMethodDescriptor "(II)I" = some ⟨[.int, .int], some .int⟩) rfl) rfl (by show 2 * 0 + _ ≤ _; exact Nat.le_of_eq rfl) rfl (hb hby at_190))
        refine Go.of st4 ?_
        show Go p e below _ T4 (mkF m 193 #[.val (.int x0), .val (.int x1), .val (.int x2), .val (.int x3), .val (.int a), .val (.int fr), .val (.int b), .val (.int (0 : Int32)), .val (.ref (w 0)), .val (.int a), .val (.int (lvl (0 : Int32) a b)), .unset] [(.int (lvl (0 : Int32) b a))])
        refine Go.of (fun _ k => XS.istore X4.here hx rfl (hb hby at_193) rfl (l' := #[.val (.int x0), .val (.int x1), .val (.int x2), .val (.int x3), .val (.int a), .val (.int fr), .val (.int b), .val (.int (0 : Int32)), .val (.ref (w 0)), .val (.int a), .val (.int (lvl (0 : Int32) a b)), .val (.int (lvl (0 : Int32) b a))]) rfl k) ?_
        show Go p e below _ T4 (mkF m 195 #[.val (.int x0), .val (.int x1), .val (.int x2), .val (.int x3), .val (.int a), .val (.int fr), .val (.int b), .val (.int (0 : Int32)), .val (.ref (w 0)), .val (.int a), .val (.int (lvl (0 : Int32) a b)), .val (.int (lvl (0 : Int32) b a))] [])
        refine Go.of (fun _ k => XS.iload X4.here hx rfl (hb hby at_195) rfl k) ?_
        show Go p e below _ T4 (mkF m 197 #[.val (.int x0), .val (.int x1), .val (.int x2), .val (.int x3), .val (.int a), .val (.int fr), .val (.int b), .val (.int (0 : Int32)), .val (.ref (w 0)), .val (.int a), .val (.int (lvl (0 : Int32) a b)), .val (.int (lvl (0 : Int32) b a))] [(.int (lvl (0 : Int32) a b))])
        refine Go.of (fun _ k => XS.iload X4.here hx rfl (hb hby at_197) rfl k) ?_
        show Go p e below _ T4 (mkF m 199 #[.val (.int x0), .val (.int x1), .val (.int x2), .val (.int x3), .val (.int a), .val (.int fr), .val (.int b), .val (.int (0 : Int32)), .val (.ref (w 0)), .val (.int a), .val (.int (lvl (0 : Int32) a b)), .val (.int (lvl (0 : Int32) b a))] [(.int a), (.int (lvl (0 : Int32) a b))])
        have hc199_5 : (lvl (0 : Int32) a b) = a := (by rw [← hc83_2]; exact (lvl_eq a).1)
        refine Go.of (fun _ k => XS.icmpNo X4.here hx rfl (hb hby at_199) rfl (XT.ii_ne_f hc199_5) k) ?_
        show Go p e below _ T4 (mkF m 202 #[.val (.int x0), .val (.int x1), .val (.int x2), .val (.int x3), .val (.int a), .val (.int fr), .val (.int b), .val (.int (0 : Int32)), .val (.ref (w 0)), .val (.int a), .val (.int (lvl (0 : Int32) a b)), .val (.int (lvl (0 : Int32) b a))] [])
        refine Go.of (fun _ k => XS.iload X4.here hx rfl (hb hby at_202) rfl k) ?_
        show Go p e below _ T4 (mkF m 204 #[.val (.int x0), .val (.int x1), .val (.int x2), .val (.int x3), .val (.int a), .val (.int fr), .val (.int b), .val (.int (0 : Int32)), .val (.ref (w 0)), .val (.int a), .val (.int (lvl (0 : Int32) a b)), .val (.int (lvl (0 : Int32) b a))] [(.int (lvl (0 : Int32) b a))])
        refine Go.of (fun _ k => XS.iload X4.here hx rfl (hb hby at_204) rfl k) ?_
        show Go p e below _ T4 (mkF m 206 #[.val (.int x0), .val (.int x1), .val (.int x2), .val (.int x3), .val (.int a), .val (.int fr), .val (.int b), .val (.int (0 : Int32)), .val (.ref (w 0)), .val (.int a), .val (.int (lvl (0 : Int32) a b)), .val (.int (lvl (0 : Int32) b a))] [(.int a), (.int (lvl (0 : Int32) b a))])
        have hc206_6 : (lvl (0 : Int32) b a) = a := (by rw [← hc83_2]; exact (lvl_eq a).1)
        refine Go.of (fun _ k => XS.icmpNo X4.here hx rfl (hb hby at_206) rfl (XT.ii_ne_f hc206_6) k) ?_
        show Go p e below _ T4 (mkF m 209 #[.val (.int x0), .val (.int x1), .val (.int x2), .val (.int x3), .val (.int a), .val (.int fr), .val (.int b), .val (.int (0 : Int32)), .val (.ref (w 0)), .val (.int a), .val (.int (lvl (0 : Int32) a b)), .val (.int (lvl (0 : Int32) b a))] [])
        refine Go.of (fun _ k => XS.iconst X4.here hx rfl (hb hby at_209) k) ?_
        show Go p e below _ T4 (mkF m 210 #[.val (.int x0), .val (.int x1), .val (.int x2), .val (.int x3), .val (.int a), .val (.int fr), .val (.int b), .val (.int (0 : Int32)), .val (.ref (w 0)), .val (.int a), .val (.int (lvl (0 : Int32) a b)), .val (.int (lvl (0 : Int32) b a))] [(.int (1 : Int32))])
        refine Go.of (fun _ k => XS.goto X4.here hx rfl (pc0 := 210) (pc' := 214) rfl (hb hby at_210) (by decide) (by decide) k) ?_
        show Go p e below _ T4 (mkF m 214 #[.val (.int x0), .val (.int x1), .val (.int x2), .val (.int x3), .val (.int a), .val (.int fr), .val (.int b), .val (.int (0 : Int32)), .val (.ref (w 0)), .val (.int a), .val (.int (lvl (0 : Int32) a b)), .val (.int (lvl (0 : Int32) b a))] [(.int (1 : Int32))])
        exact own_retZ (z' := (1 : Int32)) X4 hx hlk hret (hb hby at_214) rfl ⟨rfl, N0⟩ (by decide) (by decide)
      ·
        refine Go.of (fun _ k => XS.icmpYes X1.here hx rfl (pc0 := 83) (pc' := 93) rfl (hb hby at_83) rfl (XT.ii_ne_t hc83_2) (by decide) (by decide) k) ?_
        show Go p e below _ T1 (mkF m 93 #[.val (.int x0), .val (.int x1), .val (.int x2), .val (.int x3), .val (.int a), .val (.int fr), .val (.int b), .val (.int (0 : Int32)), .val (.ref (w 0)), .unset, .unset, .unset] [])
        refine Go.of (fun _ k => XS.iload X1.here hx rfl (hb hby at_93) rfl k) ?_
        show Go p e below _ T1 (mkF m 95 #[.val (.int x0), .val (.int x1), .val (.int x2), .val (.int x3), .val (.int a), .val (.int fr), .val (.int b), .val (.int (0 : Int32)), .val (.ref (w 0)), .unset, .unset, .unset] [(.int a)])
        refine Go.of (fun _ k => XS.iload X1.here hx rfl (hb hby at_95) rfl k) ?_
        show Go p e below _ T1 (mkF m 97 #[.val (.int x0), .val (.int x1), .val (.int x2), .val (.int x3), .val (.int a), .val (.int fr), .val (.int b), .val (.int (0 : Int32)), .val (.ref (w 0)), .unset, .unset, .unset] [(.int b), (.int a)])
        by_cases hc97_7 : a < b
        ·
          refine Go.of (fun _ k => XS.icmpNo X1.here hx rfl (hb hby at_97) rfl (XT.ii_ge_f hc97_7) k) ?_
          show Go p e below _ T1 (mkF m 100 #[.val (.int x0), .val (.int x1), .val (.int x2), .val (.int x3), .val (.int a), .val (.int fr), .val (.int b), .val (.int (0 : Int32)), .val (.ref (w 0)), .unset, .unset, .unset] [])
          refine Go.of (fun _ k => XS.iload X1.here hx rfl (hb hby at_100) rfl k) ?_
          show Go p e below _ T1 (mkF m 102 #[.val (.int x0), .val (.int x1), .val (.int x2), .val (.int x3), .val (.int a), .val (.int fr), .val (.int b), .val (.int (0 : Int32)), .val (.ref (w 0)), .unset, .unset, .unset] [(.int a)])
          refine Go.of (fun _ k => XS.goto X1.here hx rfl (pc0 := 102) (pc' := 107) rfl (hb hby at_102) (by decide) (by decide) k) ?_
          show Go p e below _ T1 (mkF m 107 #[.val (.int x0), .val (.int x1), .val (.int x2), .val (.int x3), .val (.int a), .val (.int fr), .val (.int b), .val (.int (0 : Int32)), .val (.ref (w 0)), .unset, .unset, .unset] [(.int a)])
          refine Go.of (fun _ k => XS.istore X1.here hx rfl (hb hby at_107) rfl (l' := #[.val (.int x0), .val (.int x1), .val (.int x2), .val (.int x3), .val (.int a), .val (.int fr), .val (.int b), .val (.int (0 : Int32)), .val (.ref (w 0)), .unset, .val (.int a), .unset]) rfl k) ?_
          show Go p e below _ T1 (mkF m 109 #[.val (.int x0), .val (.int x1), .val (.int x2), .val (.int x3), .val (.int a), .val (.int fr), .val (.int b), .val (.int (0 : Int32)), .val (.ref (w 0)), .unset, .val (.int a), .unset] [])
          refine Go.of (fun _ k => XS.iload X1.here hx rfl (hb hby at_109) rfl k) ?_
          show Go p e below _ T1 (mkF m 111 #[.val (.int x0), .val (.int x1), .val (.int x2), .val (.int x3), .val (.int a), .val (.int fr), .val (.int b), .val (.int (0 : Int32)), .val (.ref (w 0)), .unset, .val (.int a), .unset] [(.int a)])
          refine Go.of (fun _ k => XS.iload X1.here hx rfl (hb hby at_111) rfl k) ?_
          show Go p e below _ T1 (mkF m 113 #[.val (.int x0), .val (.int x1), .val (.int x2), .val (.int x3), .val (.int a), .val (.int fr), .val (.int b), .val (.int (0 : Int32)), .val (.ref (w 0)), .unset, .val (.int a), .unset] [(.int b), (.int a)])
          refine Go.of (fun _ k => XS.icmpNo X1.here hx rfl (hb hby at_113) rfl (XT.ii_ge_f hc97_7) k) ?_
          show Go p e below _ T1 (mkF m 116 #[.val (.int x0), .val (.int x1), .val (.int x2), .val (.int x3), .val (.int a), .val (.int fr), .val (.int b), .val (.int (0 : Int32)), .val (.ref (w 0)), .unset, .val (.int a), .unset] [])
          refine Go.of (fun _ k => XS.iload X1.here hx rfl (hb hby at_116) rfl k) ?_
          show Go p e below _ T1 (mkF m 118 #[.val (.int x0), .val (.int x1), .val (.int x2), .val (.int x3), .val (.int a), .val (.int fr), .val (.int b), .val (.int (0 : Int32)), .val (.ref (w 0)), .unset, .val (.int a), .unset] [(.int b)])
          refine Go.of (fun _ k => XS.goto X1.here hx rfl (pc0 := 118) (pc' := 123) rfl (hb hby at_118) (by decide) (by decide) k) ?_
          show Go p e below _ T1 (mkF m 123 #[.val (.int x0), .val (.int x1), .val (.int x2), .val (.int x3), .val (.int a), .val (.int fr), .val (.int b), .val (.int (0 : Int32)), .val (.ref (w 0)), .unset, .val (.int a), .unset] [(.int b)])
          refine Go.of (fun _ k => XS.istore X1.here hx rfl (hb hby at_123) rfl (l' := #[.val (.int x0), .val (.int x1), .val (.int x2), .val (.int x3), .val (.int a), .val (.int fr), .val (.int b), .val (.int (0 : Int32)), .val (.ref (w 0)), .unset, .val (.int a), .val (.int b)]) rfl k) ?_
          show Go p e below _ T1 (mkF m 125 #[.val (.int x0), .val (.int x1), .val (.int x2), .val (.int x3), .val (.int a), .val (.int fr), .val (.int b), .val (.int (0 : Int32)), .val (.ref (w 0)), .unset, .val (.int a), .val (.int b)] [])
          refine Go.of (fun _ k => XS.iload X1.here hx rfl (hb hby at_125) rfl k) ?_
          show Go p e below _ T1 (mkF m 127 #[.val (.int x0), .val (.int x1), .val (.int x2), .val (.int x3), .val (.int a), .val (.int fr), .val (.int b), .val (.int (0 : Int32)), .val (.ref (w 0)), .unset, .val (.int a), .val (.int b)] [(.int (0 : Int32))])
          refine Go.of (fun _ k => XS.iconst X1.here hx rfl (hb hby at_127) k) ?_
          show Go p e below _ T1 (mkF m 128 #[.val (.int x0), .val (.int x1), .val (.int x2), .val (.int x3), .val (.int a), .val (.int fr), .val (.int b), .val (.int (0 : Int32)), .val (.ref (w 0)), .unset, .val (.int a), .val (.int b)] [(.int (1 : Int32)), (.int (0 : Int32))])
          refine Go.of (fun _ k => XS.icmpYes X1.here hx rfl (pc0 := 128) (pc' := 138) rfl (hb hby at_128) rfl (XT.ii_ne_t (by decide)) (by decide) (by decide) k) ?_
          show Go p e below _ T1 (mkF m 138 #[.val (.int x0), .val (.int x1), .val (.int x2), .val (.int x3), .val (.int a), .val (.int fr), .val (.int b), .val (.int (0 : Int32)), .val (.ref (w 0)), .unset, .val (.int a), .val (.int b)] [])
          refine Go.of (fun _ k => XS.iload X1.here hx rfl (hb hby at_138) rfl k) ?_
          show Go p e below _ T1 (mkF m 140 #[.val (.int x0), .val (.int x1), .val (.int x2), .val (.int x3), .val (.int a), .val (.int fr), .val (.int b), .val (.int (0 : Int32)), .val (.ref (w 0)), .unset, .val (.int a), .val (.int b)] [(.int (0 : Int32))])
          refine Go.of (fun _ k => XS.iconst X1.here hx rfl (hb hby at_140) k) ?_
          show Go p e below _ T1 (mkF m 141 #[.val (.int x0), .val (.int x1), .val (.int x2), .val (.int x3), .val (.int a), .val (.int fr), .val (.int b), .val (.int (0 : Int32)), .val (.ref (w 0)), .unset, .val (.int a), .val (.int b)] [(.int (2 : Int32)), (.int (0 : Int32))])
          refine Go.of (fun _ k => XS.icmpYes X1.here hx rfl (pc0 := 141) (pc' := 153) rfl (hb hby at_141) rfl (XT.ii_ne_t (by decide)) (by decide) (by decide) k) ?_
          show Go p e below _ T1 (mkF m 153 #[.val (.int x0), .val (.int x1), .val (.int x2), .val (.int x3), .val (.int a), .val (.int fr), .val (.int b), .val (.int (0 : Int32)), .val (.ref (w 0)), .unset, .val (.int a), .val (.int b)] [])
          refine Go.of (fun _ k => XS.iload X1.here hx rfl (hb hby at_153) rfl k) ?_
          show Go p e below _ T1 (mkF m 155 #[.val (.int x0), .val (.int x1), .val (.int x2), .val (.int x3), .val (.int a), .val (.int fr), .val (.int b), .val (.int (0 : Int32)), .val (.ref (w 0)), .unset, .val (.int a), .val (.int b)] [(.int b)])
          refine Go.of (fun _ k => XS.iload X1.here hx rfl (hb hby at_155) rfl k) ?_
          show Go p e below _ T1 (mkF m 157 #[.val (.int x0), .val (.int x1), .val (.int x2), .val (.int x3), .val (.int a), .val (.int fr), .val (.int b), .val (.int (0 : Int32)), .val (.ref (w 0)), .unset, .val (.int a), .val (.int b)] [(.int a), (.int b)])
          refine Go.of (fun _ k => XS.isub X1.here hx rfl (hb hby at_157) rfl k) ?_
          show Go p e below _ T1 (mkF m 158 #[.val (.int x0), .val (.int x1), .val (.int x2), .val (.int x3), .val (.int a), .val (.int fr), .val (.int b), .val (.int (0 : Int32)), .val (.ref (w 0)), .unset, .val (.int a), .val (.int b)] [(.int (b - a))])
          refine Go.of (fun _ k => XS.iconst X1.here hx rfl (hb hby at_158) k) ?_
          show Go p e below _ T1 (mkF m 159 #[.val (.int x0), .val (.int x1), .val (.int x2), .val (.int x3), .val (.int a), .val (.int fr), .val (.int b), .val (.int (0 : Int32)), .val (.ref (w 0)), .unset, .val (.int a), .val (.int b)] [(.int (1 : Int32)), (.int (b - a))])
          by_cases hc159_8 : (b - a) = (1 : Int32)
          ·
            refine Go.of (fun _ k => XS.icmpNo X1.here hx rfl (hb hby at_159) rfl (XT.ii_ne_f hc159_8) k) ?_
            show Go p e below _ T1 (mkF m 162 #[.val (.int x0), .val (.int x1), .val (.int x2), .val (.int x3), .val (.int a), .val (.int fr), .val (.int b), .val (.int (0 : Int32)), .val (.ref (w 0)), .unset, .val (.int a), .val (.int b)] [])
            refine Go.of (fun _ k => XS.iload X1.here hx rfl (hb hby at_162) rfl k) ?_
            show Go p e below _ T1 (mkF m 164 #[.val (.int x0), .val (.int x1), .val (.int x2), .val (.int x3), .val (.int a), .val (.int fr), .val (.int b), .val (.int (0 : Int32)), .val (.ref (w 0)), .unset, .val (.int a), .val (.int b)] [(.int b)])
            refine Go.of (fun _ k => XS.goto X1.here hx rfl (pc0 := 164) (pc' := 171) rfl (hb hby at_164) (by decide) (by decide) k) ?_
            show Go p e below _ T1 (mkF m 171 #[.val (.int x0), .val (.int x1), .val (.int x2), .val (.int x3), .val (.int a), .val (.int fr), .val (.int b), .val (.int (0 : Int32)), .val (.ref (w 0)), .unset, .val (.int a), .val (.int b)] [(.int b)])
            refine Go.of (fun _ k => XS.istore X1.here hx rfl (hb hby at_171) rfl (l' := #[.val (.int x0), .val (.int x1), .val (.int x2), .val (.int x3), .val (.int a), .val (.int fr), .val (.int b), .val (.int (0 : Int32)), .val (.ref (w 0)), .val (.int b), .val (.int a), .val (.int b)]) rfl k) ?_
            show Go p e below _ T1 (mkF m 173 #[.val (.int x0), .val (.int x1), .val (.int x2), .val (.int x3), .val (.int a), .val (.int fr), .val (.int b), .val (.int (0 : Int32)), .val (.ref (w 0)), .val (.int b), .val (.int a), .val (.int b)] [])
            refine Go.of (fun _ k => XS.aload X1.here hx rfl (hb hby at_173) rfl rfl k) ?_
            show Go p e below _ T1 (mkF m 175 #[.val (.int x0), .val (.int x1), .val (.int x2), .val (.int x3), .val (.int a), .val (.int fr), .val (.int b), .val (.int (0 : Int32)), .val (.ref (w 0)), .val (.int b), .val (.int a), .val (.int b)] [(.ref (w 0))])
            refine Go.of (fun _ k => XS.iload X1.here hx rfl (hb hby at_175) rfl k) ?_
            show Go p e below _ T1 (mkF m 177 #[.val (.int x0), .val (.int x1), .val (.int x2), .val (.int x3), .val (.int a), .val (.int fr), .val (.int b), .val (.int (0 : Int32)), .val (.ref (w 0)), .val (.int b), .val (.int a), .val (.int b)] [(.int a), (.ref (w 0))])
            refine Go.of (fun _ k => XS.iload X1.here hx rfl (hb hby at_177) rfl k) ?_
            show Go p e below _ T1 (mkF m 179 #[.val (.int x0), .val (.int x1), .val (.int x2), .val (.int x3), .val (.int a), .val (.int fr), .val (.int b), .val (.int (0 : Int32)), .val (.ref (w 0)), .val (.int b), .val (.int a), .val (.int b)] [(.int b), (.int a), (.ref (w 0))])
            obtain ⟨T9, X9, e9, st9⟩ := own_pure rfl rfl (own_callVQ X1 hx hZ (y := (⟨"com/example/drawdown/drawdown/core/pricing/SplitRatingRule", "level", "(II)I"⟩ : MethodName)) hown (hw _ (List.mem_of_getElem? (i := 4) rfl)) (hw _ (List.mem_of_getElem? (i := 5) rfl)) (hw _ (List.mem_of_getElem? (i := 7) rfl)) (hw _ (List.mem_of_getElem? (i := 7) rfl)) (hw _ (List.mem_of_getElem? (i := 6) rfl)) (hw _ (List.mem_of_getElem? (i := 8) rfl)) (hw _ (List.mem_of_getElem? (i := 2) rfl)) (by decide) (c4_0 l Z a0 hw h0 (w 0) a b (Ex 0 (by decide)) (Fo 0 (by decide))) (by decide) 0 (by decide) (by decide) (by decide) e1 (Ex 0 (by decide)) (g := (mkF m 179 #[.val (.int x0), .val (.int x1), .val (.int x2), .val (.int x3), .val (.int a), .val (.int fr), .val (.int b), .val (.int (0 : Int32)), .val (.ref (w 0)), .val (.int b), .val (.int a), .val (.int b)] [(.int b), (.int a), (.ref (w 0))])) rfl (by rw [hml]; rfl) [(.int a), (.int b)] [] (lenOf (by decide +kernel : parseMethodDescriptor "(II)I" = some ⟨[.int, .int], some .int⟩) rfl) rfl (by show 2 * 0 + _ ≤ _; exact Nat.le_of_eq rfl) rfl (hb hby at_179))
            refine Go.of st9 ?_
            show Go p e below _ T9 (mkF m 182 #[.val (.int x0), .val (.int x1), .val (.int x2), .val (.int x3), .val (.int a), .val (.int fr), .val (.int b), .val (.int (0 : Int32)), .val (.ref (w 0)), .val (.int b), .val (.int a), .val (.int b)] [(.int (lvl (0 : Int32) a b))])
            refine Go.of (fun _ k => XS.istore X9.here hx rfl (hb hby at_182) rfl (l' := #[.val (.int x0), .val (.int x1), .val (.int x2), .val (.int x3), .val (.int a), .val (.int fr), .val (.int b), .val (.int (0 : Int32)), .val (.ref (w 0)), .val (.int b), .val (.int (lvl (0 : Int32) a b)), .val (.int b)]) rfl k) ?_
            show Go p e below _ T9 (mkF m 184 #[.val (.int x0), .val (.int x1), .val (.int x2), .val (.int x3), .val (.int a), .val (.int fr), .val (.int b), .val (.int (0 : Int32)), .val (.ref (w 0)), .val (.int b), .val (.int (lvl (0 : Int32) a b)), .val (.int b)] [])
            refine Go.of (fun _ k => XS.aload X9.here hx rfl (hb hby at_184) rfl rfl k) ?_
            show Go p e below _ T9 (mkF m 186 #[.val (.int x0), .val (.int x1), .val (.int x2), .val (.int x3), .val (.int a), .val (.int fr), .val (.int b), .val (.int (0 : Int32)), .val (.ref (w 0)), .val (.int b), .val (.int (lvl (0 : Int32) a b)), .val (.int b)] [(.ref (w 0))])
            refine Go.of (fun _ k => XS.iload X9.here hx rfl (hb hby at_186) rfl k) ?_
            show Go p e below _ T9 (mkF m 188 #[.val (.int x0), .val (.int x1), .val (.int x2), .val (.int x3), .val (.int a), .val (.int fr), .val (.int b), .val (.int (0 : Int32)), .val (.ref (w 0)), .val (.int b), .val (.int (lvl (0 : Int32) a b)), .val (.int b)] [(.int b), (.ref (w 0))])
            refine Go.of (fun _ k => XS.iload X9.here hx rfl (hb hby at_188) rfl k) ?_
            show Go p e below _ T9 (mkF m 190 #[.val (.int x0), .val (.int x1), .val (.int x2), .val (.int x3), .val (.int a), .val (.int fr), .val (.int b), .val (.int (0 : Int32)), .val (.ref (w 0)), .val (.int b), .val (.int (lvl (0 : Int32) a b)), .val (.int b)] [(.int a), (.int b), (.ref (w 0))])
            obtain ⟨T10, X10, e10, st10⟩ := own_pure rfl rfl (own_callVQ X9 hx hZ (y := (⟨"com/example/drawdown/drawdown/core/pricing/SplitRatingRule", "level", "(II)I"⟩ : MethodName)) hown (hw _ (List.mem_of_getElem? (i := 4) rfl)) (hw _ (List.mem_of_getElem? (i := 5) rfl)) (hw _ (List.mem_of_getElem? (i := 7) rfl)) (hw _ (List.mem_of_getElem? (i := 7) rfl)) (hw _ (List.mem_of_getElem? (i := 6) rfl)) (hw _ (List.mem_of_getElem? (i := 8) rfl)) (hw _ (List.mem_of_getElem? (i := 2) rfl)) (by decide) (c4_0 l Z a0 hw h0 (w 0) b a (Ex 0 (by decide)) (Fo 0 (by decide))) (by decide) 0 (by decide) (by decide) (by decide) e9 (Ex 0 (by decide)) (g := (mkF m 190 #[.val (.int x0), .val (.int x1), .val (.int x2), .val (.int x3), .val (.int a), .val (.int fr), .val (.int b), .val (.int (0 : Int32)), .val (.ref (w 0)), .val (.int b), .val (.int (lvl (0 : Int32) a b)), .val (.int b)] [(.int a), (.int b), (.ref (w 0))])) rfl (by rw [hml]; rfl) [(.int b), (.int a)] [] (lenOf (by decide +kernel : parseMethodDescriptor "(II)I" = some ⟨[.int, .int], some .int⟩) rfl) rfl (by show 2 * 0 + _ ≤ _; exact Nat.le_of_eq rfl) rfl (hb hby at_190))
            refine Go.of st10 ?_
            show Go p e below _ T10 (mkF m 193 #[.val (.int x0), .val (.int x1), .val (.int x2), .val (.int x3), .val (.int a), .val (.int fr), .val (.int b), .val (.int (0 : Int32)), .val (.ref (w 0)), .val (.int b), .val (.int (lvl (0 : Int32) a b)), .val (.int b)] [(.int (lvl (0 : Int32) b a))])
            refine Go.of (fun _ k => XS.istore X10.here hx rfl (hb hby at_193) rfl (l' := #[.val (.int x0), .val (.int x1), .val (.int x2), .val (.int x3), .val (.int a), .val (.int fr), .val (.int b), .val (.int (0 : Int32)), .val (.ref (w 0)), .val (.int b), .val (.int (lvl (0 : Int32) a b)), .val (.int (lvl (0 : Int32) b a))]) rfl k) ?_
            show Go p e below _ T10 (mkF m 195 #[.val (.int x0), .val (.int x1), .val (.int x2), .val (.int x3), .val (.int a), .val (.int fr), .val (.int b), .val (.int (0 : Int32)), .val (.ref (w 0)), .val (.int b), .val (.int (lvl (0 : Int32) a b)), .val (.int (lvl (0 : Int32) b a))] [])
            refine Go.of (fun _ k => XS.iload X10.here hx rfl (hb hby at_195) rfl k) ?_
            show Go p e below _ T10 (mkF m 197 #[.val (.int x0), .val (.int x1), .val (.int x2), .val (.int x3), .val (.int a), .val (.int fr), .val (.int b), .val (.int (0 : Int32)), .val (.ref (w 0)), .val (.int b), .val (.int (lvl (0 : Int32) a b)), .val (.int (lvl (0 : Int32) b a))] [(.int (lvl (0 : Int32) a b))])
            refine Go.of (fun _ k => XS.iload X10.here hx rfl (hb hby at_197) rfl k) ?_
            show Go p e below _ T10 (mkF m 199 #[.val (.int x0), .val (.int x1), .val (.int x2), .val (.int x3), .val (.int a), .val (.int fr), .val (.int b), .val (.int (0 : Int32)), .val (.ref (w 0)), .val (.int b), .val (.int (lvl (0 : Int32) a b)), .val (.int (lvl (0 : Int32) b a))] [(.int b), (.int (lvl (0 : Int32) a b))])
            have hc199_11 : (lvl (0 : Int32) a b) = b := ((lvl_lt Ra hc97_7).1.trans (if_pos hc159_8))
            refine Go.of (fun _ k => XS.icmpNo X10.here hx rfl (hb hby at_199) rfl (XT.ii_ne_f hc199_11) k) ?_
            show Go p e below _ T10 (mkF m 202 #[.val (.int x0), .val (.int x1), .val (.int x2), .val (.int x3), .val (.int a), .val (.int fr), .val (.int b), .val (.int (0 : Int32)), .val (.ref (w 0)), .val (.int b), .val (.int (lvl (0 : Int32) a b)), .val (.int (lvl (0 : Int32) b a))] [])
            refine Go.of (fun _ k => XS.iload X10.here hx rfl (hb hby at_202) rfl k) ?_
            show Go p e below _ T10 (mkF m 204 #[.val (.int x0), .val (.int x1), .val (.int x2), .val (.int x3), .val (.int a), .val (.int fr), .val (.int b), .val (.int (0 : Int32)), .val (.ref (w 0)), .val (.int b), .val (.int (lvl (0 : Int32) a b)), .val (.int (lvl (0 : Int32) b a))] [(.int (lvl (0 : Int32) b a))])
            refine Go.of (fun _ k => XS.iload X10.here hx rfl (hb hby at_204) rfl k) ?_
            show Go p e below _ T10 (mkF m 206 #[.val (.int x0), .val (.int x1), .val (.int x2), .val (.int x3), .val (.int a), .val (.int fr), .val (.int b), .val (.int (0 : Int32)), .val (.ref (w 0)), .val (.int b), .val (.int (lvl (0 : Int32) a b)), .val (.int (lvl (0 : Int32) b a))] [(.int b), (.int (lvl (0 : Int32) b a))])
            have hc206_12 : (lvl (0 : Int32) b a) = b := ((lvl_lt Ra hc97_7).2.1.trans (if_pos hc159_8))
            refine Go.of (fun _ k => XS.icmpNo X10.here hx rfl (hb hby at_206) rfl (XT.ii_ne_f hc206_12) k) ?_
            show Go p e below _ T10 (mkF m 209 #[.val (.int x0), .val (.int x1), .val (.int x2), .val (.int x3), .val (.int a), .val (.int fr), .val (.int b), .val (.int (0 : Int32)), .val (.ref (w 0)), .val (.int b), .val (.int (lvl (0 : Int32) a b)), .val (.int (lvl (0 : Int32) b a))] [])
            refine Go.of (fun _ k => XS.iconst X10.here hx rfl (hb hby at_209) k) ?_
            show Go p e below _ T10 (mkF m 210 #[.val (.int x0), .val (.int x1), .val (.int x2), .val (.int x3), .val (.int a), .val (.int fr), .val (.int b), .val (.int (0 : Int32)), .val (.ref (w 0)), .val (.int b), .val (.int (lvl (0 : Int32) a b)), .val (.int (lvl (0 : Int32) b a))] [(.int (1 : Int32))])
            refine Go.of (fun _ k => XS.goto X10.here hx rfl (pc0 := 210) (pc' := 214) rfl (hb hby at_210) (by decide) (by decide) k) ?_
            show Go p e below _ T10 (mkF m 214 #[.val (.int x0), .val (.int x1), .val (.int x2), .val (.int x3), .val (.int a), .val (.int fr), .val (.int b), .val (.int (0 : Int32)), .val (.ref (w 0)), .val (.int b), .val (.int (lvl (0 : Int32) a b)), .val (.int (lvl (0 : Int32) b a))] [(.int (1 : Int32))])
            exact own_retZ (z' := (1 : Int32)) X10 hx hlk hret (hb hby at_214) rfl ⟨rfl, N0⟩ (by decide) (by decide)
          ·
            refine Go.of (fun _ k => XS.icmpYes X1.here hx rfl (pc0 := 159) (pc' := 167) rfl (hb hby at_159) rfl (XT.ii_ne_t hc159_8) (by decide) (by decide) k) ?_
            show Go p e below _ T1 (mkF m 167 #[.val (.int x0), .val (.int x1), .val (.int x2), .val (.int x3), .val (.int a), .val (.int fr), .val (.int b), .val (.int (0 : Int32)), .val (.ref (w 0)), .unset, .val (.int a), .val (.int b)] [])
            refine Go.of (fun _ k => XS.iload X1.here hx rfl (hb hby at_167) rfl k) ?_
            show Go p e below _ T1 (mkF m 169 #[.val (.int x0), .val (.int x1), .val (.int x2), .val (.int x3), .val (.int a), .val (.int fr), .val (.int b), .val (.int (0 : Int32)), .val (.ref (w 0)), .unset, .val (.int a), .val (.int b)] [(.int b)])
            refine Go.of (fun _ k => XS.iconst X1.here hx rfl (hb hby at_169) k) ?_
            show Go p e below _ T1 (mkF m 170 #[.val (.int x0), .val (.int x1), .val (.int x2), .val (.int x3), .val (.int a), .val (.int fr), .val (.int b), .val (.int (0 : Int32)), .val (.ref (w 0)), .unset, .val (.int a), .val (.int b)] [(.int (1 : Int32)), (.int b)])
            refine Go.of (fun _ k => XS.isub X1.here hx rfl (hb hby at_170) rfl k) ?_
            show Go p e below _ T1 (mkF m 171 #[.val (.int x0), .val (.int x1), .val (.int x2), .val (.int x3), .val (.int a), .val (.int fr), .val (.int b), .val (.int (0 : Int32)), .val (.ref (w 0)), .unset, .val (.int a), .val (.int b)] [(.int (b - (1 : Int32)))])
            refine Go.of (fun _ k => XS.istore X1.here hx rfl (hb hby at_171) rfl (l' := #[.val (.int x0), .val (.int x1), .val (.int x2), .val (.int x3), .val (.int a), .val (.int fr), .val (.int b), .val (.int (0 : Int32)), .val (.ref (w 0)), .val (.int (b - (1 : Int32))), .val (.int a), .val (.int b)]) rfl k) ?_
            show Go p e below _ T1 (mkF m 173 #[.val (.int x0), .val (.int x1), .val (.int x2), .val (.int x3), .val (.int a), .val (.int fr), .val (.int b), .val (.int (0 : Int32)), .val (.ref (w 0)), .val (.int (b - (1 : Int32))), .val (.int a), .val (.int b)] [])
            refine Go.of (fun _ k => XS.aload X1.here hx rfl (hb hby at_173) rfl rfl k) ?_
            show Go p e below _ T1 (mkF m 175 #[.val (.int x0), .val (.int x1), .val (.int x2), .val (.int x3), .val (.int a), .val (.int fr), .val (.int b), .val (.int (0 : Int32)), .val (.ref (w 0)), .val (.int (b - (1 : Int32))), .val (.int a), .val (.int b)] [(.ref (w 0))])
            refine Go.of (fun _ k => XS.iload X1.here hx rfl (hb hby at_175) rfl k) ?_
            show Go p e below _ T1 (mkF m 177 #[.val (.int x0), .val (.int x1), .val (.int x2), .val (.int x3), .val (.int a), .val (.int fr), .val (.int b), .val (.int (0 : Int32)), .val (.ref (w 0)), .val (.int (b - (1 : Int32))), .val (.int a), .val (.int b)] [(.int a), (.ref (w 0))])
            refine Go.of (fun _ k => XS.iload X1.here hx rfl (hb hby at_177) rfl k) ?_
            show Go p e below _ T1 (mkF m 179 #[.val (.int x0), .val (.int x1), .val (.int x2), .val (.int x3), .val (.int a), .val (.int fr), .val (.int b), .val (.int (0 : Int32)), .val (.ref (w 0)), .val (.int (b - (1 : Int32))), .val (.int a), .val (.int b)] [(.int b), (.int a), (.ref (w 0))])
            obtain ⟨T13, X13, e13, st13⟩ := own_pure rfl rfl (own_callVQ X1 hx hZ (y := (⟨"com/example/drawdown/drawdown/core/pricing/SplitRatingRule", "level", "(II)I"⟩ : MethodName)) hown (hw _ (List.mem_of_getElem? (i := 4) rfl)) (hw _ (List.mem_of_getElem? (i := 5) rfl)) (hw _ (List.mem_of_getElem? (i := 7) rfl)) (hw _ (List.mem_of_getElem? (i := 7) rfl)) (hw _ (List.mem_of_getElem? (i := 6) rfl)) (hw _ (List.mem_of_getElem? (i := 8) rfl)) (hw _ (List.mem_of_getElem? (i := 2) rfl)) (by decide) (c4_0 l Z a0 hw h0 (w 0) a b (Ex 0 (by decide)) (Fo 0 (by decide))) (by decide) 0 (by decide) (by decide) (by decide) e1 (Ex 0 (by decide)) (g := (mkF m 179 #[.val (.int x0), .val (.int x1), .val (.int x2), .val (.int x3), .val (.int a), .val (.int fr), .val (.int b), .val (.int (0 : Int32)), .val (.ref (w 0)), .val (.int (b - (1 : Int32))), .val (.int a), .val (.int b)] [(.int b), (.int a), (.ref (w 0))])) rfl (by rw [hml]; rfl) [(.int a), (.int b)] [] (lenOf (by decide +kernel : parseMethodDescriptor "(II)I" = some ⟨[.int, .int], some .int⟩) rfl) rfl (by show 2 * 0 + _ ≤ _; exact Nat.le_of_eq rfl) rfl (hb hby at_179))
            refine Go.of st13 ?_
            show Go p e below _ T13 (mkF m 182 #[.val (.int x0), .val (.int x1), .val (.int x2), .val (.int x3), .val (.int a), .val (.int fr), .val (.int b), .val (.int (0 : Int32)), .val (.ref (w 0)), .val (.int (b - (1 : Int32))), .val (.int a), .val (.int b)] [(.int (lvl (0 : Int32) a b))])
            refine Go.of (fun _ k => XS.istore X13.here hx rfl (hb hby at_182) rfl (l' := #[.val (.int x0), .val (.int x1), .val (.int x2), .val (.int x3), .val (.int a), .val (.int fr), .val (.int b), .val (.int (0 : Int32)), .val (.ref (w 0)), .val (.int (b - (1 : Int32))), .val (.int (lvl (0 : Int32) a b)), .val (.int b)]) rfl k) ?_
            show Go p e below _ T13 (mkF m 184 #[.val (.int x0), .val (.int x1), .val (.int x2), .val (.int x3), .val (.int a), .val (.int fr), .val (.int b), .val (.int (0 : Int32)), .val (.ref (w 0)), .val (.int (b - (1 : Int32))), .val (.int (lvl (0 : Int32) a b)), .val (.int b)] [])
            refine Go.of (fun _ k => XS.aload X13.here hx rfl (hb hby at_184) rfl rfl k) ?_
            show Go p e below _ T13 (mkF m 186 #[.val (.int x0), .val (.int x1), .val (.int x2), .val (.int x3), .val (.int a), .val (.int fr), .val (.int b), .val (.int (0 : Int32)), .val (.ref (w 0)), .val (.int (b - (1 : Int32))), .val (.int (lvl (0 : Int32) a b)), .val (.int b)] [(.ref (w 0))])
            refine Go.of (fun _ k => XS.iload X13.here hx rfl (hb hby at_186) rfl k) ?_
            show Go p e below _ T13 (mkF m 188 #[.val (.int x0), .val (.int x1), .val (.int x2), .val (.int x3), .val (.int a), .val (.int fr), .val (.int b), .val (.int (0 : Int32)), .val (.ref (w 0)), .val (.int (b - (1 : Int32))), .val (.int (lvl (0 : Int32) a b)), .val (.int b)] [(.int b), (.ref (w 0))])
            refine Go.of (fun _ k => XS.iload X13.here hx rfl (hb hby at_188) rfl k) ?_
            show Go p e below _ T13 (mkF m 190 #[.val (.int x0), .val (.int x1), .val (.int x2), .val (.int x3), .val (.int a), .val (.int fr), .val (.int b), .val (.int (0 : Int32)), .val (.ref (w 0)), .val (.int (b - (1 : Int32))), .val (.int (lvl (0 : Int32) a b)), .val (.int b)] [(.int a), (.int b), (.ref (w 0))])
            obtain ⟨T14, X14, e14, st14⟩ := own_pure rfl rfl (own_callVQ X13 hx hZ (y := (⟨"com/example/drawdown/drawdown/core/pricing/SplitRatingRule", "level", "(II)I"⟩ : MethodName)) hown (hw _ (List.mem_of_getElem? (i := 4) rfl)) (hw _ (List.mem_of_getElem? (i := 5) rfl)) (hw _ (List.mem_of_getElem? (i := 7) rfl)) (hw _ (List.mem_of_getElem? (i := 7) rfl)) (hw _ (List.mem_of_getElem? (i := 6) rfl)) (hw _ (List.mem_of_getElem? (i := 8) rfl)) (hw _ (List.mem_of_getElem? (i := 2) rfl)) (by decide) (c4_0 l Z a0 hw h0 (w 0) b a (Ex 0 (by decide)) (Fo 0 (by decide))) (by decide) 0 (by decide) (by decide) (by decide) e13 (Ex 0 (by decide)) (g := (mkF m 190 #[.val (.int x0), .val (.int x1), .val (.int x2), .val (.int x3), .val (.int a), .val (.int fr), .val (.int b), .val (.int (0 : Int32)), .val (.ref (w 0)), .val (.int (b - (1 : Int32))), .val (.int (lvl (0 : Int32) a b)), .val (.int b)] [(.int a), (.int b), (.ref (w 0))])) rfl (by rw [hml]; rfl) [(.int b), (.int a)] [] (lenOf (by decide +kernel : parseMethodDescriptor "(II)I" = some ⟨[.int, .int], some .int⟩) rfl) rfl (by show 2 * 0 + _ ≤ _; exact Nat.le_of_eq rfl) rfl (hb hby at_190))
            refine Go.of st14 ?_
            show Go p e below _ T14 (mkF m 193 #[.val (.int x0), .val (.int x1), .val (.int x2), .val (.int x3), .val (.int a), .val (.int fr), .val (.int b), .val (.int (0 : Int32)), .val (.ref (w 0)), .val (.int (b - (1 : Int32))), .val (.int (lvl (0 : Int32) a b)), .val (.int b)] [(.int (lvl (0 : Int32) b a))])
            refine Go.of (fun _ k => XS.istore X14.here hx rfl (hb hby at_193) rfl (l' := #[.val (.int x0), .val (.int x1), .val (.int x2), .val (.int x3), .val (.int a), .val (.int fr), .val (.int b), .val (.int (0 : Int32)), .val (.ref (w 0)), .val (.int (b - (1 : Int32))), .val (.int (lvl (0 : Int32) a b)), .val (.int (lvl (0 : Int32) b a))]) rfl k) ?_
            show Go p e below _ T14 (mkF m 195 #[.val (.int x0), .val (.int x1), .val (.int x2), .val (.int x3), .val (.int a), .val (.int fr), .val (.int b), .val (.int (0 : Int32)), .val (.ref (w 0)), .val (.int (b - (1 : Int32))), .val (.int (lvl (0 : Int32) a b)), .val (.int (lvl (0 : Int32) b a))] [])
            refine Go.of (fun _ k => XS.iload X14.here hx rfl (hb hby at_195) rfl k) ?_
            show Go p e below _ T14 (mkF m 197 #[.val (.int x0), .val (.int x1), .val (.int x2), .val (.int x3), .val (.int a), .val (.int fr), .val (.int b), .val (.int (0 : Int32)), .val (.ref (w 0)), .val (.int (b - (1 : Int32))), .val (.int (lvl (0 : Int32) a b)), .val (.int (lvl (0 : Int32) b a))] [(.int (lvl (0 : Int32) a b))])
            refine Go.of (fun _ k => XS.iload X14.here hx rfl (hb hby at_197) rfl k) ?_
            show Go p e below _ T14 (mkF m 199 #[.val (.int x0), .val (.int x1), .val (.int x2), .val (.int x3), .val (.int a), .val (.int fr), .val (.int b), .val (.int (0 : Int32)), .val (.ref (w 0)), .val (.int (b - (1 : Int32))), .val (.int (lvl (0 : Int32) a b)), .val (.int (lvl (0 : Int32) b a))] [(.int (b - (1 : Int32))), (.int (lvl (0 : Int32) a b))])
            have hc199_15 : (lvl (0 : Int32) a b) = (b - (1 : Int32)) := ((lvl_lt Ra hc97_7).1.trans (if_neg hc159_8))
            refine Go.of (fun _ k => XS.icmpNo X14.here hx rfl (hb hby at_199) rfl (XT.ii_ne_f hc199_15) k) ?_
            show Go p e below _ T14 (mkF m 202 #[.val (.int x0), .val (.int x1), .val (.int x2), .val (.int x3), .val (.int a), .val (.int fr), .val (.int b), .val (.int (0 : Int32)), .val (.ref (w 0)), .val (.int (b - (1 : Int32))), .val (.int (lvl (0 : Int32) a b)), .val (.int (lvl (0 : Int32) b a))] [])
            refine Go.of (fun _ k => XS.iload X14.here hx rfl (hb hby at_202) rfl k) ?_
            show Go p e below _ T14 (mkF m 204 #[.val (.int x0), .val (.int x1), .val (.int x2), .val (.int x3), .val (.int a), .val (.int fr), .val (.int b), .val (.int (0 : Int32)), .val (.ref (w 0)), .val (.int (b - (1 : Int32))), .val (.int (lvl (0 : Int32) a b)), .val (.int (lvl (0 : Int32) b a))] [(.int (lvl (0 : Int32) b a))])
            refine Go.of (fun _ k => XS.iload X14.here hx rfl (hb hby at_204) rfl k) ?_
            show Go p e below _ T14 (mkF m 206 #[.val (.int x0), .val (.int x1), .val (.int x2), .val (.int x3), .val (.int a), .val (.int fr), .val (.int b), .val (.int (0 : Int32)), .val (.ref (w 0)), .val (.int (b - (1 : Int32))), .val (.int (lvl (0 : Int32) a b)), .val (.int (lvl (0 : Int32) b a))] [(.int (b - (1 : Int32))), (.int (lvl (0 : Int32) b a))])
            have hc206_16 : (lvl (0 : Int32) b a) = (b - (1 : Int32)) := ((lvl_lt Ra hc97_7).2.1.trans (if_neg hc159_8))
            refine Go.of (fun _ k => XS.icmpNo X14.here hx rfl (hb hby at_206) rfl (XT.ii_ne_f hc206_16) k) ?_
            show Go p e below _ T14 (mkF m 209 #[.val (.int x0), .val (.int x1), .val (.int x2), .val (.int x3), .val (.int a), .val (.int fr), .val (.int b), .val (.int (0 : Int32)), .val (.ref (w 0)), .val (.int (b - (1 : Int32))), .val (.int (lvl (0 : Int32) a b)), .val (.int (lvl (0 : Int32) b a))] [])
            refine Go.of (fun _ k => XS.iconst X14.here hx rfl (hb hby at_209) k) ?_
            show Go p e below _ T14 (mkF m 210 #[.val (.int x0), .val (.int x1), .val (.int x2), .val (.int x3), .val (.int a), .val (.int fr), .val (.int b), .val (.int (0 : Int32)), .val (.ref (w 0)), .val (.int (b - (1 : Int32))), .val (.int (lvl (0 : Int32) a b)), .val (.int (lvl (0 : Int32) b a))] [(.int (1 : Int32))])
            refine Go.of (fun _ k => XS.goto X14.here hx rfl (pc0 := 210) (pc' := 214) rfl (hb hby at_210) (by decide) (by decide) k) ?_
            show Go p e below _ T14 (mkF m 214 #[.val (.int x0), .val (.int x1), .val (.int x2), .val (.int x3), .val (.int a), .val (.int fr), .val (.int b), .val (.int (0 : Int32)), .val (.ref (w 0)), .val (.int (b - (1 : Int32))), .val (.int (lvl (0 : Int32) a b)), .val (.int (lvl (0 : Int32) b a))] [(.int (1 : Int32))])
            exact own_retZ (z' := (1 : Int32)) X14 hx hlk hret (hb hby at_214) rfl ⟨rfl, N0⟩ (by decide) (by decide)
        ·
          refine Go.of (fun _ k => XS.icmpYes X1.here hx rfl (pc0 := 97) (pc' := 105) rfl (hb hby at_97) rfl (XT.ii_ge_t hc97_7) (by decide) (by decide) k) ?_
          show Go p e below _ T1 (mkF m 105 #[.val (.int x0), .val (.int x1), .val (.int x2), .val (.int x3), .val (.int a), .val (.int fr), .val (.int b), .val (.int (0 : Int32)), .val (.ref (w 0)), .unset, .unset, .unset] [])
          refine Go.of (fun _ k => XS.iload X1.here hx rfl (hb hby at_105) rfl k) ?_
          show Go p e below _ T1 (mkF m 107 #[.val (.int x0), .val (.int x1), .val (.int x2), .val (.int x3), .val (.int a), .val (.int fr), .val (.int b), .val (.int (0 : Int32)), .val (.ref (w 0)), .unset, .unset, .unset] [(.int b)])
          refine Go.of (fun _ k => XS.istore X1.here hx rfl (hb hby at_107) rfl (l' := #[.val (.int x0), .val (.int x1), .val (.int x2), .val (.int x3), .val (.int a), .val (.int fr), .val (.int b), .val (.int (0 : Int32)), .val (.ref (w 0)), .unset, .val (.int b), .unset]) rfl k) ?_
          show Go p e below _ T1 (mkF m 109 #[.val (.int x0), .val (.int x1), .val (.int x2), .val (.int x3), .val (.int a), .val (.int fr), .val (.int b), .val (.int (0 : Int32)), .val (.ref (w 0)), .unset, .val (.int b), .unset] [])
          refine Go.of (fun _ k => XS.iload X1.here hx rfl (hb hby at_109) rfl k) ?_
          show Go p e below _ T1 (mkF m 111 #[.val (.int x0), .val (.int x1), .val (.int x2), .val (.int x3), .val (.int a), .val (.int fr), .val (.int b), .val (.int (0 : Int32)), .val (.ref (w 0)), .unset, .val (.int b), .unset] [(.int a)])
          refine Go.of (fun _ k => XS.iload X1.here hx rfl (hb hby at_111) rfl k) ?_
          show Go p e below _ T1 (mkF m 113 #[.val (.int x0), .val (.int x1), .val (.int x2), .val (.int x3), .val (.int a), .val (.int fr), .val (.int b), .val (.int (0 : Int32)), .val (.ref (w 0)), .unset, .val (.int b), .unset] [(.int b), (.int a)])
          refine Go.of (fun _ k => XS.icmpYes X1.here hx rfl (pc0 := 113) (pc' := 121) rfl (hb hby at_113) rfl (XT.ii_ge_t hc97_7) (by decide) (by decide) k) ?_
          show Go p e below _ T1 (mkF m 121 #[.val (.int x0), .val (.int x1), .val (.int x2), .val (.int x3), .val (.int a), .val (.int fr), .val (.int b), .val (.int (0 : Int32)), .val (.ref (w 0)), .unset, .val (.int b), .unset] [])
          refine Go.of (fun _ k => XS.iload X1.here hx rfl (hb hby at_121) rfl k) ?_
          show Go p e below _ T1 (mkF m 123 #[.val (.int x0), .val (.int x1), .val (.int x2), .val (.int x3), .val (.int a), .val (.int fr), .val (.int b), .val (.int (0 : Int32)), .val (.ref (w 0)), .unset, .val (.int b), .unset] [(.int a)])
          refine Go.of (fun _ k => XS.istore X1.here hx rfl (hb hby at_123) rfl (l' := #[.val (.int x0), .val (.int x1), .val (.int x2), .val (.int x3), .val (.int a), .val (.int fr), .val (.int b), .val (.int (0 : Int32)), .val (.ref (w 0)), .unset, .val (.int b), .val (.int a)]) rfl k) ?_
          show Go p e below _ T1 (mkF m 125 #[.val (.int x0), .val (.int x1), .val (.int x2), .val (.int x3), .val (.int a), .val (.int fr), .val (.int b), .val (.int (0 : Int32)), .val (.ref (w 0)), .unset, .val (.int b), .val (.int a)] [])
          refine Go.of (fun _ k => XS.iload X1.here hx rfl (hb hby at_125) rfl k) ?_
          show Go p e below _ T1 (mkF m 127 #[.val (.int x0), .val (.int x1), .val (.int x2), .val (.int x3), .val (.int a), .val (.int fr), .val (.int b), .val (.int (0 : Int32)), .val (.ref (w 0)), .unset, .val (.int b), .val (.int a)] [(.int (0 : Int32))])
          refine Go.of (fun _ k => XS.iconst X1.here hx rfl (hb hby at_127) k) ?_
          show Go p e below _ T1 (mkF m 128 #[.val (.int x0), .val (.int x1), .val (.int x2), .val (.int x3), .val (.int a), .val (.int fr), .val (.int b), .val (.int (0 : Int32)), .val (.ref (w 0)), .unset, .val (.int b), .val (.int a)] [(.int (1 : Int32)), (.int (0 : Int32))])
          refine Go.of (fun _ k => XS.icmpYes X1.here hx rfl (pc0 := 128) (pc' := 138) rfl (hb hby at_128) rfl (XT.ii_ne_t (by decide)) (by decide) (by decide) k) ?_
          show Go p e below _ T1 (mkF m 138 #[.val (.int x0), .val (.int x1), .val (.int x2), .val (.int x3), .val (.int a), .val (.int fr), .val (.int b), .val (.int (0 : Int32)), .val (.ref (w 0)), .unset, .val (.int b), .val (.int a)] [])
          refine Go.of (fun _ k => XS.iload X1.here hx rfl (hb hby at_138) rfl k) ?_
          show Go p e below _ T1 (mkF m 140 #[.val (.int x0), .val (.int x1), .val (.int x2), .val (.int x3), .val (.int a), .val (.int fr), .val (.int b), .val (.int (0 : Int32)), .val (.ref (w 0)), .unset, .val (.int b), .val (.int a)] [(.int (0 : Int32))])
          refine Go.of (fun _ k => XS.iconst X1.here hx rfl (hb hby at_140) k) ?_
          show Go p e below _ T1 (mkF m 141 #[.val (.int x0), .val (.int x1), .val (.int x2), .val (.int x3), .val (.int a), .val (.int fr), .val (.int b), .val (.int (0 : Int32)), .val (.ref (w 0)), .unset, .val (.int b), .val (.int a)] [(.int (2 : Int32)), (.int (0 : Int32))])
          refine Go.of (fun _ k => XS.icmpYes X1.here hx rfl (pc0 := 141) (pc' := 153) rfl (hb hby at_141) rfl (XT.ii_ne_t (by decide)) (by decide) (by decide) k) ?_
          show Go p e below _ T1 (mkF m 153 #[.val (.int x0), .val (.int x1), .val (.int x2), .val (.int x3), .val (.int a), .val (.int fr), .val (.int b), .val (.int (0 : Int32)), .val (.ref (w 0)), .unset, .val (.int b), .val (.int a)] [])
          refine Go.of (fun _ k => XS.iload X1.here hx rfl (hb hby at_153) rfl k) ?_
          show Go p e below _ T1 (mkF m 155 #[.val (.int x0), .val (.int x1), .val (.int x2), .val (.int x3), .val (.int a), .val (.int fr), .val (.int b), .val (.int (0 : Int32)), .val (.ref (w 0)), .unset, .val (.int b), .val (.int a)] [(.int a)])
          refine Go.of (fun _ k => XS.iload X1.here hx rfl (hb hby at_155) rfl k) ?_
          show Go p e below _ T1 (mkF m 157 #[.val (.int x0), .val (.int x1), .val (.int x2), .val (.int x3), .val (.int a), .val (.int fr), .val (.int b), .val (.int (0 : Int32)), .val (.ref (w 0)), .unset, .val (.int b), .val (.int a)] [(.int b), (.int a)])
          refine Go.of (fun _ k => XS.isub X1.here hx rfl (hb hby at_157) rfl k) ?_
          show Go p e below _ T1 (mkF m 158 #[.val (.int x0), .val (.int x1), .val (.int x2), .val (.int x3), .val (.int a), .val (.int fr), .val (.int b), .val (.int (0 : Int32)), .val (.ref (w 0)), .unset, .val (.int b), .val (.int a)] [(.int (a - b))])
          refine Go.of (fun _ k => XS.iconst X1.here hx rfl (hb hby at_158) k) ?_
          show Go p e below _ T1 (mkF m 159 #[.val (.int x0), .val (.int x1), .val (.int x2), .val (.int x3), .val (.int a), .val (.int fr), .val (.int b), .val (.int (0 : Int32)), .val (.ref (w 0)), .unset, .val (.int b), .val (.int a)] [(.int (1 : Int32)), (.int (a - b))])
          by_cases hc159_17 : (a - b) = (1 : Int32)
          ·
            refine Go.of (fun _ k => XS.icmpNo X1.here hx rfl (hb hby at_159) rfl (XT.ii_ne_f hc159_17) k) ?_
            show Go p e below _ T1 (mkF m 162 #[.val (.int x0), .val (.int x1), .val (.int x2), .val (.int x3), .val (.int a), .val (.int fr), .val (.int b), .val (.int (0 : Int32)), .val (.ref (w 0)), .unset, .val (.int b), .val (.int a)] [])
            refine Go.of (fun _ k => XS.iload X1.here hx rfl (hb hby at_162) rfl k) ?_
            show Go p e below _ T1 (mkF m 164 #[.val (.int x0), .val (.int x1), .val (.int x2), .val (.int x3), .val (.int a), .val (.int fr), .val (.int b), .val (.int (0 : Int32)), .val (.ref (w 0)), .unset, .val (.int b), .val (.int a)] [(.int a)])
            refine Go.of (fun _ k => XS.goto X1.here hx rfl (pc0 := 164) (pc' := 171) rfl (hb hby at_164) (by decide) (by decide) k) ?_
            show Go p e below _ T1 (mkF m 171 #[.val (.int x0), .val (.int x1), .val (.int x2), .val (.int x3), .val (.int a), .val (.int fr), .val (.int b), .val (.int (0 : Int32)), .val (.ref (w 0)), .unset, .val (.int b), .val (.int a)] [(.int a)])
            refine Go.of (fun _ k => XS.istore X1.here hx rfl (hb hby at_171) rfl (l' := #[.val (.int x0), .val (.int x1), .val (.int x2), .val (.int x3), .val (.int a), .val (.int fr), .val (.int b), .val (.int (0 : Int32)), .val (.ref (w 0)), .val (.int a), .val (.int b), .val (.int a)]) rfl k) ?_
            show Go p e below _ T1 (mkF m 173 #[.val (.int x0), .val (.int x1), .val (.int x2), .val (.int x3), .val (.int a), .val (.int fr), .val (.int b), .val (.int (0 : Int32)), .val (.ref (w 0)), .val (.int a), .val (.int b), .val (.int a)] [])
            refine Go.of (fun _ k => XS.aload X1.here hx rfl (hb hby at_173) rfl rfl k) ?_
            show Go p e below _ T1 (mkF m 175 #[.val (.int x0), .val (.int x1), .val (.int x2), .val (.int x3), .val (.int a), .val (.int fr), .val (.int b), .val (.int (0 : Int32)), .val (.ref (w 0)), .val (.int a), .val (.int b), .val (.int a)] [(.ref (w 0))])
            refine Go.of (fun _ k => XS.iload X1.here hx rfl (hb hby at_175) rfl k) ?_
            show Go p e below _ T1 (mkF m 177 #[.val (.int x0), .val (.int x1), .val (.int x2), .val (.int x3), .val (.int a), .val (.int fr), .val (.int b), .val (.int (0 : Int32)), .val (.ref (w 0)), .val (.int a), .val (.int b), .val (.int a)] [(.int a), (.ref (w 0))])
            refine Go.of (fun _ k => XS.iload X1.here hx rfl (hb hby at_177) rfl k) ?_
            show Go p e below _ T1 (mkF m 179 #[.val (.int x0), .val (.int x1), .val (.int x2), .val (.int x3), .val (.int a), .val (.int fr), .val (.int b), .val (.int (0 : Int32)), .val (.ref (w 0)), .val (.int a), .val (.int b), .val (.int a)] [(.int b), (.int a), (.ref (w 0))])
            obtain ⟨T18, X18, e18, st18⟩ := own_pure rfl rfl (own_callVQ X1 hx hZ (y := (⟨"com/example/drawdown/drawdown/core/pricing/SplitRatingRule", "level", "(II)I"⟩ : MethodName)) hown (hw _ (List.mem_of_getElem? (i := 4) rfl)) (hw _ (List.mem_of_getElem? (i := 5) rfl)) (hw _ (List.mem_of_getElem? (i := 7) rfl)) (hw _ (List.mem_of_getElem? (i := 7) rfl)) (hw _ (List.mem_of_getElem? (i := 6) rfl)) (hw _ (List.mem_of_getElem? (i := 8) rfl)) (hw _ (List.mem_of_getElem? (i := 2) rfl)) (by decide) (c4_0 l Z a0 hw h0 (w 0) a b (Ex 0 (by decide)) (Fo 0 (by decide))) (by decide) 0 (by decide) (by decide) (by decide) e1 (Ex 0 (by decide)) (g := (mkF m 179 #[.val (.int x0), .val (.int x1), .val (.int x2), .val (.int x3), .val (.int a), .val (.int fr), .val (.int b), .val (.int (0 : Int32)), .val (.ref (w 0)), .val (.int a), .val (.int b), .val (.int a)] [(.int b), (.int a), (.ref (w 0))])) rfl (by rw [hml]; rfl) [(.int a), (.int b)] [] (lenOf (by decide +kernel : parseMethodDescriptor "(II)I" = some ⟨[.int, .int], some .int⟩) rfl) rfl (by show 2 * 0 + _ ≤ _; exact Nat.le_of_eq rfl) rfl (hb hby at_179))
            refine Go.of st18 ?_
            show Go p e below _ T18 (mkF m 182 #[.val (.int x0), .val (.int x1), .val (.int x2), .val (.int x3), .val (.int a), .val (.int fr), .val (.int b), .val (.int (0 : Int32)), .val (.ref (w 0)), .val (.int a), .val (.int b), .val (.int a)] [(.int (lvl (0 : Int32) a b))])
            refine Go.of (fun _ k => XS.istore X18.here hx rfl (hb hby at_182) rfl (l' := #[.val (.int x0), .val (.int x1), .val (.int x2), .val (.int x3), .val (.int a), .val (.int fr), .val (.int b), .val (.int (0 : Int32)), .val (.ref (w 0)), .val (.int a), .val (.int (lvl (0 : Int32) a b)), .val (.int a)]) rfl k) ?_
            show Go p e below _ T18 (mkF m 184 #[.val (.int x0), .val (.int x1), .val (.int x2), .val (.int x3), .val (.int a), .val (.int fr), .val (.int b), .val (.int (0 : Int32)), .val (.ref (w 0)), .val (.int a), .val (.int (lvl (0 : Int32) a b)), .val (.int a)] [])
            refine Go.of (fun _ k => XS.aload X18.here hx rfl (hb hby at_184) rfl rfl k) ?_
            show Go p e below _ T18 (mkF m 186 #[.val (.int x0), .val (.int x1), .val (.int x2), .val (.int x3), .val (.int a), .val (.int fr), .val (.int b), .val (.int (0 : Int32)), .val (.ref (w 0)), .val (.int a), .val (.int (lvl (0 : Int32) a b)), .val (.int a)] [(.ref (w 0))])
            refine Go.of (fun _ k => XS.iload X18.here hx rfl (hb hby at_186) rfl k) ?_
            show Go p e below _ T18 (mkF m 188 #[.val (.int x0), .val (.int x1), .val (.int x2), .val (.int x3), .val (.int a), .val (.int fr), .val (.int b), .val (.int (0 : Int32)), .val (.ref (w 0)), .val (.int a), .val (.int (lvl (0 : Int32) a b)), .val (.int a)] [(.int b), (.ref (w 0))])
            refine Go.of (fun _ k => XS.iload X18.here hx rfl (hb hby at_188) rfl k) ?_
            show Go p e below _ T18 (mkF m 190 #[.val (.int x0), .val (.int x1), .val (.int x2), .val (.int x3), .val (.int a), .val (.int fr), .val (.int b), .val (.int (0 : Int32)), .val (.ref (w 0)), .val (.int a), .val (.int (lvl (0 : Int32) a b)), .val (.int a)] [(.int a), (.int b), (.ref (w 0))])
            obtain ⟨T19, X19, e19, st19⟩ := own_pure rfl rfl (own_callVQ X18 hx hZ (y := (⟨"com/example/drawdown/drawdown/core/pricing/SplitRatingRule", "level", "(II)I"⟩ : MethodName)) hown (hw _ (List.mem_of_getElem? (i := 4) rfl)) (hw _ (List.mem_of_getElem? (i := 5) rfl)) (hw _ (List.mem_of_getElem? (i := 7) rfl)) (hw _ (List.mem_of_getElem? (i := 7) rfl)) (hw _ (List.mem_of_getElem? (i := 6) rfl)) (hw _ (List.mem_of_getElem? (i := 8) rfl)) (hw _ (List.mem_of_getElem? (i := 2) rfl)) (by decide) (c4_0 l Z a0 hw h0 (w 0) b a (Ex 0 (by decide)) (Fo 0 (by decide))) (by decide) 0 (by decide) (by decide) (by decide) e18 (Ex 0 (by decide)) (g := (mkF m 190 #[.val (.int x0), .val (.int x1), .val (.int x2), .val (.int x3), .val (.int a), .val (.int fr), .val (.int b), .val (.int (0 : Int32)), .val (.ref (w 0)), .val (.int a), .val (.int (lvl (0 : Int32) a b)), .val (.int a)] [(.int a), (.int b), (.ref (w 0))])) rfl (by rw [hml]; rfl) [(.int b), (.int a)] [] (lenOf (by decide +kernel : parseMethodDescriptor "(II)I" = some ⟨[.int, .int], some .int⟩) rfl) rfl (by show 2 * 0 + _ ≤ _; exact Nat.le_of_eq rfl) rfl (hb hby at_190))
            refine Go.of st19 ?_
            show Go p e below _ T19 (mkF m 193 #[.val (.int x0), .val (.int x1), .val (.int x2), .val (.int x3), .val (.int a), .val (.int fr), .val (.int b), .val (.int (0 : Int32)), .val (.ref (w 0)), .val (.int a), .val (.int (lvl (0 : Int32) a b)), .val (.int a)] [(.int (lvl (0 : Int32) b a))])
            refine Go.of (fun _ k => XS.istore X19.here hx rfl (hb hby at_193) rfl (l' := #[.val (.int x0), .val (.int x1), .val (.int x2), .val (.int x3), .val (.int a), .val (.int fr), .val (.int b), .val (.int (0 : Int32)), .val (.ref (w 0)), .val (.int a), .val (.int (lvl (0 : Int32) a b)), .val (.int (lvl (0 : Int32) b a))]) rfl k) ?_
            show Go p e below _ T19 (mkF m 195 #[.val (.int x0), .val (.int x1), .val (.int x2), .val (.int x3), .val (.int a), .val (.int fr), .val (.int b), .val (.int (0 : Int32)), .val (.ref (w 0)), .val (.int a), .val (.int (lvl (0 : Int32) a b)), .val (.int (lvl (0 : Int32) b a))] [])
            refine Go.of (fun _ k => XS.iload X19.here hx rfl (hb hby at_195) rfl k) ?_
            show Go p e below _ T19 (mkF m 197 #[.val (.int x0), .val (.int x1), .val (.int x2), .val (.int x3), .val (.int a), .val (.int fr), .val (.int b), .val (.int (0 : Int32)), .val (.ref (w 0)), .val (.int a), .val (.int (lvl (0 : Int32) a b)), .val (.int (lvl (0 : Int32) b a))] [(.int (lvl (0 : Int32) a b))])
            refine Go.of (fun _ k => XS.iload X19.here hx rfl (hb hby at_197) rfl k) ?_
            show Go p e below _ T19 (mkF m 199 #[.val (.int x0), .val (.int x1), .val (.int x2), .val (.int x3), .val (.int a), .val (.int fr), .val (.int b), .val (.int (0 : Int32)), .val (.ref (w 0)), .val (.int a), .val (.int (lvl (0 : Int32) a b)), .val (.int (lvl (0 : Int32) b a))] [(.int a), (.int (lvl (0 : Int32) a b))])
            have hc199_20 : (lvl (0 : Int32) a b) = a := ((lvl_lt Rb (own_gt hc83_2 hc97_7)).2.1.trans (if_pos hc159_17))
            refine Go.of (fun _ k => XS.icmpNo X19.here hx rfl (hb hby at_199) rfl (XT.ii_ne_f hc199_20) k) ?_
            show Go p e below _ T19 (mkF m 202 #[.val (.int x0), .val (.int x1), .val (.int x2), .val (.int x3), .val (.int a), .val (.int fr), .val (.int b), .val (.int (0 : Int32)), .val (.ref (w 0)), .val (.int a), .val (.int (lvl (0 : Int32) a b)), .val (.int (lvl (0 : Int32) b a))] [])
            refine Go.of (fun _ k => XS.iload X19.here hx rfl (hb hby at_202) rfl k) ?_
            show Go p e below _ T19 (mkF m 204 #[.val (.int x0), .val (.int x1), .val (.int x2), .val (.int x3), .val (.int a), .val (.int fr), .val (.int b), .val (.int (0 : Int32)), .val (.ref (w 0)), .val (.int a), .val (.int (lvl (0 : Int32) a b)), .val (.int (lvl (0 : Int32) b a))] [(.int (lvl (0 : Int32) b a))])
            refine Go.of (fun _ k => XS.iload X19.here hx rfl (hb hby at_204) rfl k) ?_
            show Go p e below _ T19 (mkF m 206 #[.val (.int x0), .val (.int x1), .val (.int x2), .val (.int x3), .val (.int a), .val (.int fr), .val (.int b), .val (.int (0 : Int32)), .val (.ref (w 0)), .val (.int a), .val (.int (lvl (0 : Int32) a b)), .val (.int (lvl (0 : Int32) b a))] [(.int a), (.int (lvl (0 : Int32) b a))])
            have hc206_21 : (lvl (0 : Int32) b a) = a := ((lvl_lt Rb (own_gt hc83_2 hc97_7)).1.trans (if_pos hc159_17))
            refine Go.of (fun _ k => XS.icmpNo X19.here hx rfl (hb hby at_206) rfl (XT.ii_ne_f hc206_21) k) ?_
            show Go p e below _ T19 (mkF m 209 #[.val (.int x0), .val (.int x1), .val (.int x2), .val (.int x3), .val (.int a), .val (.int fr), .val (.int b), .val (.int (0 : Int32)), .val (.ref (w 0)), .val (.int a), .val (.int (lvl (0 : Int32) a b)), .val (.int (lvl (0 : Int32) b a))] [])
            refine Go.of (fun _ k => XS.iconst X19.here hx rfl (hb hby at_209) k) ?_
            show Go p e below _ T19 (mkF m 210 #[.val (.int x0), .val (.int x1), .val (.int x2), .val (.int x3), .val (.int a), .val (.int fr), .val (.int b), .val (.int (0 : Int32)), .val (.ref (w 0)), .val (.int a), .val (.int (lvl (0 : Int32) a b)), .val (.int (lvl (0 : Int32) b a))] [(.int (1 : Int32))])
            refine Go.of (fun _ k => XS.goto X19.here hx rfl (pc0 := 210) (pc' := 214) rfl (hb hby at_210) (by decide) (by decide) k) ?_
            show Go p e below _ T19 (mkF m 214 #[.val (.int x0), .val (.int x1), .val (.int x2), .val (.int x3), .val (.int a), .val (.int fr), .val (.int b), .val (.int (0 : Int32)), .val (.ref (w 0)), .val (.int a), .val (.int (lvl (0 : Int32) a b)), .val (.int (lvl (0 : Int32) b a))] [(.int (1 : Int32))])
            exact own_retZ (z' := (1 : Int32)) X19 hx hlk hret (hb hby at_214) rfl ⟨rfl, N0⟩ (by decide) (by decide)
          ·
            refine Go.of (fun _ k => XS.icmpYes X1.here hx rfl (pc0 := 159) (pc' := 167) rfl (hb hby at_159) rfl (XT.ii_ne_t hc159_17) (by decide) (by decide) k) ?_
            show Go p e below _ T1 (mkF m 167 #[.val (.int x0), .val (.int x1), .val (.int x2), .val (.int x3), .val (.int a), .val (.int fr), .val (.int b), .val (.int (0 : Int32)), .val (.ref (w 0)), .unset, .val (.int b), .val (.int a)] [])
            refine Go.of (fun _ k => XS.iload X1.here hx rfl (hb hby at_167) rfl k) ?_
            show Go p e below _ T1 (mkF m 169 #[.val (.int x0), .val (.int x1), .val (.int x2), .val (.int x3), .val (.int a), .val (.int fr), .val (.int b), .val (.int (0 : Int32)), .val (.ref (w 0)), .unset, .val (.int b), .val (.int a)] [(.int a)])
            refine Go.of (fun _ k => XS.iconst X1.here hx rfl (hb hby at_169) k) ?_
            show Go p e below _ T1 (mkF m 170 #[.val (.int x0), .val (.int x1), .val (.int x2), .val (.int x3), .val (.int a), .val (.int fr), .val (.int b), .val (.int (0 : Int32)), .val (.ref (w 0)), .unset, .val (.int b), .val (.int a)] [(.int (1 : Int32)), (.int a)])
            refine Go.of (fun _ k => XS.isub X1.here hx rfl (hb hby at_170) rfl k) ?_
            show Go p e below _ T1 (mkF m 171 #[.val (.int x0), .val (.int x1), .val (.int x2), .val (.int x3), .val (.int a), .val (.int fr), .val (.int b), .val (.int (0 : Int32)), .val (.ref (w 0)), .unset, .val (.int b), .val (.int a)] [(.int (a - (1 : Int32)))])
            refine Go.of (fun _ k => XS.istore X1.here hx rfl (hb hby at_171) rfl (l' := #[.val (.int x0), .val (.int x1), .val (.int x2), .val (.int x3), .val (.int a), .val (.int fr), .val (.int b), .val (.int (0 : Int32)), .val (.ref (w 0)), .val (.int (a - (1 : Int32))), .val (.int b), .val (.int a)]) rfl k) ?_
            show Go p e below _ T1 (mkF m 173 #[.val (.int x0), .val (.int x1), .val (.int x2), .val (.int x3), .val (.int a), .val (.int fr), .val (.int b), .val (.int (0 : Int32)), .val (.ref (w 0)), .val (.int (a - (1 : Int32))), .val (.int b), .val (.int a)] [])
            refine Go.of (fun _ k => XS.aload X1.here hx rfl (hb hby at_173) rfl rfl k) ?_
            show Go p e below _ T1 (mkF m 175 #[.val (.int x0), .val (.int x1), .val (.int x2), .val (.int x3), .val (.int a), .val (.int fr), .val (.int b), .val (.int (0 : Int32)), .val (.ref (w 0)), .val (.int (a - (1 : Int32))), .val (.int b), .val (.int a)] [(.ref (w 0))])
            refine Go.of (fun _ k => XS.iload X1.here hx rfl (hb hby at_175) rfl k) ?_
            show Go p e below _ T1 (mkF m 177 #[.val (.int x0), .val (.int x1), .val (.int x2), .val (.int x3), .val (.int a), .val (.int fr), .val (.int b), .val (.int (0 : Int32)), .val (.ref (w 0)), .val (.int (a - (1 : Int32))), .val (.int b), .val (.int a)] [(.int a), (.ref (w 0))])
            refine Go.of (fun _ k => XS.iload X1.here hx rfl (hb hby at_177) rfl k) ?_
            show Go p e below _ T1 (mkF m 179 #[.val (.int x0), .val (.int x1), .val (.int x2), .val (.int x3), .val (.int a), .val (.int fr), .val (.int b), .val (.int (0 : Int32)), .val (.ref (w 0)), .val (.int (a - (1 : Int32))), .val (.int b), .val (.int a)] [(.int b), (.int a), (.ref (w 0))])
            obtain ⟨T22, X22, e22, st22⟩ := own_pure rfl rfl (own_callVQ X1 hx hZ (y := (⟨"com/example/drawdown/drawdown/core/pricing/SplitRatingRule", "level", "(II)I"⟩ : MethodName)) hown (hw _ (List.mem_of_getElem? (i := 4) rfl)) (hw _ (List.mem_of_getElem? (i := 5) rfl)) (hw _ (List.mem_of_getElem? (i := 7) rfl)) (hw _ (List.mem_of_getElem? (i := 7) rfl)) (hw _ (List.mem_of_getElem? (i := 6) rfl)) (hw _ (List.mem_of_getElem? (i := 8) rfl)) (hw _ (List.mem_of_getElem? (i := 2) rfl)) (by decide) (c4_0 l Z a0 hw h0 (w 0) a b (Ex 0 (by decide)) (Fo 0 (by decide))) (by decide) 0 (by decide) (by decide) (by decide) e1 (Ex 0 (by decide)) (g := (mkF m 179 #[.val (.int x0), .val (.int x1), .val (.int x2), .val (.int x3), .val (.int a), .val (.int fr), .val (.int b), .val (.int (0 : Int32)), .val (.ref (w 0)), .val (.int (a - (1 : Int32))), .val (.int b), .val (.int a)] [(.int b), (.int a), (.ref (w 0))])) rfl (by rw [hml]; rfl) [(.int a), (.int b)] [] (lenOf (by decide +kernel : parseMethodDescriptor "(II)I" = some ⟨[.int, .int], some .int⟩) rfl) rfl (by show 2 * 0 + _ ≤ _; exact Nat.le_of_eq rfl) rfl (hb hby at_179))
            refine Go.of st22 ?_
            show Go p e below _ T22 (mkF m 182 #[.val (.int x0), .val (.int x1), .val (.int x2), .val (.int x3), .val (.int a), .val (.int fr), .val (.int b), .val (.int (0 : Int32)), .val (.ref (w 0)), .val (.int (a - (1 : Int32))), .val (.int b), .val (.int a)] [(.int (lvl (0 : Int32) a b))])
            refine Go.of (fun _ k => XS.istore X22.here hx rfl (hb hby at_182) rfl (l' := #[.val (.int x0), .val (.int x1), .val (.int x2), .val (.int x3), .val (.int a), .val (.int fr), .val (.int b), .val (.int (0 : Int32)), .val (.ref (w 0)), .val (.int (a - (1 : Int32))), .val (.int (lvl (0 : Int32) a b)), .val (.int a)]) rfl k) ?_
            show Go p e below _ T22 (mkF m 184 #[.val (.int x0), .val (.int x1), .val (.int x2), .val (.int x3), .val (.int a), .val (.int fr), .val (.int b), .val (.int (0 : Int32)), .val (.ref (w 0)), .val (.int (a - (1 : Int32))), .val (.int (lvl (0 : Int32) a b)), .val (.int a)] [])
            refine Go.of (fun _ k => XS.aload X22.here hx rfl (hb hby at_184) rfl rfl k) ?_
            show Go p e below _ T22 (mkF m 186 #[.val (.int x0), .val (.int x1), .val (.int x2), .val (.int x3), .val (.int a), .val (.int fr), .val (.int b), .val (.int (0 : Int32)), .val (.ref (w 0)), .val (.int (a - (1 : Int32))), .val (.int (lvl (0 : Int32) a b)), .val (.int a)] [(.ref (w 0))])
            refine Go.of (fun _ k => XS.iload X22.here hx rfl (hb hby at_186) rfl k) ?_
            show Go p e below _ T22 (mkF m 188 #[.val (.int x0), .val (.int x1), .val (.int x2), .val (.int x3), .val (.int a), .val (.int fr), .val (.int b), .val (.int (0 : Int32)), .val (.ref (w 0)), .val (.int (a - (1 : Int32))), .val (.int (lvl (0 : Int32) a b)), .val (.int a)] [(.int b), (.ref (w 0))])
            refine Go.of (fun _ k => XS.iload X22.here hx rfl (hb hby at_188) rfl k) ?_
            show Go p e below _ T22 (mkF m 190 #[.val (.int x0), .val (.int x1), .val (.int x2), .val (.int x3), .val (.int a), .val (.int fr), .val (.int b), .val (.int (0 : Int32)), .val (.ref (w 0)), .val (.int (a - (1 : Int32))), .val (.int (lvl (0 : Int32) a b)), .val (.int a)] [(.int a), (.int b), (.ref (w 0))])
            obtain ⟨T23, X23, e23, st23⟩ := own_pure rfl rfl (own_callVQ X22 hx hZ (y := (⟨"com/example/drawdown/drawdown/core/pricing/SplitRatingRule", "level", "(II)I"⟩ : MethodName)) hown (hw _ (List.mem_of_getElem? (i := 4) rfl)) (hw _ (List.mem_of_getElem? (i := 5) rfl)) (hw _ (List.mem_of_getElem? (i := 7) rfl)) (hw _ (List.mem_of_getElem? (i := 7) rfl)) (hw _ (List.mem_of_getElem? (i := 6) rfl)) (hw _ (List.mem_of_getElem? (i := 8) rfl)) (hw _ (List.mem_of_getElem? (i := 2) rfl)) (by decide) (c4_0 l Z a0 hw h0 (w 0) b a (Ex 0 (by decide)) (Fo 0 (by decide))) (by decide) 0 (by decide) (by decide) (by decide) e22 (Ex 0 (by decide)) (g := (mkF m 190 #[.val (.int x0), .val (.int x1), .val (.int x2), .val (.int x3), .val (.int a), .val (.int fr), .val (.int b), .val (.int (0 : Int32)), .val (.ref (w 0)), .val (.int (a - (1 : Int32))), .val (.int (lvl (0 : Int32) a b)), .val (.int a)] [(.int a), (.int b), (.ref (w 0))])) rfl (by rw [hml]; rfl) [(.int b), (.int a)] [] (lenOf (by decide +kernel : parseMethodDescriptor "(II)I" = some ⟨[.int, .int], some .int⟩) rfl) rfl (by show 2 * 0 + _ ≤ _; exact Nat.le_of_eq rfl) rfl (hb hby at_190))
            refine Go.of st23 ?_
            show Go p e below _ T23 (mkF m 193 #[.val (.int x0), .val (.int x1), .val (.int x2), .val (.int x3), .val (.int a), .val (.int fr), .val (.int b), .val (.int (0 : Int32)), .val (.ref (w 0)), .val (.int (a - (1 : Int32))), .val (.int (lvl (0 : Int32) a b)), .val (.int a)] [(.int (lvl (0 : Int32) b a))])
            refine Go.of (fun _ k => XS.istore X23.here hx rfl (hb hby at_193) rfl (l' := #[.val (.int x0), .val (.int x1), .val (.int x2), .val (.int x3), .val (.int a), .val (.int fr), .val (.int b), .val (.int (0 : Int32)), .val (.ref (w 0)), .val (.int (a - (1 : Int32))), .val (.int (lvl (0 : Int32) a b)), .val (.int (lvl (0 : Int32) b a))]) rfl k) ?_
            show Go p e below _ T23 (mkF m 195 #[.val (.int x0), .val (.int x1), .val (.int x2), .val (.int x3), .val (.int a), .val (.int fr), .val (.int b), .val (.int (0 : Int32)), .val (.ref (w 0)), .val (.int (a - (1 : Int32))), .val (.int (lvl (0 : Int32) a b)), .val (.int (lvl (0 : Int32) b a))] [])
            refine Go.of (fun _ k => XS.iload X23.here hx rfl (hb hby at_195) rfl k) ?_
            show Go p e below _ T23 (mkF m 197 #[.val (.int x0), .val (.int x1), .val (.int x2), .val (.int x3), .val (.int a), .val (.int fr), .val (.int b), .val (.int (0 : Int32)), .val (.ref (w 0)), .val (.int (a - (1 : Int32))), .val (.int (lvl (0 : Int32) a b)), .val (.int (lvl (0 : Int32) b a))] [(.int (lvl (0 : Int32) a b))])
            refine Go.of (fun _ k => XS.iload X23.here hx rfl (hb hby at_197) rfl k) ?_
            show Go p e below _ T23 (mkF m 199 #[.val (.int x0), .val (.int x1), .val (.int x2), .val (.int x3), .val (.int a), .val (.int fr), .val (.int b), .val (.int (0 : Int32)), .val (.ref (w 0)), .val (.int (a - (1 : Int32))), .val (.int (lvl (0 : Int32) a b)), .val (.int (lvl (0 : Int32) b a))] [(.int (a - (1 : Int32))), (.int (lvl (0 : Int32) a b))])
            have hc199_24 : (lvl (0 : Int32) a b) = (a - (1 : Int32)) := ((lvl_lt Rb (own_gt hc83_2 hc97_7)).2.1.trans (if_neg hc159_17))
            refine Go.of (fun _ k => XS.icmpNo X23.here hx rfl (hb hby at_199) rfl (XT.ii_ne_f hc199_24) k) ?_
            show Go p e below _ T23 (mkF m 202 #[.val (.int x0), .val (.int x1), .val (.int x2), .val (.int x3), .val (.int a), .val (.int fr), .val (.int b), .val (.int (0 : Int32)), .val (.ref (w 0)), .val (.int (a - (1 : Int32))), .val (.int (lvl (0 : Int32) a b)), .val (.int (lvl (0 : Int32) b a))] [])
            refine Go.of (fun _ k => XS.iload X23.here hx rfl (hb hby at_202) rfl k) ?_
            show Go p e below _ T23 (mkF m 204 #[.val (.int x0), .val (.int x1), .val (.int x2), .val (.int x3), .val (.int a), .val (.int fr), .val (.int b), .val (.int (0 : Int32)), .val (.ref (w 0)), .val (.int (a - (1 : Int32))), .val (.int (lvl (0 : Int32) a b)), .val (.int (lvl (0 : Int32) b a))] [(.int (lvl (0 : Int32) b a))])
            refine Go.of (fun _ k => XS.iload X23.here hx rfl (hb hby at_204) rfl k) ?_
            show Go p e below _ T23 (mkF m 206 #[.val (.int x0), .val (.int x1), .val (.int x2), .val (.int x3), .val (.int a), .val (.int fr), .val (.int b), .val (.int (0 : Int32)), .val (.ref (w 0)), .val (.int (a - (1 : Int32))), .val (.int (lvl (0 : Int32) a b)), .val (.int (lvl (0 : Int32) b a))] [(.int (a - (1 : Int32))), (.int (lvl (0 : Int32) b a))])
            have hc206_25 : (lvl (0 : Int32) b a) = (a - (1 : Int32)) := ((lvl_lt Rb (own_gt hc83_2 hc97_7)).1.trans (if_neg hc159_17))
            refine Go.of (fun _ k => XS.icmpNo X23.here hx rfl (hb hby at_206) rfl (XT.ii_ne_f hc206_25) k) ?_
            show Go p e below _ T23 (mkF m 209 #[.val (.int x0), .val (.int x1), .val (.int x2), .val (.int x3), .val (.int a), .val (.int fr), .val (.int b), .val (.int (0 : Int32)), .val (.ref (w 0)), .val (.int (a - (1 : Int32))), .val (.int (lvl (0 : Int32) a b)), .val (.int (lvl (0 : Int32) b a))] [])
            refine Go.of (fun _ k => XS.iconst X23.here hx rfl (hb hby at_209) k) ?_
            show Go p e below _ T23 (mkF m 210 #[.val (.int x0), .val (.int x1), .val (.int x2), .val (.int x3), .val (.int a), .val (.int fr), .val (.int b), .val (.int (0 : Int32)), .val (.ref (w 0)), .val (.int (a - (1 : Int32))), .val (.int (lvl (0 : Int32) a b)), .val (.int (lvl (0 : Int32) b a))] [(.int (1 : Int32))])
            refine Go.of (fun _ k => XS.goto X23.here hx rfl (pc0 := 210) (pc' := 214) rfl (hb hby at_210) (by decide) (by decide) k) ?_
            show Go p e below _ T23 (mkF m 214 #[.val (.int x0), .val (.int x1), .val (.int x2), .val (.int x3), .val (.int a), .val (.int fr), .val (.int b), .val (.int (0 : Int32)), .val (.ref (w 0)), .val (.int (a - (1 : Int32))), .val (.int (lvl (0 : Int32) a b)), .val (.int (lvl (0 : Int32) b a))] [(.int (1 : Int32))])
            exact own_retZ (z' := (1 : Int32)) X23 hx hlk hret (hb hby at_214) rfl ⟨rfl, N0⟩ (by decide) (by decide)
    ·
      show Go p e below _ s₁ (mkF m 47 #[.val (.int x0), .val (.int x1), .val (.int x2), .val (.int x3), .val (.int a), .val (.int fr), .val (.int b), .val (.int (1 : Int32)), .unset, .unset, .unset, .unset] [])
      refine Go.of (fun _ k => XS.iload X0.here hx rfl (hb hby at_47) rfl k) ?_
      show Go p e below _ s₁ (mkF m 49 #[.val (.int x0), .val (.int x1), .val (.int x2), .val (.int x3), .val (.int a), .val (.int fr), .val (.int b), .val (.int (1 : Int32)), .unset, .unset, .unset, .unset] [(.int (1 : Int32))])
      refine Go.of (fun _ k => XS.ifYes X0.here hx rfl (pc0 := 49) (pc' := 60) rfl (hb hby at_49) rfl (XT.i0_ne_t (by decide)) (by decide) (by decide) k) ?_
      show Go p e below _ s₁ (mkF m 60 #[.val (.int x0), .val (.int x1), .val (.int x2), .val (.int x3), .val (.int a), .val (.int fr), .val (.int b), .val (.int (1 : Int32)), .unset, .unset, .unset, .unset] [])
      refine Go.of (fun _ k => XS.iload X0.here hx rfl (hb hby at_60) rfl k) ?_
      show Go p e below _ s₁ (mkF m 62 #[.val (.int x0), .val (.int x1), .val (.int x2), .val (.int x3), .val (.int a), .val (.int fr), .val (.int b), .val (.int (1 : Int32)), .unset, .unset, .unset, .unset] [(.int (1 : Int32))])
      refine Go.of (fun _ k => XS.iconst X0.here hx rfl (hb hby at_62) k) ?_
      show Go p e below _ s₁ (mkF m 63 #[.val (.int x0), .val (.int x1), .val (.int x2), .val (.int x3), .val (.int a), .val (.int fr), .val (.int b), .val (.int (1 : Int32)), .unset, .unset, .unset, .unset] [(.int (1 : Int32)), (.int (1 : Int32))])
      refine Go.of (fun _ k => XS.icmpNo X0.here hx rfl (hb hby at_63) rfl (XT.ii_ne_f (by decide)) k) ?_
      show Go p e below _ s₁ (mkF m 66 #[.val (.int x0), .val (.int x1), .val (.int x2), .val (.int x3), .val (.int a), .val (.int fr), .val (.int b), .val (.int (1 : Int32)), .unset, .unset, .unset, .unset] [])
      obtain ⟨T26, X26, e26, st26⟩ := getS2 X0 hx hZ hown (host := "") (Or.inl (hw _ (List.mem_of_getElem? (i := 1) rfl))) Via.refl e0 S1 (g := (mkF m 66 #[.val (.int x0), .val (.int x1), .val (.int x2), .val (.int x3), .val (.int a), .val (.int fr), .val (.int b), .val (.int (1 : Int32)), .unset, .unset, .unset, .unset] [])) rfl (hb hby at_66)
      refine Go.of st26 ?_
      show Go p e below _ T26 (mkF m 69 #[.val (.int x0), .val (.int x1), .val (.int x2), .val (.int x3), .val (.int a), .val (.int fr), .val (.int b), .val (.int (1 : Int32)), .unset, .unset, .unset, .unset] [(.ref (w 1))])
      refine Go.of (fun _ k => XS.astore X26.here hx rfl (hb hby at_69) rfl rfl (l' := #[.val (.int x0), .val (.int x1), .val (.int x2), .val (.int x3), .val (.int a), .val (.int fr), .val (.int b), .val (.int (1 : Int32)), .val (.ref (w 1)), .unset, .unset, .unset]) rfl k) ?_
      show Go p e below _ T26 (mkF m 71 #[.val (.int x0), .val (.int x1), .val (.int x2), .val (.int x3), .val (.int a), .val (.int fr), .val (.int b), .val (.int (1 : Int32)), .val (.ref (w 1)), .unset, .unset, .unset] [])
      refine Go.of (fun _ k => XS.goto X26.here hx rfl (pc0 := 71) (pc' := 79) rfl (hb hby at_71) (by decide) (by decide) k) ?_
      show Go p e below _ T26 (mkF m 79 #[.val (.int x0), .val (.int x1), .val (.int x2), .val (.int x3), .val (.int a), .val (.int fr), .val (.int b), .val (.int (1 : Int32)), .val (.ref (w 1)), .unset, .unset, .unset] [])
      refine Go.of (fun _ k => XS.iload X26.here hx rfl (hb hby at_79) rfl k) ?_
      show Go p e below _ T26 (mkF m 81 #[.val (.int x0), .val (.int x1), .val (.int x2), .val (.int x3), .val (.int a), .val (.int fr), .val (.int b), .val (.int (1 : Int32)), .val (.ref (w 1)), .unset, .unset, .unset] [(.int a)])
      refine Go.of (fun _ k => XS.iload X26.here hx rfl (hb hby at_81) rfl k) ?_
      show Go p e below _ T26 (mkF m 83 #[.val (.int x0), .val (.int x1), .val (.int x2), .val (.int x3), .val (.int a), .val (.int fr), .val (.int b), .val (.int (1 : Int32)), .val (.ref (w 1)), .unset, .unset, .unset] [(.int b), (.int a)])
      by_cases hc83_27 : a = b
      ·
        refine Go.of (fun _ k => XS.icmpNo X26.here hx rfl (hb hby at_83) rfl (XT.ii_ne_f hc83_27) k) ?_
        show Go p e below _ T26 (mkF m 86 #[.val (.int x0), .val (.int x1), .val (.int x2), .val (.int x3), .val (.int a), .val (.int fr), .val (.int b), .val (.int (1 : Int32)), .val (.ref (w 1)), .unset, .unset, .unset] [])
        refine Go.of (fun _ k => XS.iload X26.here hx rfl (hb hby at_86) rfl k) ?_
        show Go p e below _ T26 (mkF m 88 #[.val (.int x0), .val (.int x1), .val (.int x2), .val (.int x3), .val (.int a), .val (.int fr), .val (.int b), .val (.int (1 : Int32)), .val (.ref (w 1)), .unset, .unset, .unset] [(.int a)])
        refine Go.of (fun _ k => XS.istore X26.here hx rfl (hb hby at_88) rfl (l' := #[.val (.int x0), .val (.int x1), .val (.int x2), .val (.int x3), .val (.int a), .val (.int fr), .val (.int b), .val (.int (1 : Int32)), .val (.ref (w 1)), .val (.int a), .unset, .unset]) rfl k) ?_
        show Go p e below _ T26 (mkF m 90 #[.val (.int x0), .val (.int x1), .val (.int x2), .val (.int x3), .val (.int a), .val (.int fr), .val (.int b), .val (.int (1 : Int32)), .val (.ref (w 1)), .val (.int a), .unset, .unset] [])
        refine Go.of (fun _ k => XS.goto X26.here hx rfl (pc0 := 90) (pc' := 173) rfl (hb hby at_90) (by decide) (by decide) k) ?_
        show Go p e below _ T26 (mkF m 173 #[.val (.int x0), .val (.int x1), .val (.int x2), .val (.int x3), .val (.int a), .val (.int fr), .val (.int b), .val (.int (1 : Int32)), .val (.ref (w 1)), .val (.int a), .unset, .unset] [])
        refine Go.of (fun _ k => XS.aload X26.here hx rfl (hb hby at_173) rfl rfl k) ?_
        show Go p e below _ T26 (mkF m 175 #[.val (.int x0), .val (.int x1), .val (.int x2), .val (.int x3), .val (.int a), .val (.int fr), .val (.int b), .val (.int (1 : Int32)), .val (.ref (w 1)), .val (.int a), .unset, .unset] [(.ref (w 1))])
        refine Go.of (fun _ k => XS.iload X26.here hx rfl (hb hby at_175) rfl k) ?_
        show Go p e below _ T26 (mkF m 177 #[.val (.int x0), .val (.int x1), .val (.int x2), .val (.int x3), .val (.int a), .val (.int fr), .val (.int b), .val (.int (1 : Int32)), .val (.ref (w 1)), .val (.int a), .unset, .unset] [(.int a), (.ref (w 1))])
        refine Go.of (fun _ k => XS.iload X26.here hx rfl (hb hby at_177) rfl k) ?_
        show Go p e below _ T26 (mkF m 179 #[.val (.int x0), .val (.int x1), .val (.int x2), .val (.int x3), .val (.int a), .val (.int fr), .val (.int b), .val (.int (1 : Int32)), .val (.ref (w 1)), .val (.int a), .unset, .unset] [(.int b), (.int a), (.ref (w 1))])
        obtain ⟨T28, X28, e28, st28⟩ := own_pure rfl rfl (own_callVQ X26 hx hZ (y := (⟨"com/example/drawdown/drawdown/core/pricing/SplitRatingRule", "level", "(II)I"⟩ : MethodName)) hown (hw _ (List.mem_of_getElem? (i := 4) rfl)) (hw _ (List.mem_of_getElem? (i := 5) rfl)) (hw _ (List.mem_of_getElem? (i := 7) rfl)) (hw _ (List.mem_of_getElem? (i := 7) rfl)) (hw _ (List.mem_of_getElem? (i := 6) rfl)) (hw _ (List.mem_of_getElem? (i := 8) rfl)) (hw _ (List.mem_of_getElem? (i := 2) rfl)) (by decide) (c4_1 l Z a0 hw h0 (w 1) a b (Ex 1 (by decide)) (Fo 1 (by decide))) (by decide) 0 (by decide) (by decide) (by decide) e26 (Ex 1 (by decide)) (g := (mkF m 179 #[.val (.int x0), .val (.int x1), .val (.int x2), .val (.int x3), .val (.int a), .val (.int fr), .val (.int b), .val (.int (1 : Int32)), .val (.ref (w 1)), .val (.int a), .unset, .unset] [(.int b), (.int a), (.ref (w 1))])) rfl (by rw [hml]; rfl) [(.int a), (.int b)] [] (lenOf (by decide +kernel : parseMethodDescriptor "(II)I" = some ⟨[.int, .int], some .int⟩) rfl) rfl (by show 2 * 0 + _ ≤ _; exact Nat.le_of_eq rfl) rfl (hb hby at_179))
        refine Go.of st28 ?_
        show Go p e below _ T28 (mkF m 182 #[.val (.int x0), .val (.int x1), .val (.int x2), .val (.int x3), .val (.int a), .val (.int fr), .val (.int b), .val (.int (1 : Int32)), .val (.ref (w 1)), .val (.int a), .unset, .unset] [(.int (lvl (1 : Int32) a b))])
        refine Go.of (fun _ k => XS.istore X28.here hx rfl (hb hby at_182) rfl (l' := #[.val (.int x0), .val (.int x1), .val (.int x2), .val (.int x3), .val (.int a), .val (.int fr), .val (.int b), .val (.int (1 : Int32)), .val (.ref (w 1)), .val (.int a), .val (.int (lvl (1 : Int32) a b)), .unset]) rfl k) ?_
        show Go p e below _ T28 (mkF m 184 #[.val (.int x0), .val (.int x1), .val (.int x2), .val (.int x3), .val (.int a), .val (.int fr), .val (.int b), .val (.int (1 : Int32)), .val (.ref (w 1)), .val (.int a), .val (.int (lvl (1 : Int32) a b)), .unset] [])
        refine Go.of (fun _ k => XS.aload X28.here hx rfl (hb hby at_184) rfl rfl k) ?_
        show Go p e below _ T28 (mkF m 186 #[.val (.int x0), .val (.int x1), .val (.int x2), .val (.int x3), .val (.int a), .val (.int fr), .val (.int b), .val (.int (1 : Int32)), .val (.ref (w 1)), .val (.int a), .val (.int (lvl (1 : Int32) a b)), .unset] [(.ref (w 1))])
        refine Go.of (fun _ k => XS.iload X28.here hx rfl (hb hby at_186) rfl k) ?_
        show Go p e below _ T28 (mkF m 188 #[.val (.int x0), .val (.int x1), .val (.int x2), .val (.int x3), .val (.int a), .val (.int fr), .val (.int b), .val (.int (1 : Int32)), .val (.ref (w 1)), .val (.int a), .val (.int (lvl (1 : Int32) a b)), .unset] [(.int b), (.ref (w 1))])
        refine Go.of (fun _ k => XS.iload X28.here hx rfl (hb hby at_188) rfl k) ?_
        show Go p e below _ T28 (mkF m 190 #[.val (.int x0), .val (.int x1), .val (.int x2), .val (.int x3), .val (.int a), .val (.int fr), .val (.int b), .val (.int (1 : Int32)), .val (.ref (w 1)), .val (.int a), .val (.int (lvl (1 : Int32) a b)), .unset] [(.int a), (.int b), (.ref (w 1))])
        obtain ⟨T29, X29, e29, st29⟩ := own_pure rfl rfl (own_callVQ X28 hx hZ (y := (⟨"com/example/drawdown/drawdown/core/pricing/SplitRatingRule", "level", "(II)I"⟩ : MethodName)) hown (hw _ (List.mem_of_getElem? (i := 4) rfl)) (hw _ (List.mem_of_getElem? (i := 5) rfl)) (hw _ (List.mem_of_getElem? (i := 7) rfl)) (hw _ (List.mem_of_getElem? (i := 7) rfl)) (hw _ (List.mem_of_getElem? (i := 6) rfl)) (hw _ (List.mem_of_getElem? (i := 8) rfl)) (hw _ (List.mem_of_getElem? (i := 2) rfl)) (by decide) (c4_1 l Z a0 hw h0 (w 1) b a (Ex 1 (by decide)) (Fo 1 (by decide))) (by decide) 0 (by decide) (by decide) (by decide) e28 (Ex 1 (by decide)) (g := (mkF m 190 #[.val (.int x0), .val (.int x1), .val (.int x2), .val (.int x3), .val (.int a), .val (.int fr), .val (.int b), .val (.int (1 : Int32)), .val (.ref (w 1)), .val (.int a), .val (.int (lvl (1 : Int32) a b)), .unset] [(.int a), (.int b), (.ref (w 1))])) rfl (by rw [hml]; rfl) [(.int b), (.int a)] [] (lenOf (by decide +kernel : parseMethodDescriptor "(II)I" = some ⟨[.int, .int], some .int⟩) rfl) rfl (by show 2 * 0 + _ ≤ _; exact Nat.le_of_eq rfl) rfl (hb hby at_190))
        refine Go.of st29 ?_
        show Go p e below _ T29 (mkF m 193 #[.val (.int x0), .val (.int x1), .val (.int x2), .val (.int x3), .val (.int a), .val (.int fr), .val (.int b), .val (.int (1 : Int32)), .val (.ref (w 1)), .val (.int a), .val (.int (lvl (1 : Int32) a b)), .unset] [(.int (lvl (1 : Int32) b a))])
        refine Go.of (fun _ k => XS.istore X29.here hx rfl (hb hby at_193) rfl (l' := #[.val (.int x0), .val (.int x1), .val (.int x2), .val (.int x3), .val (.int a), .val (.int fr), .val (.int b), .val (.int (1 : Int32)), .val (.ref (w 1)), .val (.int a), .val (.int (lvl (1 : Int32) a b)), .val (.int (lvl (1 : Int32) b a))]) rfl k) ?_
        show Go p e below _ T29 (mkF m 195 #[.val (.int x0), .val (.int x1), .val (.int x2), .val (.int x3), .val (.int a), .val (.int fr), .val (.int b), .val (.int (1 : Int32)), .val (.ref (w 1)), .val (.int a), .val (.int (lvl (1 : Int32) a b)), .val (.int (lvl (1 : Int32) b a))] [])
        refine Go.of (fun _ k => XS.iload X29.here hx rfl (hb hby at_195) rfl k) ?_
        show Go p e below _ T29 (mkF m 197 #[.val (.int x0), .val (.int x1), .val (.int x2), .val (.int x3), .val (.int a), .val (.int fr), .val (.int b), .val (.int (1 : Int32)), .val (.ref (w 1)), .val (.int a), .val (.int (lvl (1 : Int32) a b)), .val (.int (lvl (1 : Int32) b a))] [(.int (lvl (1 : Int32) a b))])
        refine Go.of (fun _ k => XS.iload X29.here hx rfl (hb hby at_197) rfl k) ?_
        show Go p e below _ T29 (mkF m 199 #[.val (.int x0), .val (.int x1), .val (.int x2), .val (.int x3), .val (.int a), .val (.int fr), .val (.int b), .val (.int (1 : Int32)), .val (.ref (w 1)), .val (.int a), .val (.int (lvl (1 : Int32) a b)), .val (.int (lvl (1 : Int32) b a))] [(.int a), (.int (lvl (1 : Int32) a b))])
        have hc199_30 : (lvl (1 : Int32) a b) = a := (by rw [← hc83_27]; exact (lvl_eq a).2.1)
        refine Go.of (fun _ k => XS.icmpNo X29.here hx rfl (hb hby at_199) rfl (XT.ii_ne_f hc199_30) k) ?_
        show Go p e below _ T29 (mkF m 202 #[.val (.int x0), .val (.int x1), .val (.int x2), .val (.int x3), .val (.int a), .val (.int fr), .val (.int b), .val (.int (1 : Int32)), .val (.ref (w 1)), .val (.int a), .val (.int (lvl (1 : Int32) a b)), .val (.int (lvl (1 : Int32) b a))] [])
        refine Go.of (fun _ k => XS.iload X29.here hx rfl (hb hby at_202) rfl k) ?_
        show Go p e below _ T29 (mkF m 204 #[.val (.int x0), .val (.int x1), .val (.int x2), .val (.int x3), .val (.int a), .val (.int fr), .val (.int b), .val (.int (1 : Int32)), .val (.ref (w 1)), .val (.int a), .val (.int (lvl (1 : Int32) a b)), .val (.int (lvl (1 : Int32) b a))] [(.int (lvl (1 : Int32) b a))])
        refine Go.of (fun _ k => XS.iload X29.here hx rfl (hb hby at_204) rfl k) ?_
        show Go p e below _ T29 (mkF m 206 #[.val (.int x0), .val (.int x1), .val (.int x2), .val (.int x3), .val (.int a), .val (.int fr), .val (.int b), .val (.int (1 : Int32)), .val (.ref (w 1)), .val (.int a), .val (.int (lvl (1 : Int32) a b)), .val (.int (lvl (1 : Int32) b a))] [(.int a), (.int (lvl (1 : Int32) b a))])
        have hc206_31 : (lvl (1 : Int32) b a) = a := (by rw [← hc83_27]; exact (lvl_eq a).2.1)
        refine Go.of (fun _ k => XS.icmpNo X29.here hx rfl (hb hby at_206) rfl (XT.ii_ne_f hc206_31) k) ?_
        show Go p e below _ T29 (mkF m 209 #[.val (.int x0), .val (.int x1), .val (.int x2), .val (.int x3), .val (.int a), .val (.int fr), .val (.int b), .val (.int (1 : Int32)), .val (.ref (w 1)), .val (.int a), .val (.int (lvl (1 : Int32) a b)), .val (.int (lvl (1 : Int32) b a))] [])
        refine Go.of (fun _ k => XS.iconst X29.here hx rfl (hb hby at_209) k) ?_
        show Go p e below _ T29 (mkF m 210 #[.val (.int x0), .val (.int x1), .val (.int x2), .val (.int x3), .val (.int a), .val (.int fr), .val (.int b), .val (.int (1 : Int32)), .val (.ref (w 1)), .val (.int a), .val (.int (lvl (1 : Int32) a b)), .val (.int (lvl (1 : Int32) b a))] [(.int (1 : Int32))])
        refine Go.of (fun _ k => XS.goto X29.here hx rfl (pc0 := 210) (pc' := 214) rfl (hb hby at_210) (by decide) (by decide) k) ?_
        show Go p e below _ T29 (mkF m 214 #[.val (.int x0), .val (.int x1), .val (.int x2), .val (.int x3), .val (.int a), .val (.int fr), .val (.int b), .val (.int (1 : Int32)), .val (.ref (w 1)), .val (.int a), .val (.int (lvl (1 : Int32) a b)), .val (.int (lvl (1 : Int32) b a))] [(.int (1 : Int32))])
        exact own_retZ (z' := (1 : Int32)) X29 hx hlk hret (hb hby at_214) rfl ⟨rfl, N0⟩ (by decide) (by decide)
      ·
        refine Go.of (fun _ k => XS.icmpYes X26.here hx rfl (pc0 := 83) (pc' := 93) rfl (hb hby at_83) rfl (XT.ii_ne_t hc83_27) (by decide) (by decide) k) ?_
        show Go p e below _ T26 (mkF m 93 #[.val (.int x0), .val (.int x1), .val (.int x2), .val (.int x3), .val (.int a), .val (.int fr), .val (.int b), .val (.int (1 : Int32)), .val (.ref (w 1)), .unset, .unset, .unset] [])
        refine Go.of (fun _ k => XS.iload X26.here hx rfl (hb hby at_93) rfl k) ?_
        show Go p e below _ T26 (mkF m 95 #[.val (.int x0), .val (.int x1), .val (.int x2), .val (.int x3), .val (.int a), .val (.int fr), .val (.int b), .val (.int (1 : Int32)), .val (.ref (w 1)), .unset, .unset, .unset] [(.int a)])
        refine Go.of (fun _ k => XS.iload X26.here hx rfl (hb hby at_95) rfl k) ?_
        show Go p e below _ T26 (mkF m 97 #[.val (.int x0), .val (.int x1), .val (.int x2), .val (.int x3), .val (.int a), .val (.int fr), .val (.int b), .val (.int (1 : Int32)), .val (.ref (w 1)), .unset, .unset, .unset] [(.int b), (.int a)])
        by_cases hc97_32 : a < b
        ·
          refine Go.of (fun _ k => XS.icmpNo X26.here hx rfl (hb hby at_97) rfl (XT.ii_ge_f hc97_32) k) ?_
          show Go p e below _ T26 (mkF m 100 #[.val (.int x0), .val (.int x1), .val (.int x2), .val (.int x3), .val (.int a), .val (.int fr), .val (.int b), .val (.int (1 : Int32)), .val (.ref (w 1)), .unset, .unset, .unset] [])
          refine Go.of (fun _ k => XS.iload X26.here hx rfl (hb hby at_100) rfl k) ?_
          show Go p e below _ T26 (mkF m 102 #[.val (.int x0), .val (.int x1), .val (.int x2), .val (.int x3), .val (.int a), .val (.int fr), .val (.int b), .val (.int (1 : Int32)), .val (.ref (w 1)), .unset, .unset, .unset] [(.int a)])
          refine Go.of (fun _ k => XS.goto X26.here hx rfl (pc0 := 102) (pc' := 107) rfl (hb hby at_102) (by decide) (by decide) k) ?_
          show Go p e below _ T26 (mkF m 107 #[.val (.int x0), .val (.int x1), .val (.int x2), .val (.int x3), .val (.int a), .val (.int fr), .val (.int b), .val (.int (1 : Int32)), .val (.ref (w 1)), .unset, .unset, .unset] [(.int a)])
          refine Go.of (fun _ k => XS.istore X26.here hx rfl (hb hby at_107) rfl (l' := #[.val (.int x0), .val (.int x1), .val (.int x2), .val (.int x3), .val (.int a), .val (.int fr), .val (.int b), .val (.int (1 : Int32)), .val (.ref (w 1)), .unset, .val (.int a), .unset]) rfl k) ?_
          show Go p e below _ T26 (mkF m 109 #[.val (.int x0), .val (.int x1), .val (.int x2), .val (.int x3), .val (.int a), .val (.int fr), .val (.int b), .val (.int (1 : Int32)), .val (.ref (w 1)), .unset, .val (.int a), .unset] [])
          refine Go.of (fun _ k => XS.iload X26.here hx rfl (hb hby at_109) rfl k) ?_
          show Go p e below _ T26 (mkF m 111 #[.val (.int x0), .val (.int x1), .val (.int x2), .val (.int x3), .val (.int a), .val (.int fr), .val (.int b), .val (.int (1 : Int32)), .val (.ref (w 1)), .unset, .val (.int a), .unset] [(.int a)])
          refine Go.of (fun _ k => XS.iload X26.here hx rfl (hb hby at_111) rfl k) ?_
          show Go p e below _ T26 (mkF m 113 #[.val (.int x0), .val (.int x1), .val (.int x2), .val (.int x3), .val (.int a), .val (.int fr), .val (.int b), .val (.int (1 : Int32)), .val (.ref (w 1)), .unset, .val (.int a), .unset] [(.int b), (.int a)])
          refine Go.of (fun _ k => XS.icmpNo X26.here hx rfl (hb hby at_113) rfl (XT.ii_ge_f hc97_32) k) ?_
          show Go p e below _ T26 (mkF m 116 #[.val (.int x0), .val (.int x1), .val (.int x2), .val (.int x3), .val (.int a), .val (.int fr), .val (.int b), .val (.int (1 : Int32)), .val (.ref (w 1)), .unset, .val (.int a), .unset] [])
          refine Go.of (fun _ k => XS.iload X26.here hx rfl (hb hby at_116) rfl k) ?_
          show Go p e below _ T26 (mkF m 118 #[.val (.int x0), .val (.int x1), .val (.int x2), .val (.int x3), .val (.int a), .val (.int fr), .val (.int b), .val (.int (1 : Int32)), .val (.ref (w 1)), .unset, .val (.int a), .unset] [(.int b)])
          refine Go.of (fun _ k => XS.goto X26.here hx rfl (pc0 := 118) (pc' := 123) rfl (hb hby at_118) (by decide) (by decide) k) ?_
          show Go p e below _ T26 (mkF m 123 #[.val (.int x0), .val (.int x1), .val (.int x2), .val (.int x3), .val (.int a), .val (.int fr), .val (.int b), .val (.int (1 : Int32)), .val (.ref (w 1)), .unset, .val (.int a), .unset] [(.int b)])
          refine Go.of (fun _ k => XS.istore X26.here hx rfl (hb hby at_123) rfl (l' := #[.val (.int x0), .val (.int x1), .val (.int x2), .val (.int x3), .val (.int a), .val (.int fr), .val (.int b), .val (.int (1 : Int32)), .val (.ref (w 1)), .unset, .val (.int a), .val (.int b)]) rfl k) ?_
          show Go p e below _ T26 (mkF m 125 #[.val (.int x0), .val (.int x1), .val (.int x2), .val (.int x3), .val (.int a), .val (.int fr), .val (.int b), .val (.int (1 : Int32)), .val (.ref (w 1)), .unset, .val (.int a), .val (.int b)] [])
          refine Go.of (fun _ k => XS.iload X26.here hx rfl (hb hby at_125) rfl k) ?_
          show Go p e below _ T26 (mkF m 127 #[.val (.int x0), .val (.int x1), .val (.int x2), .val (.int x3), .val (.int a), .val (.int fr), .val (.int b), .val (.int (1 : Int32)), .val (.ref (w 1)), .unset, .val (.int a), .val (.int b)] [(.int (1 : Int32))])
          refine Go.of (fun _ k => XS.iconst X26.here hx rfl (hb hby at_127) k) ?_
          show Go p e below _ T26 (mkF m 128 #[.val (.int x0), .val (.int x1), .val (.int x2), .val (.int x3), .val (.int a), .val (.int fr), .val (.int b), .val (.int (1 : Int32)), .val (.ref (w 1)), .unset, .val (.int a), .val (.int b)] [(.int (1 : Int32)), (.int (1 : Int32))])
          refine Go.of (fun _ k => XS.icmpNo X26.here hx rfl (hb hby at_128) rfl (XT.ii_ne_f (by decide)) k) ?_
          show Go p e below _ T26 (mkF m 131 #[.val (.int x0), .val (.int x1), .val (.int x2), .val (.int x3), .val (.int a), .val (.int fr), .val (.int b), .val (.int (1 : Int32)), .val (.ref (w 1)), .unset, .val (.int a), .val (.int b)] [])
          refine Go.of (fun _ k => XS.iload X26.here hx rfl (hb hby at_131) rfl k) ?_
          show Go p e below _ T26 (mkF m 133 #[.val (.int x0), .val (.int x1), .val (.int x2), .val (.int x3), .val (.int a), .val (.int fr), .val (.int b), .val (.int (1 : Int32)), .val (.ref (w 1)), .unset, .val (.int a), .val (.int b)] [(.int a)])
          refine Go.of (fun _ k => XS.istore X26.here hx rfl (hb hby at_133) rfl (l' := #[.val (.int x0), .val (.int x1), .val (.int x2), .val (.int x3), .val (.int a), .val (.int fr), .val (.int b), .val (.int (1 : Int32)), .val (.ref (w 1)), .val (.int a), .val (.int a), .val (.int b)]) rfl k) ?_
          show Go p e below _ T26 (mkF m 135 #[.val (.int x0), .val (.int x1), .val (.int x2), .val (.int x3), .val (.int a), .val (.int fr), .val (.int b), .val (.int (1 : Int32)), .val (.ref (w 1)), .val (.int a), .val (.int a), .val (.int b)] [])
          refine Go.of (fun _ k => XS.goto X26.here hx rfl (pc0 := 135) (pc' := 173) rfl (hb hby at_135) (by decide) (by decide) k) ?_
          show Go p e below _ T26 (mkF m 173 #[.val (.int x0), .val (.int x1), .val (.int x2), .val (.int x3), .val (.int a), .val (.int fr), .val (.int b), .val (.int (1 : Int32)), .val (.ref (w 1)), .val (.int a), .val (.int a), .val (.int b)] [])
          refine Go.of (fun _ k => XS.aload X26.here hx rfl (hb hby at_173) rfl rfl k) ?_
          show Go p e below _ T26 (mkF m 175 #[.val (.int x0), .val (.int x1), .val (.int x2), .val (.int x3), .val (.int a), .val (.int fr), .val (.int b), .val (.int (1 : Int32)), .val (.ref (w 1)), .val (.int a), .val (.int a), .val (.int b)] [(.ref (w 1))])
          refine Go.of (fun _ k => XS.iload X26.here hx rfl (hb hby at_175) rfl k) ?_
          show Go p e below _ T26 (mkF m 177 #[.val (.int x0), .val (.int x1), .val (.int x2), .val (.int x3), .val (.int a), .val (.int fr), .val (.int b), .val (.int (1 : Int32)), .val (.ref (w 1)), .val (.int a), .val (.int a), .val (.int b)] [(.int a), (.ref (w 1))])
          refine Go.of (fun _ k => XS.iload X26.here hx rfl (hb hby at_177) rfl k) ?_
          show Go p e below _ T26 (mkF m 179 #[.val (.int x0), .val (.int x1), .val (.int x2), .val (.int x3), .val (.int a), .val (.int fr), .val (.int b), .val (.int (1 : Int32)), .val (.ref (w 1)), .val (.int a), .val (.int a), .val (.int b)] [(.int b), (.int a), (.ref (w 1))])
          obtain ⟨T33, X33, e33, st33⟩ := own_pure rfl rfl (own_callVQ X26 hx hZ (y := (⟨"com/example/drawdown/drawdown/core/pricing/SplitRatingRule", "level", "(II)I"⟩ : MethodName)) hown (hw _ (List.mem_of_getElem? (i := 4) rfl)) (hw _ (List.mem_of_getElem? (i := 5) rfl)) (hw _ (List.mem_of_getElem? (i := 7) rfl)) (hw _ (List.mem_of_getElem? (i := 7) rfl)) (hw _ (List.mem_of_getElem? (i := 6) rfl)) (hw _ (List.mem_of_getElem? (i := 8) rfl)) (hw _ (List.mem_of_getElem? (i := 2) rfl)) (by decide) (c4_1 l Z a0 hw h0 (w 1) a b (Ex 1 (by decide)) (Fo 1 (by decide))) (by decide) 0 (by decide) (by decide) (by decide) e26 (Ex 1 (by decide)) (g := (mkF m 179 #[.val (.int x0), .val (.int x1), .val (.int x2), .val (.int x3), .val (.int a), .val (.int fr), .val (.int b), .val (.int (1 : Int32)), .val (.ref (w 1)), .val (.int a), .val (.int a), .val (.int b)] [(.int b), (.int a), (.ref (w 1))])) rfl (by rw [hml]; rfl) [(.int a), (.int b)] [] (lenOf (by decide +kernel : parseMethodDescriptor "(II)I" = some ⟨[.int, .int], some .int⟩) rfl) rfl (by show 2 * 0 + _ ≤ _; exact Nat.le_of_eq rfl) rfl (hb hby at_179))
          refine Go.of st33 ?_
          show Go p e below _ T33 (mkF m 182 #[.val (.int x0), .val (.int x1), .val (.int x2), .val (.int x3), .val (.int a), .val (.int fr), .val (.int b), .val (.int (1 : Int32)), .val (.ref (w 1)), .val (.int a), .val (.int a), .val (.int b)] [(.int (lvl (1 : Int32) a b))])
          refine Go.of (fun _ k => XS.istore X33.here hx rfl (hb hby at_182) rfl (l' := #[.val (.int x0), .val (.int x1), .val (.int x2), .val (.int x3), .val (.int a), .val (.int fr), .val (.int b), .val (.int (1 : Int32)), .val (.ref (w 1)), .val (.int a), .val (.int (lvl (1 : Int32) a b)), .val (.int b)]) rfl k) ?_
          show Go p e below _ T33 (mkF m 184 #[.val (.int x0), .val (.int x1), .val (.int x2), .val (.int x3), .val (.int a), .val (.int fr), .val (.int b), .val (.int (1 : Int32)), .val (.ref (w 1)), .val (.int a), .val (.int (lvl (1 : Int32) a b)), .val (.int b)] [])
          refine Go.of (fun _ k => XS.aload X33.here hx rfl (hb hby at_184) rfl rfl k) ?_
          show Go p e below _ T33 (mkF m 186 #[.val (.int x0), .val (.int x1), .val (.int x2), .val (.int x3), .val (.int a), .val (.int fr), .val (.int b), .val (.int (1 : Int32)), .val (.ref (w 1)), .val (.int a), .val (.int (lvl (1 : Int32) a b)), .val (.int b)] [(.ref (w 1))])
          refine Go.of (fun _ k => XS.iload X33.here hx rfl (hb hby at_186) rfl k) ?_
          show Go p e below _ T33 (mkF m 188 #[.val (.int x0), .val (.int x1), .val (.int x2), .val (.int x3), .val (.int a), .val (.int fr), .val (.int b), .val (.int (1 : Int32)), .val (.ref (w 1)), .val (.int a), .val (.int (lvl (1 : Int32) a b)), .val (.int b)] [(.int b), (.ref (w 1))])
          refine Go.of (fun _ k => XS.iload X33.here hx rfl (hb hby at_188) rfl k) ?_
          show Go p e below _ T33 (mkF m 190 #[.val (.int x0), .val (.int x1), .val (.int x2), .val (.int x3), .val (.int a), .val (.int fr), .val (.int b), .val (.int (1 : Int32)), .val (.ref (w 1)), .val (.int a), .val (.int (lvl (1 : Int32) a b)), .val (.int b)] [(.int a), (.int b), (.ref (w 1))])
          obtain ⟨T34, X34, e34, st34⟩ := own_pure rfl rfl (own_callVQ X33 hx hZ (y := (⟨"com/example/drawdown/drawdown/core/pricing/SplitRatingRule", "level", "(II)I"⟩ : MethodName)) hown (hw _ (List.mem_of_getElem? (i := 4) rfl)) (hw _ (List.mem_of_getElem? (i := 5) rfl)) (hw _ (List.mem_of_getElem? (i := 7) rfl)) (hw _ (List.mem_of_getElem? (i := 7) rfl)) (hw _ (List.mem_of_getElem? (i := 6) rfl)) (hw _ (List.mem_of_getElem? (i := 8) rfl)) (hw _ (List.mem_of_getElem? (i := 2) rfl)) (by decide) (c4_1 l Z a0 hw h0 (w 1) b a (Ex 1 (by decide)) (Fo 1 (by decide))) (by decide) 0 (by decide) (by decide) (by decide) e33 (Ex 1 (by decide)) (g := (mkF m 190 #[.val (.int x0), .val (.int x1), .val (.int x2), .val (.int x3), .val (.int a), .val (.int fr), .val (.int b), .val (.int (1 : Int32)), .val (.ref (w 1)), .val (.int a), .val (.int (lvl (1 : Int32) a b)), .val (.int b)] [(.int a), (.int b), (.ref (w 1))])) rfl (by rw [hml]; rfl) [(.int b), (.int a)] [] (lenOf (by decide +kernel : parseMethodDescriptor "(II)I" = some ⟨[.int, .int], some .int⟩) rfl) rfl (by show 2 * 0 + _ ≤ _; exact Nat.le_of_eq rfl) rfl (hb hby at_190))
          refine Go.of st34 ?_
          show Go p e below _ T34 (mkF m 193 #[.val (.int x0), .val (.int x1), .val (.int x2), .val (.int x3), .val (.int a), .val (.int fr), .val (.int b), .val (.int (1 : Int32)), .val (.ref (w 1)), .val (.int a), .val (.int (lvl (1 : Int32) a b)), .val (.int b)] [(.int (lvl (1 : Int32) b a))])
          refine Go.of (fun _ k => XS.istore X34.here hx rfl (hb hby at_193) rfl (l' := #[.val (.int x0), .val (.int x1), .val (.int x2), .val (.int x3), .val (.int a), .val (.int fr), .val (.int b), .val (.int (1 : Int32)), .val (.ref (w 1)), .val (.int a), .val (.int (lvl (1 : Int32) a b)), .val (.int (lvl (1 : Int32) b a))]) rfl k) ?_
          show Go p e below _ T34 (mkF m 195 #[.val (.int x0), .val (.int x1), .val (.int x2), .val (.int x3), .val (.int a), .val (.int fr), .val (.int b), .val (.int (1 : Int32)), .val (.ref (w 1)), .val (.int a), .val (.int (lvl (1 : Int32) a b)), .val (.int (lvl (1 : Int32) b a))] [])
          refine Go.of (fun _ k => XS.iload X34.here hx rfl (hb hby at_195) rfl k) ?_
          show Go p e below _ T34 (mkF m 197 #[.val (.int x0), .val (.int x1), .val (.int x2), .val (.int x3), .val (.int a), .val (.int fr), .val (.int b), .val (.int (1 : Int32)), .val (.ref (w 1)), .val (.int a), .val (.int (lvl (1 : Int32) a b)), .val (.int (lvl (1 : Int32) b a))] [(.int (lvl (1 : Int32) a b))])
          refine Go.of (fun _ k => XS.iload X34.here hx rfl (hb hby at_197) rfl k) ?_
          show Go p e below _ T34 (mkF m 199 #[.val (.int x0), .val (.int x1), .val (.int x2), .val (.int x3), .val (.int a), .val (.int fr), .val (.int b), .val (.int (1 : Int32)), .val (.ref (w 1)), .val (.int a), .val (.int (lvl (1 : Int32) a b)), .val (.int (lvl (1 : Int32) b a))] [(.int a), (.int (lvl (1 : Int32) a b))])
          have hc199_35 : (lvl (1 : Int32) a b) = a := (lvl_lt Ra hc97_32).2.2.1
          refine Go.of (fun _ k => XS.icmpNo X34.here hx rfl (hb hby at_199) rfl (XT.ii_ne_f hc199_35) k) ?_
          show Go p e below _ T34 (mkF m 202 #[.val (.int x0), .val (.int x1), .val (.int x2), .val (.int x3), .val (.int a), .val (.int fr), .val (.int b), .val (.int (1 : Int32)), .val (.ref (w 1)), .val (.int a), .val (.int (lvl (1 : Int32) a b)), .val (.int (lvl (1 : Int32) b a))] [])
          refine Go.of (fun _ k => XS.iload X34.here hx rfl (hb hby at_202) rfl k) ?_
          show Go p e below _ T34 (mkF m 204 #[.val (.int x0), .val (.int x1), .val (.int x2), .val (.int x3), .val (.int a), .val (.int fr), .val (.int b), .val (.int (1 : Int32)), .val (.ref (w 1)), .val (.int a), .val (.int (lvl (1 : Int32) a b)), .val (.int (lvl (1 : Int32) b a))] [(.int (lvl (1 : Int32) b a))])
          refine Go.of (fun _ k => XS.iload X34.here hx rfl (hb hby at_204) rfl k) ?_
          show Go p e below _ T34 (mkF m 206 #[.val (.int x0), .val (.int x1), .val (.int x2), .val (.int x3), .val (.int a), .val (.int fr), .val (.int b), .val (.int (1 : Int32)), .val (.ref (w 1)), .val (.int a), .val (.int (lvl (1 : Int32) a b)), .val (.int (lvl (1 : Int32) b a))] [(.int a), (.int (lvl (1 : Int32) b a))])
          have hc206_36 : (lvl (1 : Int32) b a) = a := (lvl_lt Ra hc97_32).2.2.2.1
          refine Go.of (fun _ k => XS.icmpNo X34.here hx rfl (hb hby at_206) rfl (XT.ii_ne_f hc206_36) k) ?_
          show Go p e below _ T34 (mkF m 209 #[.val (.int x0), .val (.int x1), .val (.int x2), .val (.int x3), .val (.int a), .val (.int fr), .val (.int b), .val (.int (1 : Int32)), .val (.ref (w 1)), .val (.int a), .val (.int (lvl (1 : Int32) a b)), .val (.int (lvl (1 : Int32) b a))] [])
          refine Go.of (fun _ k => XS.iconst X34.here hx rfl (hb hby at_209) k) ?_
          show Go p e below _ T34 (mkF m 210 #[.val (.int x0), .val (.int x1), .val (.int x2), .val (.int x3), .val (.int a), .val (.int fr), .val (.int b), .val (.int (1 : Int32)), .val (.ref (w 1)), .val (.int a), .val (.int (lvl (1 : Int32) a b)), .val (.int (lvl (1 : Int32) b a))] [(.int (1 : Int32))])
          refine Go.of (fun _ k => XS.goto X34.here hx rfl (pc0 := 210) (pc' := 214) rfl (hb hby at_210) (by decide) (by decide) k) ?_
          show Go p e below _ T34 (mkF m 214 #[.val (.int x0), .val (.int x1), .val (.int x2), .val (.int x3), .val (.int a), .val (.int fr), .val (.int b), .val (.int (1 : Int32)), .val (.ref (w 1)), .val (.int a), .val (.int (lvl (1 : Int32) a b)), .val (.int (lvl (1 : Int32) b a))] [(.int (1 : Int32))])
          exact own_retZ (z' := (1 : Int32)) X34 hx hlk hret (hb hby at_214) rfl ⟨rfl, N0⟩ (by decide) (by decide)
        ·
          refine Go.of (fun _ k => XS.icmpYes X26.here hx rfl (pc0 := 97) (pc' := 105) rfl (hb hby at_97) rfl (XT.ii_ge_t hc97_32) (by decide) (by decide) k) ?_
          show Go p e below _ T26 (mkF m 105 #[.val (.int x0), .val (.int x1), .val (.int x2), .val (.int x3), .val (.int a), .val (.int fr), .val (.int b), .val (.int (1 : Int32)), .val (.ref (w 1)), .unset, .unset, .unset] [])
          refine Go.of (fun _ k => XS.iload X26.here hx rfl (hb hby at_105) rfl k) ?_
          show Go p e below _ T26 (mkF m 107 #[.val (.int x0), .val (.int x1), .val (.int x2), .val (.int x3), .val (.int a), .val (.int fr), .val (.int b), .val (.int (1 : Int32)), .val (.ref (w 1)), .unset, .unset, .unset] [(.int b)])
          refine Go.of (fun _ k => XS.istore X26.here hx rfl (hb hby at_107) rfl (l' := #[.val (.int x0), .val (.int x1), .val (.int x2), .val (.int x3), .val (.int a), .val (.int fr), .val (.int b), .val (.int (1 : Int32)), .val (.ref (w 1)), .unset, .val (.int b), .unset]) rfl k) ?_
          show Go p e below _ T26 (mkF m 109 #[.val (.int x0), .val (.int x1), .val (.int x2), .val (.int x3), .val (.int a), .val (.int fr), .val (.int b), .val (.int (1 : Int32)), .val (.ref (w 1)), .unset, .val (.int b), .unset] [])
          refine Go.of (fun _ k => XS.iload X26.here hx rfl (hb hby at_109) rfl k) ?_
          show Go p e below _ T26 (mkF m 111 #[.val (.int x0), .val (.int x1), .val (.int x2), .val (.int x3), .val (.int a), .val (.int fr), .val (.int b), .val (.int (1 : Int32)), .val (.ref (w 1)), .unset, .val (.int b), .unset] [(.int a)])
          refine Go.of (fun _ k => XS.iload X26.here hx rfl (hb hby at_111) rfl k) ?_
          show Go p e below _ T26 (mkF m 113 #[.val (.int x0), .val (.int x1), .val (.int x2), .val (.int x3), .val (.int a), .val (.int fr), .val (.int b), .val (.int (1 : Int32)), .val (.ref (w 1)), .unset, .val (.int b), .unset] [(.int b), (.int a)])
          refine Go.of (fun _ k => XS.icmpYes X26.here hx rfl (pc0 := 113) (pc' := 121) rfl (hb hby at_113) rfl (XT.ii_ge_t hc97_32) (by decide) (by decide) k) ?_
          show Go p e below _ T26 (mkF m 121 #[.val (.int x0), .val (.int x1), .val (.int x2), .val (.int x3), .val (.int a), .val (.int fr), .val (.int b), .val (.int (1 : Int32)), .val (.ref (w 1)), .unset, .val (.int b), .unset] [])
          refine Go.of (fun _ k => XS.iload X26.here hx rfl (hb hby at_121) rfl k) ?_
          show Go p e below _ T26 (mkF m 123 #[.val (.int x0), .val (.int x1), .val (.int x2), .val (.int x3), .val (.int a), .val (.int fr), .val (.int b), .val (.int (1 : Int32)), .val (.ref (w 1)), .unset, .val (.int b), .unset] [(.int a)])
          refine Go.of (fun _ k => XS.istore X26.here hx rfl (hb hby at_123) rfl (l' := #[.val (.int x0), .val (.int x1), .val (.int x2), .val (.int x3), .val (.int a), .val (.int fr), .val (.int b), .val (.int (1 : Int32)), .val (.ref (w 1)), .unset, .val (.int b), .val (.int a)]) rfl k) ?_
          show Go p e below _ T26 (mkF m 125 #[.val (.int x0), .val (.int x1), .val (.int x2), .val (.int x3), .val (.int a), .val (.int fr), .val (.int b), .val (.int (1 : Int32)), .val (.ref (w 1)), .unset, .val (.int b), .val (.int a)] [])
          refine Go.of (fun _ k => XS.iload X26.here hx rfl (hb hby at_125) rfl k) ?_
          show Go p e below _ T26 (mkF m 127 #[.val (.int x0), .val (.int x1), .val (.int x2), .val (.int x3), .val (.int a), .val (.int fr), .val (.int b), .val (.int (1 : Int32)), .val (.ref (w 1)), .unset, .val (.int b), .val (.int a)] [(.int (1 : Int32))])
          refine Go.of (fun _ k => XS.iconst X26.here hx rfl (hb hby at_127) k) ?_
          show Go p e below _ T26 (mkF m 128 #[.val (.int x0), .val (.int x1), .val (.int x2), .val (.int x3), .val (.int a), .val (.int fr), .val (.int b), .val (.int (1 : Int32)), .val (.ref (w 1)), .unset, .val (.int b), .val (.int a)] [(.int (1 : Int32)), (.int (1 : Int32))])
          refine Go.of (fun _ k => XS.icmpNo X26.here hx rfl (hb hby at_128) rfl (XT.ii_ne_f (by decide)) k) ?_
          show Go p e below _ T26 (mkF m 131 #[.val (.int x0), .val (.int x1), .val (.int x2), .val (.int x3), .val (.int a), .val (.int fr), .val (.int b), .val (.int (1 : Int32)), .val (.ref (w 1)), .unset, .val (.int b), .val (.int a)] [])
          refine Go.of (fun _ k => XS.iload X26.here hx rfl (hb hby at_131) rfl k) ?_
          show Go p e below _ T26 (mkF m 133 #[.val (.int x0), .val (.int x1), .val (.int x2), .val (.int x3), .val (.int a), .val (.int fr), .val (.int b), .val (.int (1 : Int32)), .val (.ref (w 1)), .unset, .val (.int b), .val (.int a)] [(.int b)])
          refine Go.of (fun _ k => XS.istore X26.here hx rfl (hb hby at_133) rfl (l' := #[.val (.int x0), .val (.int x1), .val (.int x2), .val (.int x3), .val (.int a), .val (.int fr), .val (.int b), .val (.int (1 : Int32)), .val (.ref (w 1)), .val (.int b), .val (.int b), .val (.int a)]) rfl k) ?_
          show Go p e below _ T26 (mkF m 135 #[.val (.int x0), .val (.int x1), .val (.int x2), .val (.int x3), .val (.int a), .val (.int fr), .val (.int b), .val (.int (1 : Int32)), .val (.ref (w 1)), .val (.int b), .val (.int b), .val (.int a)] [])
          refine Go.of (fun _ k => XS.goto X26.here hx rfl (pc0 := 135) (pc' := 173) rfl (hb hby at_135) (by decide) (by decide) k) ?_
          show Go p e below _ T26 (mkF m 173 #[.val (.int x0), .val (.int x1), .val (.int x2), .val (.int x3), .val (.int a), .val (.int fr), .val (.int b), .val (.int (1 : Int32)), .val (.ref (w 1)), .val (.int b), .val (.int b), .val (.int a)] [])
          refine Go.of (fun _ k => XS.aload X26.here hx rfl (hb hby at_173) rfl rfl k) ?_
          show Go p e below _ T26 (mkF m 175 #[.val (.int x0), .val (.int x1), .val (.int x2), .val (.int x3), .val (.int a), .val (.int fr), .val (.int b), .val (.int (1 : Int32)), .val (.ref (w 1)), .val (.int b), .val (.int b), .val (.int a)] [(.ref (w 1))])
          refine Go.of (fun _ k => XS.iload X26.here hx rfl (hb hby at_175) rfl k) ?_
          show Go p e below _ T26 (mkF m 177 #[.val (.int x0), .val (.int x1), .val (.int x2), .val (.int x3), .val (.int a), .val (.int fr), .val (.int b), .val (.int (1 : Int32)), .val (.ref (w 1)), .val (.int b), .val (.int b), .val (.int a)] [(.int a), (.ref (w 1))])
          refine Go.of (fun _ k => XS.iload X26.here hx rfl (hb hby at_177) rfl k) ?_
          show Go p e below _ T26 (mkF m 179 #[.val (.int x0), .val (.int x1), .val (.int x2), .val (.int x3), .val (.int a), .val (.int fr), .val (.int b), .val (.int (1 : Int32)), .val (.ref (w 1)), .val (.int b), .val (.int b), .val (.int a)] [(.int b), (.int a), (.ref (w 1))])
          obtain ⟨T37, X37, e37, st37⟩ := own_pure rfl rfl (own_callVQ X26 hx hZ (y := (⟨"com/example/drawdown/drawdown/core/pricing/SplitRatingRule", "level", "(II)I"⟩ : MethodName)) hown (hw _ (List.mem_of_getElem? (i := 4) rfl)) (hw _ (List.mem_of_getElem? (i := 5) rfl)) (hw _ (List.mem_of_getElem? (i := 7) rfl)) (hw _ (List.mem_of_getElem? (i := 7) rfl)) (hw _ (List.mem_of_getElem? (i := 6) rfl)) (hw _ (List.mem_of_getElem? (i := 8) rfl)) (hw _ (List.mem_of_getElem? (i := 2) rfl)) (by decide) (c4_1 l Z a0 hw h0 (w 1) a b (Ex 1 (by decide)) (Fo 1 (by decide))) (by decide) 0 (by decide) (by decide) (by decide) e26 (Ex 1 (by decide)) (g := (mkF m 179 #[.val (.int x0), .val (.int x1), .val (.int x2), .val (.int x3), .val (.int a), .val (.int fr), .val (.int b), .val (.int (1 : Int32)), .val (.ref (w 1)), .val (.int b), .val (.int b), .val (.int a)] [(.int b), (.int a), (.ref (w 1))])) rfl (by rw [hml]; rfl) [(.int a), (.int b)] [] (lenOf (by decide +kernel : parseMethodDescriptor "(II)I" = some ⟨[.int, .int], some .int⟩) rfl) rfl (by show 2 * 0 + _ ≤ _; exact Nat.le_of_eq rfl) rfl (hb hby at_179))
          refine Go.of st37 ?_
          show Go p e below _ T37 (mkF m 182 #[.val (.int x0), .val (.int x1), .val (.int x2), .val (.int x3), .val (.int a), .val (.int fr), .val (.int b), .val (.int (1 : Int32)), .val (.ref (w 1)), .val (.int b), .val (.int b), .val (.int a)] [(.int (lvl (1 : Int32) a b))])
          refine Go.of (fun _ k => XS.istore X37.here hx rfl (hb hby at_182) rfl (l' := #[.val (.int x0), .val (.int x1), .val (.int x2), .val (.int x3), .val (.int a), .val (.int fr), .val (.int b), .val (.int (1 : Int32)), .val (.ref (w 1)), .val (.int b), .val (.int (lvl (1 : Int32) a b)), .val (.int a)]) rfl k) ?_
          show Go p e below _ T37 (mkF m 184 #[.val (.int x0), .val (.int x1), .val (.int x2), .val (.int x3), .val (.int a), .val (.int fr), .val (.int b), .val (.int (1 : Int32)), .val (.ref (w 1)), .val (.int b), .val (.int (lvl (1 : Int32) a b)), .val (.int a)] [])
          refine Go.of (fun _ k => XS.aload X37.here hx rfl (hb hby at_184) rfl rfl k) ?_
          show Go p e below _ T37 (mkF m 186 #[.val (.int x0), .val (.int x1), .val (.int x2), .val (.int x3), .val (.int a), .val (.int fr), .val (.int b), .val (.int (1 : Int32)), .val (.ref (w 1)), .val (.int b), .val (.int (lvl (1 : Int32) a b)), .val (.int a)] [(.ref (w 1))])
          refine Go.of (fun _ k => XS.iload X37.here hx rfl (hb hby at_186) rfl k) ?_
          show Go p e below _ T37 (mkF m 188 #[.val (.int x0), .val (.int x1), .val (.int x2), .val (.int x3), .val (.int a), .val (.int fr), .val (.int b), .val (.int (1 : Int32)), .val (.ref (w 1)), .val (.int b), .val (.int (lvl (1 : Int32) a b)), .val (.int a)] [(.int b), (.ref (w 1))])
          refine Go.of (fun _ k => XS.iload X37.here hx rfl (hb hby at_188) rfl k) ?_
          show Go p e below _ T37 (mkF m 190 #[.val (.int x0), .val (.int x1), .val (.int x2), .val (.int x3), .val (.int a), .val (.int fr), .val (.int b), .val (.int (1 : Int32)), .val (.ref (w 1)), .val (.int b), .val (.int (lvl (1 : Int32) a b)), .val (.int a)] [(.int a), (.int b), (.ref (w 1))])
          obtain ⟨T38, X38, e38, st38⟩ := own_pure rfl rfl (own_callVQ X37 hx hZ (y := (⟨"com/example/drawdown/drawdown/core/pricing/SplitRatingRule", "level", "(II)I"⟩ : MethodName)) hown (hw _ (List.mem_of_getElem? (i := 4) rfl)) (hw _ (List.mem_of_getElem? (i := 5) rfl)) (hw _ (List.mem_of_getElem? (i := 7) rfl)) (hw _ (List.mem_of_getElem? (i := 7) rfl)) (hw _ (List.mem_of_getElem? (i := 6) rfl)) (hw _ (List.mem_of_getElem? (i := 8) rfl)) (hw _ (List.mem_of_getElem? (i := 2) rfl)) (by decide) (c4_1 l Z a0 hw h0 (w 1) b a (Ex 1 (by decide)) (Fo 1 (by decide))) (by decide) 0 (by decide) (by decide) (by decide) e37 (Ex 1 (by decide)) (g := (mkF m 190 #[.val (.int x0), .val (.int x1), .val (.int x2), .val (.int x3), .val (.int a), .val (.int fr), .val (.int b), .val (.int (1 : Int32)), .val (.ref (w 1)), .val (.int b), .val (.int (lvl (1 : Int32) a b)), .val (.int a)] [(.int a), (.int b), (.ref (w 1))])) rfl (by rw [hml]; rfl) [(.int b), (.int a)] [] (lenOf (by decide +kernel : parseMethodDescriptor "(II)I" = some ⟨[.int, .int], some .int⟩) rfl) rfl (by show 2 * 0 + _ ≤ _; exact Nat.le_of_eq rfl) rfl (hb hby at_190))
          refine Go.of st38 ?_
          show Go p e below _ T38 (mkF m 193 #[.val (.int x0), .val (.int x1), .val (.int x2), .val (.int x3), .val (.int a), .val (.int fr), .val (.int b), .val (.int (1 : Int32)), .val (.ref (w 1)), .val (.int b), .val (.int (lvl (1 : Int32) a b)), .val (.int a)] [(.int (lvl (1 : Int32) b a))])
          refine Go.of (fun _ k => XS.istore X38.here hx rfl (hb hby at_193) rfl (l' := #[.val (.int x0), .val (.int x1), .val (.int x2), .val (.int x3), .val (.int a), .val (.int fr), .val (.int b), .val (.int (1 : Int32)), .val (.ref (w 1)), .val (.int b), .val (.int (lvl (1 : Int32) a b)), .val (.int (lvl (1 : Int32) b a))]) rfl k) ?_
          show Go p e below _ T38 (mkF m 195 #[.val (.int x0), .val (.int x1), .val (.int x2), .val (.int x3), .val (.int a), .val (.int fr), .val (.int b), .val (.int (1 : Int32)), .val (.ref (w 1)), .val (.int b), .val (.int (lvl (1 : Int32) a b)), .val (.int (lvl (1 : Int32) b a))] [])
          refine Go.of (fun _ k => XS.iload X38.here hx rfl (hb hby at_195) rfl k) ?_
          show Go p e below _ T38 (mkF m 197 #[.val (.int x0), .val (.int x1), .val (.int x2), .val (.int x3), .val (.int a), .val (.int fr), .val (.int b), .val (.int (1 : Int32)), .val (.ref (w 1)), .val (.int b), .val (.int (lvl (1 : Int32) a b)), .val (.int (lvl (1 : Int32) b a))] [(.int (lvl (1 : Int32) a b))])
          refine Go.of (fun _ k => XS.iload X38.here hx rfl (hb hby at_197) rfl k) ?_
          show Go p e below _ T38 (mkF m 199 #[.val (.int x0), .val (.int x1), .val (.int x2), .val (.int x3), .val (.int a), .val (.int fr), .val (.int b), .val (.int (1 : Int32)), .val (.ref (w 1)), .val (.int b), .val (.int (lvl (1 : Int32) a b)), .val (.int (lvl (1 : Int32) b a))] [(.int b), (.int (lvl (1 : Int32) a b))])
          have hc199_39 : (lvl (1 : Int32) a b) = b := (lvl_lt Rb (own_gt hc83_27 hc97_32)).2.2.2.1
          refine Go.of (fun _ k => XS.icmpNo X38.here hx rfl (hb hby at_199) rfl (XT.ii_ne_f hc199_39) k) ?_
          show Go p e below _ T38 (mkF m 202 #[.val (.int x0), .val (.int x1), .val (.int x2), .val (.int x3), .val (.int a), .val (.int fr), .val (.int b), .val (.int (1 : Int32)), .val (.ref (w 1)), .val (.int b), .val (.int (lvl (1 : Int32) a b)), .val (.int (lvl (1 : Int32) b a))] [])
          refine Go.of (fun _ k => XS.iload X38.here hx rfl (hb hby at_202) rfl k) ?_
          show Go p e below _ T38 (mkF m 204 #[.val (.int x0), .val (.int x1), .val (.int x2), .val (.int x3), .val (.int a), .val (.int fr), .val (.int b), .val (.int (1 : Int32)), .val (.ref (w 1)), .val (.int b), .val (.int (lvl (1 : Int32) a b)), .val (.int (lvl (1 : Int32) b a))] [(.int (lvl (1 : Int32) b a))])
          refine Go.of (fun _ k => XS.iload X38.here hx rfl (hb hby at_204) rfl k) ?_
          show Go p e below _ T38 (mkF m 206 #[.val (.int x0), .val (.int x1), .val (.int x2), .val (.int x3), .val (.int a), .val (.int fr), .val (.int b), .val (.int (1 : Int32)), .val (.ref (w 1)), .val (.int b), .val (.int (lvl (1 : Int32) a b)), .val (.int (lvl (1 : Int32) b a))] [(.int b), (.int (lvl (1 : Int32) b a))])
          have hc206_40 : (lvl (1 : Int32) b a) = b := (lvl_lt Rb (own_gt hc83_27 hc97_32)).2.2.1
          refine Go.of (fun _ k => XS.icmpNo X38.here hx rfl (hb hby at_206) rfl (XT.ii_ne_f hc206_40) k) ?_
          show Go p e below _ T38 (mkF m 209 #[.val (.int x0), .val (.int x1), .val (.int x2), .val (.int x3), .val (.int a), .val (.int fr), .val (.int b), .val (.int (1 : Int32)), .val (.ref (w 1)), .val (.int b), .val (.int (lvl (1 : Int32) a b)), .val (.int (lvl (1 : Int32) b a))] [])
          refine Go.of (fun _ k => XS.iconst X38.here hx rfl (hb hby at_209) k) ?_
          show Go p e below _ T38 (mkF m 210 #[.val (.int x0), .val (.int x1), .val (.int x2), .val (.int x3), .val (.int a), .val (.int fr), .val (.int b), .val (.int (1 : Int32)), .val (.ref (w 1)), .val (.int b), .val (.int (lvl (1 : Int32) a b)), .val (.int (lvl (1 : Int32) b a))] [(.int (1 : Int32))])
          refine Go.of (fun _ k => XS.goto X38.here hx rfl (pc0 := 210) (pc' := 214) rfl (hb hby at_210) (by decide) (by decide) k) ?_
          show Go p e below _ T38 (mkF m 214 #[.val (.int x0), .val (.int x1), .val (.int x2), .val (.int x3), .val (.int a), .val (.int fr), .val (.int b), .val (.int (1 : Int32)), .val (.ref (w 1)), .val (.int b), .val (.int (lvl (1 : Int32) a b)), .val (.int (lvl (1 : Int32) b a))] [(.int (1 : Int32))])
          exact own_retZ (z' := (1 : Int32)) X38 hx hlk hret (hb hby at_214) rfl ⟨rfl, N0⟩ (by decide) (by decide)
    ·
      show Go p e below _ s₁ (mkF m 47 #[.val (.int x0), .val (.int x1), .val (.int x2), .val (.int x3), .val (.int a), .val (.int fr), .val (.int b), .val (.int (2 : Int32)), .unset, .unset, .unset, .unset] [])
      refine Go.of (fun _ k => XS.iload X0.here hx rfl (hb hby at_47) rfl k) ?_
      show Go p e below _ s₁ (mkF m 49 #[.val (.int x0), .val (.int x1), .val (.int x2), .val (.int x3), .val (.int a), .val (.int fr), .val (.int b), .val (.int (2 : Int32)), .unset, .unset, .unset, .unset] [(.int (2 : Int32))])
      refine Go.of (fun _ k => XS.ifYes X0.here hx rfl (pc0 := 49) (pc' := 60) rfl (hb hby at_49) rfl (XT.i0_ne_t (by decide)) (by decide) (by decide) k) ?_
      show Go p e below _ s₁ (mkF m 60 #[.val (.int x0), .val (.int x1), .val (.int x2), .val (.int x3), .val (.int a), .val (.int fr), .val (.int b), .val (.int (2 : Int32)), .unset, .unset, .unset, .unset] [])
      refine Go.of (fun _ k => XS.iload X0.here hx rfl (hb hby at_60) rfl k) ?_
      show Go p e below _ s₁ (mkF m 62 #[.val (.int x0), .val (.int x1), .val (.int x2), .val (.int x3), .val (.int a), .val (.int fr), .val (.int b), .val (.int (2 : Int32)), .unset, .unset, .unset, .unset] [(.int (2 : Int32))])
      refine Go.of (fun _ k => XS.iconst X0.here hx rfl (hb hby at_62) k) ?_
      show Go p e below _ s₁ (mkF m 63 #[.val (.int x0), .val (.int x1), .val (.int x2), .val (.int x3), .val (.int a), .val (.int fr), .val (.int b), .val (.int (2 : Int32)), .unset, .unset, .unset, .unset] [(.int (1 : Int32)), (.int (2 : Int32))])
      refine Go.of (fun _ k => XS.icmpYes X0.here hx rfl (pc0 := 63) (pc' := 74) rfl (hb hby at_63) rfl (XT.ii_ne_t (by decide)) (by decide) (by decide) k) ?_
      show Go p e below _ s₁ (mkF m 74 #[.val (.int x0), .val (.int x1), .val (.int x2), .val (.int x3), .val (.int a), .val (.int fr), .val (.int b), .val (.int (2 : Int32)), .unset, .unset, .unset, .unset] [])
      obtain ⟨T41, X41, e41, st41⟩ := getS2 X0 hx hZ hown (host := "") (Or.inl (hw _ (List.mem_of_getElem? (i := 25) rfl))) Via.refl e0 S2 (g := (mkF m 74 #[.val (.int x0), .val (.int x1), .val (.int x2), .val (.int x3), .val (.int a), .val (.int fr), .val (.int b), .val (.int (2 : Int32)), .unset, .unset, .unset, .unset] [])) rfl (hb hby at_74)
      refine Go.of st41 ?_
      show Go p e below _ T41 (mkF m 77 #[.val (.int x0), .val (.int x1), .val (.int x2), .val (.int x3), .val (.int a), .val (.int fr), .val (.int b), .val (.int (2 : Int32)), .unset, .unset, .unset, .unset] [(.ref (w 2))])
      refine Go.of (fun _ k => XS.astore X41.here hx rfl (hb hby at_77) rfl rfl (l' := #[.val (.int x0), .val (.int x1), .val (.int x2), .val (.int x3), .val (.int a), .val (.int fr), .val (.int b), .val (.int (2 : Int32)), .val (.ref (w 2)), .unset, .unset, .unset]) rfl k) ?_
      show Go p e below _ T41 (mkF m 79 #[.val (.int x0), .val (.int x1), .val (.int x2), .val (.int x3), .val (.int a), .val (.int fr), .val (.int b), .val (.int (2 : Int32)), .val (.ref (w 2)), .unset, .unset, .unset] [])
      refine Go.of (fun _ k => XS.iload X41.here hx rfl (hb hby at_79) rfl k) ?_
      show Go p e below _ T41 (mkF m 81 #[.val (.int x0), .val (.int x1), .val (.int x2), .val (.int x3), .val (.int a), .val (.int fr), .val (.int b), .val (.int (2 : Int32)), .val (.ref (w 2)), .unset, .unset, .unset] [(.int a)])
      refine Go.of (fun _ k => XS.iload X41.here hx rfl (hb hby at_81) rfl k) ?_
      show Go p e below _ T41 (mkF m 83 #[.val (.int x0), .val (.int x1), .val (.int x2), .val (.int x3), .val (.int a), .val (.int fr), .val (.int b), .val (.int (2 : Int32)), .val (.ref (w 2)), .unset, .unset, .unset] [(.int b), (.int a)])
      by_cases hc83_42 : a = b
      ·
        refine Go.of (fun _ k => XS.icmpNo X41.here hx rfl (hb hby at_83) rfl (XT.ii_ne_f hc83_42) k) ?_
        show Go p e below _ T41 (mkF m 86 #[.val (.int x0), .val (.int x1), .val (.int x2), .val (.int x3), .val (.int a), .val (.int fr), .val (.int b), .val (.int (2 : Int32)), .val (.ref (w 2)), .unset, .unset, .unset] [])
        refine Go.of (fun _ k => XS.iload X41.here hx rfl (hb hby at_86) rfl k) ?_
        show Go p e below _ T41 (mkF m 88 #[.val (.int x0), .val (.int x1), .val (.int x2), .val (.int x3), .val (.int a), .val (.int fr), .val (.int b), .val (.int (2 : Int32)), .val (.ref (w 2)), .unset, .unset, .unset] [(.int a)])
        refine Go.of (fun _ k => XS.istore X41.here hx rfl (hb hby at_88) rfl (l' := #[.val (.int x0), .val (.int x1), .val (.int x2), .val (.int x3), .val (.int a), .val (.int fr), .val (.int b), .val (.int (2 : Int32)), .val (.ref (w 2)), .val (.int a), .unset, .unset]) rfl k) ?_
        show Go p e below _ T41 (mkF m 90 #[.val (.int x0), .val (.int x1), .val (.int x2), .val (.int x3), .val (.int a), .val (.int fr), .val (.int b), .val (.int (2 : Int32)), .val (.ref (w 2)), .val (.int a), .unset, .unset] [])
        refine Go.of (fun _ k => XS.goto X41.here hx rfl (pc0 := 90) (pc' := 173) rfl (hb hby at_90) (by decide) (by decide) k) ?_
        show Go p e below _ T41 (mkF m 173 #[.val (.int x0), .val (.int x1), .val (.int x2), .val (.int x3), .val (.int a), .val (.int fr), .val (.int b), .val (.int (2 : Int32)), .val (.ref (w 2)), .val (.int a), .unset, .unset] [])
        refine Go.of (fun _ k => XS.aload X41.here hx rfl (hb hby at_173) rfl rfl k) ?_
        show Go p e below _ T41 (mkF m 175 #[.val (.int x0), .val (.int x1), .val (.int x2), .val (.int x3), .val (.int a), .val (.int fr), .val (.int b), .val (.int (2 : Int32)), .val (.ref (w 2)), .val (.int a), .unset, .unset] [(.ref (w 2))])
        refine Go.of (fun _ k => XS.iload X41.here hx rfl (hb hby at_175) rfl k) ?_
        show Go p e below _ T41 (mkF m 177 #[.val (.int x0), .val (.int x1), .val (.int x2), .val (.int x3), .val (.int a), .val (.int fr), .val (.int b), .val (.int (2 : Int32)), .val (.ref (w 2)), .val (.int a), .unset, .unset] [(.int a), (.ref (w 2))])
        refine Go.of (fun _ k => XS.iload X41.here hx rfl (hb hby at_177) rfl k) ?_
        show Go p e below _ T41 (mkF m 179 #[.val (.int x0), .val (.int x1), .val (.int x2), .val (.int x3), .val (.int a), .val (.int fr), .val (.int b), .val (.int (2 : Int32)), .val (.ref (w 2)), .val (.int a), .unset, .unset] [(.int b), (.int a), (.ref (w 2))])
        obtain ⟨T43, X43, e43, st43⟩ := own_pure rfl rfl (own_callVQ X41 hx hZ (y := (⟨"com/example/drawdown/drawdown/core/pricing/SplitRatingRule", "level", "(II)I"⟩ : MethodName)) hown (hw _ (List.mem_of_getElem? (i := 4) rfl)) (hw _ (List.mem_of_getElem? (i := 5) rfl)) (hw _ (List.mem_of_getElem? (i := 7) rfl)) (hw _ (List.mem_of_getElem? (i := 7) rfl)) (hw _ (List.mem_of_getElem? (i := 6) rfl)) (hw _ (List.mem_of_getElem? (i := 8) rfl)) (hw _ (List.mem_of_getElem? (i := 2) rfl)) (by decide) (c4_2 l Z a0 hw h0 (w 2) a b (Ex 2 (by decide)) (Fo 2 (by decide))) (by decide) 0 (by decide) (by decide) (by decide) e41 (Ex 2 (by decide)) (g := (mkF m 179 #[.val (.int x0), .val (.int x1), .val (.int x2), .val (.int x3), .val (.int a), .val (.int fr), .val (.int b), .val (.int (2 : Int32)), .val (.ref (w 2)), .val (.int a), .unset, .unset] [(.int b), (.int a), (.ref (w 2))])) rfl (by rw [hml]; rfl) [(.int a), (.int b)] [] (lenOf (by decide +kernel : parseMethodDescriptor "(II)I" = some ⟨[.int, .int], some .int⟩) rfl) rfl (by show 2 * 0 + _ ≤ _; exact Nat.le_of_eq rfl) rfl (hb hby at_179))
        refine Go.of st43 ?_
        show Go p e below _ T43 (mkF m 182 #[.val (.int x0), .val (.int x1), .val (.int x2), .val (.int x3), .val (.int a), .val (.int fr), .val (.int b), .val (.int (2 : Int32)), .val (.ref (w 2)), .val (.int a), .unset, .unset] [(.int (lvl (2 : Int32) a b))])
        refine Go.of (fun _ k => XS.istore X43.here hx rfl (hb hby at_182) rfl (l' := #[.val (.int x0), .val (.int x1), .val (.int x2), .val (.int x3), .val (.int a), .val (.int fr), .val (.int b), .val (.int (2 : Int32)), .val (.ref (w 2)), .val (.int a), .val (.int (lvl (2 : Int32) a b)), .unset]) rfl k) ?_
        show Go p e below _ T43 (mkF m 184 #[.val (.int x0), .val (.int x1), .val (.int x2), .val (.int x3), .val (.int a), .val (.int fr), .val (.int b), .val (.int (2 : Int32)), .val (.ref (w 2)), .val (.int a), .val (.int (lvl (2 : Int32) a b)), .unset] [])
        refine Go.of (fun _ k => XS.aload X43.here hx rfl (hb hby at_184) rfl rfl k) ?_
        show Go p e below _ T43 (mkF m 186 #[.val (.int x0), .val (.int x1), .val (.int x2), .val (.int x3), .val (.int a), .val (.int fr), .val (.int b), .val (.int (2 : Int32)), .val (.ref (w 2)), .val (.int a), .val (.int (lvl (2 : Int32) a b)), .unset] [(.ref (w 2))])
        refine Go.of (fun _ k => XS.iload X43.here hx rfl (hb hby at_186) rfl k) ?_
        show Go p e below _ T43 (mkF m 188 #[.val (.int x0), .val (.int x1), .val (.int x2), .val (.int x3), .val (.int a), .val (.int fr), .val (.int b), .val (.int (2 : Int32)), .val (.ref (w 2)), .val (.int a), .val (.int (lvl (2 : Int32) a b)), .unset] [(.int b), (.ref (w 2))])
        refine Go.of (fun _ k => XS.iload X43.here hx rfl (hb hby at_188) rfl k) ?_
        show Go p e below _ T43 (mkF m 190 #[.val (.int x0), .val (.int x1), .val (.int x2), .val (.int x3), .val (.int a), .val (.int fr), .val (.int b), .val (.int (2 : Int32)), .val (.ref (w 2)), .val (.int a), .val (.int (lvl (2 : Int32) a b)), .unset] [(.int a), (.int b), (.ref (w 2))])
        obtain ⟨T44, X44, e44, st44⟩ := own_pure rfl rfl (own_callVQ X43 hx hZ (y := (⟨"com/example/drawdown/drawdown/core/pricing/SplitRatingRule", "level", "(II)I"⟩ : MethodName)) hown (hw _ (List.mem_of_getElem? (i := 4) rfl)) (hw _ (List.mem_of_getElem? (i := 5) rfl)) (hw _ (List.mem_of_getElem? (i := 7) rfl)) (hw _ (List.mem_of_getElem? (i := 7) rfl)) (hw _ (List.mem_of_getElem? (i := 6) rfl)) (hw _ (List.mem_of_getElem? (i := 8) rfl)) (hw _ (List.mem_of_getElem? (i := 2) rfl)) (by decide) (c4_2 l Z a0 hw h0 (w 2) b a (Ex 2 (by decide)) (Fo 2 (by decide))) (by decide) 0 (by decide) (by decide) (by decide) e43 (Ex 2 (by decide)) (g := (mkF m 190 #[.val (.int x0), .val (.int x1), .val (.int x2), .val (.int x3), .val (.int a), .val (.int fr), .val (.int b), .val (.int (2 : Int32)), .val (.ref (w 2)), .val (.int a), .val (.int (lvl (2 : Int32) a b)), .unset] [(.int a), (.int b), (.ref (w 2))])) rfl (by rw [hml]; rfl) [(.int b), (.int a)] [] (lenOf (by decide +kernel : parseMethodDescriptor "(II)I" = some ⟨[.int, .int], some .int⟩) rfl) rfl (by show 2 * 0 + _ ≤ _; exact Nat.le_of_eq rfl) rfl (hb hby at_190))
        refine Go.of st44 ?_
        show Go p e below _ T44 (mkF m 193 #[.val (.int x0), .val (.int x1), .val (.int x2), .val (.int x3), .val (.int a), .val (.int fr), .val (.int b), .val (.int (2 : Int32)), .val (.ref (w 2)), .val (.int a), .val (.int (lvl (2 : Int32) a b)), .unset] [(.int (lvl (2 : Int32) b a))])
        refine Go.of (fun _ k => XS.istore X44.here hx rfl (hb hby at_193) rfl (l' := #[.val (.int x0), .val (.int x1), .val (.int x2), .val (.int x3), .val (.int a), .val (.int fr), .val (.int b), .val (.int (2 : Int32)), .val (.ref (w 2)), .val (.int a), .val (.int (lvl (2 : Int32) a b)), .val (.int (lvl (2 : Int32) b a))]) rfl k) ?_
        show Go p e below _ T44 (mkF m 195 #[.val (.int x0), .val (.int x1), .val (.int x2), .val (.int x3), .val (.int a), .val (.int fr), .val (.int b), .val (.int (2 : Int32)), .val (.ref (w 2)), .val (.int a), .val (.int (lvl (2 : Int32) a b)), .val (.int (lvl (2 : Int32) b a))] [])
        refine Go.of (fun _ k => XS.iload X44.here hx rfl (hb hby at_195) rfl k) ?_
        show Go p e below _ T44 (mkF m 197 #[.val (.int x0), .val (.int x1), .val (.int x2), .val (.int x3), .val (.int a), .val (.int fr), .val (.int b), .val (.int (2 : Int32)), .val (.ref (w 2)), .val (.int a), .val (.int (lvl (2 : Int32) a b)), .val (.int (lvl (2 : Int32) b a))] [(.int (lvl (2 : Int32) a b))])
        refine Go.of (fun _ k => XS.iload X44.here hx rfl (hb hby at_197) rfl k) ?_
        show Go p e below _ T44 (mkF m 199 #[.val (.int x0), .val (.int x1), .val (.int x2), .val (.int x3), .val (.int a), .val (.int fr), .val (.int b), .val (.int (2 : Int32)), .val (.ref (w 2)), .val (.int a), .val (.int (lvl (2 : Int32) a b)), .val (.int (lvl (2 : Int32) b a))] [(.int a), (.int (lvl (2 : Int32) a b))])
        have hc199_45 : (lvl (2 : Int32) a b) = a := (by rw [← hc83_42]; exact (lvl_eq a).2.2)
        refine Go.of (fun _ k => XS.icmpNo X44.here hx rfl (hb hby at_199) rfl (XT.ii_ne_f hc199_45) k) ?_
        show Go p e below _ T44 (mkF m 202 #[.val (.int x0), .val (.int x1), .val (.int x2), .val (.int x3), .val (.int a), .val (.int fr), .val (.int b), .val (.int (2 : Int32)), .val (.ref (w 2)), .val (.int a), .val (.int (lvl (2 : Int32) a b)), .val (.int (lvl (2 : Int32) b a))] [])
        refine Go.of (fun _ k => XS.iload X44.here hx rfl (hb hby at_202) rfl k) ?_
        show Go p e below _ T44 (mkF m 204 #[.val (.int x0), .val (.int x1), .val (.int x2), .val (.int x3), .val (.int a), .val (.int fr), .val (.int b), .val (.int (2 : Int32)), .val (.ref (w 2)), .val (.int a), .val (.int (lvl (2 : Int32) a b)), .val (.int (lvl (2 : Int32) b a))] [(.int (lvl (2 : Int32) b a))])
        refine Go.of (fun _ k => XS.iload X44.here hx rfl (hb hby at_204) rfl k) ?_
        show Go p e below _ T44 (mkF m 206 #[.val (.int x0), .val (.int x1), .val (.int x2), .val (.int x3), .val (.int a), .val (.int fr), .val (.int b), .val (.int (2 : Int32)), .val (.ref (w 2)), .val (.int a), .val (.int (lvl (2 : Int32) a b)), .val (.int (lvl (2 : Int32) b a))] [(.int a), (.int (lvl (2 : Int32) b a))])
        have hc206_46 : (lvl (2 : Int32) b a) = a := (by rw [← hc83_42]; exact (lvl_eq a).2.2)
        refine Go.of (fun _ k => XS.icmpNo X44.here hx rfl (hb hby at_206) rfl (XT.ii_ne_f hc206_46) k) ?_
        show Go p e below _ T44 (mkF m 209 #[.val (.int x0), .val (.int x1), .val (.int x2), .val (.int x3), .val (.int a), .val (.int fr), .val (.int b), .val (.int (2 : Int32)), .val (.ref (w 2)), .val (.int a), .val (.int (lvl (2 : Int32) a b)), .val (.int (lvl (2 : Int32) b a))] [])
        refine Go.of (fun _ k => XS.iconst X44.here hx rfl (hb hby at_209) k) ?_
        show Go p e below _ T44 (mkF m 210 #[.val (.int x0), .val (.int x1), .val (.int x2), .val (.int x3), .val (.int a), .val (.int fr), .val (.int b), .val (.int (2 : Int32)), .val (.ref (w 2)), .val (.int a), .val (.int (lvl (2 : Int32) a b)), .val (.int (lvl (2 : Int32) b a))] [(.int (1 : Int32))])
        refine Go.of (fun _ k => XS.goto X44.here hx rfl (pc0 := 210) (pc' := 214) rfl (hb hby at_210) (by decide) (by decide) k) ?_
        show Go p e below _ T44 (mkF m 214 #[.val (.int x0), .val (.int x1), .val (.int x2), .val (.int x3), .val (.int a), .val (.int fr), .val (.int b), .val (.int (2 : Int32)), .val (.ref (w 2)), .val (.int a), .val (.int (lvl (2 : Int32) a b)), .val (.int (lvl (2 : Int32) b a))] [(.int (1 : Int32))])
        exact own_retZ (z' := (1 : Int32)) X44 hx hlk hret (hb hby at_214) rfl ⟨rfl, N0⟩ (by decide) (by decide)
      ·
        refine Go.of (fun _ k => XS.icmpYes X41.here hx rfl (pc0 := 83) (pc' := 93) rfl (hb hby at_83) rfl (XT.ii_ne_t hc83_42) (by decide) (by decide) k) ?_
        show Go p e below _ T41 (mkF m 93 #[.val (.int x0), .val (.int x1), .val (.int x2), .val (.int x3), .val (.int a), .val (.int fr), .val (.int b), .val (.int (2 : Int32)), .val (.ref (w 2)), .unset, .unset, .unset] [])
        refine Go.of (fun _ k => XS.iload X41.here hx rfl (hb hby at_93) rfl k) ?_
        show Go p e below _ T41 (mkF m 95 #[.val (.int x0), .val (.int x1), .val (.int x2), .val (.int x3), .val (.int a), .val (.int fr), .val (.int b), .val (.int (2 : Int32)), .val (.ref (w 2)), .unset, .unset, .unset] [(.int a)])
        refine Go.of (fun _ k => XS.iload X41.here hx rfl (hb hby at_95) rfl k) ?_
        show Go p e below _ T41 (mkF m 97 #[.val (.int x0), .val (.int x1), .val (.int x2), .val (.int x3), .val (.int a), .val (.int fr), .val (.int b), .val (.int (2 : Int32)), .val (.ref (w 2)), .unset, .unset, .unset] [(.int b), (.int a)])
        by_cases hc97_47 : a < b
        ·
          refine Go.of (fun _ k => XS.icmpNo X41.here hx rfl (hb hby at_97) rfl (XT.ii_ge_f hc97_47) k) ?_
          show Go p e below _ T41 (mkF m 100 #[.val (.int x0), .val (.int x1), .val (.int x2), .val (.int x3), .val (.int a), .val (.int fr), .val (.int b), .val (.int (2 : Int32)), .val (.ref (w 2)), .unset, .unset, .unset] [])
          refine Go.of (fun _ k => XS.iload X41.here hx rfl (hb hby at_100) rfl k) ?_
          show Go p e below _ T41 (mkF m 102 #[.val (.int x0), .val (.int x1), .val (.int x2), .val (.int x3), .val (.int a), .val (.int fr), .val (.int b), .val (.int (2 : Int32)), .val (.ref (w 2)), .unset, .unset, .unset] [(.int a)])
          refine Go.of (fun _ k => XS.goto X41.here hx rfl (pc0 := 102) (pc' := 107) rfl (hb hby at_102) (by decide) (by decide) k) ?_
          show Go p e below _ T41 (mkF m 107 #[.val (.int x0), .val (.int x1), .val (.int x2), .val (.int x3), .val (.int a), .val (.int fr), .val (.int b), .val (.int (2 : Int32)), .val (.ref (w 2)), .unset, .unset, .unset] [(.int a)])
          refine Go.of (fun _ k => XS.istore X41.here hx rfl (hb hby at_107) rfl (l' := #[.val (.int x0), .val (.int x1), .val (.int x2), .val (.int x3), .val (.int a), .val (.int fr), .val (.int b), .val (.int (2 : Int32)), .val (.ref (w 2)), .unset, .val (.int a), .unset]) rfl k) ?_
          show Go p e below _ T41 (mkF m 109 #[.val (.int x0), .val (.int x1), .val (.int x2), .val (.int x3), .val (.int a), .val (.int fr), .val (.int b), .val (.int (2 : Int32)), .val (.ref (w 2)), .unset, .val (.int a), .unset] [])
          refine Go.of (fun _ k => XS.iload X41.here hx rfl (hb hby at_109) rfl k) ?_
          show Go p e below _ T41 (mkF m 111 #[.val (.int x0), .val (.int x1), .val (.int x2), .val (.int x3), .val (.int a), .val (.int fr), .val (.int b), .val (.int (2 : Int32)), .val (.ref (w 2)), .unset, .val (.int a), .unset] [(.int a)])
          refine Go.of (fun _ k => XS.iload X41.here hx rfl (hb hby at_111) rfl k) ?_
          show Go p e below _ T41 (mkF m 113 #[.val (.int x0), .val (.int x1), .val (.int x2), .val (.int x3), .val (.int a), .val (.int fr), .val (.int b), .val (.int (2 : Int32)), .val (.ref (w 2)), .unset, .val (.int a), .unset] [(.int b), (.int a)])
          refine Go.of (fun _ k => XS.icmpNo X41.here hx rfl (hb hby at_113) rfl (XT.ii_ge_f hc97_47) k) ?_
          show Go p e below _ T41 (mkF m 116 #[.val (.int x0), .val (.int x1), .val (.int x2), .val (.int x3), .val (.int a), .val (.int fr), .val (.int b), .val (.int (2 : Int32)), .val (.ref (w 2)), .unset, .val (.int a), .unset] [])
          refine Go.of (fun _ k => XS.iload X41.here hx rfl (hb hby at_116) rfl k) ?_
          show Go p e below _ T41 (mkF m 118 #[.val (.int x0), .val (.int x1), .val (.int x2), .val (.int x3), .val (.int a), .val (.int fr), .val (.int b), .val (.int (2 : Int32)), .val (.ref (w 2)), .unset, .val (.int a), .unset] [(.int b)])
          refine Go.of (fun _ k => XS.goto X41.here hx rfl (pc0 := 118) (pc' := 123) rfl (hb hby at_118) (by decide) (by decide) k) ?_
          show Go p e below _ T41 (mkF m 123 #[.val (.int x0), .val (.int x1), .val (.int x2), .val (.int x3), .val (.int a), .val (.int fr), .val (.int b), .val (.int (2 : Int32)), .val (.ref (w 2)), .unset, .val (.int a), .unset] [(.int b)])
          refine Go.of (fun _ k => XS.istore X41.here hx rfl (hb hby at_123) rfl (l' := #[.val (.int x0), .val (.int x1), .val (.int x2), .val (.int x3), .val (.int a), .val (.int fr), .val (.int b), .val (.int (2 : Int32)), .val (.ref (w 2)), .unset, .val (.int a), .val (.int b)]) rfl k) ?_
          show Go p e below _ T41 (mkF m 125 #[.val (.int x0), .val (.int x1), .val (.int x2), .val (.int x3), .val (.int a), .val (.int fr), .val (.int b), .val (.int (2 : Int32)), .val (.ref (w 2)), .unset, .val (.int a), .val (.int b)] [])
          refine Go.of (fun _ k => XS.iload X41.here hx rfl (hb hby at_125) rfl k) ?_
          show Go p e below _ T41 (mkF m 127 #[.val (.int x0), .val (.int x1), .val (.int x2), .val (.int x3), .val (.int a), .val (.int fr), .val (.int b), .val (.int (2 : Int32)), .val (.ref (w 2)), .unset, .val (.int a), .val (.int b)] [(.int (2 : Int32))])
          refine Go.of (fun _ k => XS.iconst X41.here hx rfl (hb hby at_127) k) ?_
          show Go p e below _ T41 (mkF m 128 #[.val (.int x0), .val (.int x1), .val (.int x2), .val (.int x3), .val (.int a), .val (.int fr), .val (.int b), .val (.int (2 : Int32)), .val (.ref (w 2)), .unset, .val (.int a), .val (.int b)] [(.int (1 : Int32)), (.int (2 : Int32))])
          refine Go.of (fun _ k => XS.icmpYes X41.here hx rfl (pc0 := 128) (pc' := 138) rfl (hb hby at_128) rfl (XT.ii_ne_t (by decide)) (by decide) (by decide) k) ?_
          show Go p e below _ T41 (mkF m 138 #[.val (.int x0), .val (.int x1), .val (.int x2), .val (.int x3), .val (.int a), .val (.int fr), .val (.int b), .val (.int (2 : Int32)), .val (.ref (w 2)), .unset, .val (.int a), .val (.int b)] [])
          refine Go.of (fun _ k => XS.iload X41.here hx rfl (hb hby at_138) rfl k) ?_
          show Go p e below _ T41 (mkF m 140 #[.val (.int x0), .val (.int x1), .val (.int x2), .val (.int x3), .val (.int a), .val (.int fr), .val (.int b), .val (.int (2 : Int32)), .val (.ref (w 2)), .unset, .val (.int a), .val (.int b)] [(.int (2 : Int32))])
          refine Go.of (fun _ k => XS.iconst X41.here hx rfl (hb hby at_140) k) ?_
          show Go p e below _ T41 (mkF m 141 #[.val (.int x0), .val (.int x1), .val (.int x2), .val (.int x3), .val (.int a), .val (.int fr), .val (.int b), .val (.int (2 : Int32)), .val (.ref (w 2)), .unset, .val (.int a), .val (.int b)] [(.int (2 : Int32)), (.int (2 : Int32))])
          refine Go.of (fun _ k => XS.icmpNo X41.here hx rfl (hb hby at_141) rfl (XT.ii_ne_f (by decide)) k) ?_
          show Go p e below _ T41 (mkF m 144 #[.val (.int x0), .val (.int x1), .val (.int x2), .val (.int x3), .val (.int a), .val (.int fr), .val (.int b), .val (.int (2 : Int32)), .val (.ref (w 2)), .unset, .val (.int a), .val (.int b)] [])
          refine Go.of (fun _ k => XS.iload X41.here hx rfl (hb hby at_144) rfl k) ?_
          show Go p e below _ T41 (mkF m 146 #[.val (.int x0), .val (.int x1), .val (.int x2), .val (.int x3), .val (.int a), .val (.int fr), .val (.int b), .val (.int (2 : Int32)), .val (.ref (w 2)), .unset, .val (.int a), .val (.int b)] [(.int b)])
          refine Go.of (fun _ k => XS.iconst X41.here hx rfl (hb hby at_146) k) ?_
          show Go p e below _ T41 (mkF m 147 #[.val (.int x0), .val (.int x1), .val (.int x2), .val (.int x3), .val (.int a), .val (.int fr), .val (.int b), .val (.int (2 : Int32)), .val (.ref (w 2)), .unset, .val (.int a), .val (.int b)] [(.int (1 : Int32)), (.int b)])
          refine Go.of (fun _ k => XS.isub X41.here hx rfl (hb hby at_147) rfl k) ?_
          show Go p e below _ T41 (mkF m 148 #[.val (.int x0), .val (.int x1), .val (.int x2), .val (.int x3), .val (.int a), .val (.int fr), .val (.int b), .val (.int (2 : Int32)), .val (.ref (w 2)), .unset, .val (.int a), .val (.int b)] [(.int (b - (1 : Int32)))])
          refine Go.of (fun _ k => XS.istore X41.here hx rfl (hb hby at_148) rfl (l' := #[.val (.int x0), .val (.int x1), .val (.int x2), .val (.int x3), .val (.int a), .val (.int fr), .val (.int b), .val (.int (2 : Int32)), .val (.ref (w 2)), .val (.int (b - (1 : Int32))), .val (.int a), .val (.int b)]) rfl k) ?_
          show Go p e below _ T41 (mkF m 150 #[.val (.int x0), .val (.int x1), .val (.int x2), .val (.int x3), .val (.int a), .val (.int fr), .val (.int b), .val (.int (2 : Int32)), .val (.ref (w 2)), .val (.int (b - (1 : Int32))), .val (.int a), .val (.int b)] [])
          refine Go.of (fun _ k => XS.goto X41.here hx rfl (pc0 := 150) (pc' := 173) rfl (hb hby at_150) (by decide) (by decide) k) ?_
          show Go p e below _ T41 (mkF m 173 #[.val (.int x0), .val (.int x1), .val (.int x2), .val (.int x3), .val (.int a), .val (.int fr), .val (.int b), .val (.int (2 : Int32)), .val (.ref (w 2)), .val (.int (b - (1 : Int32))), .val (.int a), .val (.int b)] [])
          refine Go.of (fun _ k => XS.aload X41.here hx rfl (hb hby at_173) rfl rfl k) ?_
          show Go p e below _ T41 (mkF m 175 #[.val (.int x0), .val (.int x1), .val (.int x2), .val (.int x3), .val (.int a), .val (.int fr), .val (.int b), .val (.int (2 : Int32)), .val (.ref (w 2)), .val (.int (b - (1 : Int32))), .val (.int a), .val (.int b)] [(.ref (w 2))])
          refine Go.of (fun _ k => XS.iload X41.here hx rfl (hb hby at_175) rfl k) ?_
          show Go p e below _ T41 (mkF m 177 #[.val (.int x0), .val (.int x1), .val (.int x2), .val (.int x3), .val (.int a), .val (.int fr), .val (.int b), .val (.int (2 : Int32)), .val (.ref (w 2)), .val (.int (b - (1 : Int32))), .val (.int a), .val (.int b)] [(.int a), (.ref (w 2))])
          refine Go.of (fun _ k => XS.iload X41.here hx rfl (hb hby at_177) rfl k) ?_
          show Go p e below _ T41 (mkF m 179 #[.val (.int x0), .val (.int x1), .val (.int x2), .val (.int x3), .val (.int a), .val (.int fr), .val (.int b), .val (.int (2 : Int32)), .val (.ref (w 2)), .val (.int (b - (1 : Int32))), .val (.int a), .val (.int b)] [(.int b), (.int a), (.ref (w 2))])
          obtain ⟨T48, X48, e48, st48⟩ := own_pure rfl rfl (own_callVQ X41 hx hZ (y := (⟨"com/example/drawdown/drawdown/core/pricing/SplitRatingRule", "level", "(II)I"⟩ : MethodName)) hown (hw _ (List.mem_of_getElem? (i := 4) rfl)) (hw _ (List.mem_of_getElem? (i := 5) rfl)) (hw _ (List.mem_of_getElem? (i := 7) rfl)) (hw _ (List.mem_of_getElem? (i := 7) rfl)) (hw _ (List.mem_of_getElem? (i := 6) rfl)) (hw _ (List.mem_of_getElem? (i := 8) rfl)) (hw _ (List.mem_of_getElem? (i := 2) rfl)) (by decide) (c4_2 l Z a0 hw h0 (w 2) a b (Ex 2 (by decide)) (Fo 2 (by decide))) (by decide) 0 (by decide) (by decide) (by decide) e41 (Ex 2 (by decide)) (g := (mkF m 179 #[.val (.int x0), .val (.int x1), .val (.int x2), .val (.int x3), .val (.int a), .val (.int fr), .val (.int b), .val (.int (2 : Int32)), .val (.ref (w 2)), .val (.int (b - (1 : Int32))), .val (.int a), .val (.int b)] [(.int b), (.int a), (.ref (w 2))])) rfl (by rw [hml]; rfl) [(.int a), (.int b)] [] (lenOf (by decide +kernel : parseMethodDescriptor "(II)I" = some ⟨[.int, .int], some .int⟩) rfl) rfl (by show 2 * 0 + _ ≤ _; exact Nat.le_of_eq rfl) rfl (hb hby at_179))
          refine Go.of st48 ?_
          show Go p e below _ T48 (mkF m 182 #[.val (.int x0), .val (.int x1), .val (.int x2), .val (.int x3), .val (.int a), .val (.int fr), .val (.int b), .val (.int (2 : Int32)), .val (.ref (w 2)), .val (.int (b - (1 : Int32))), .val (.int a), .val (.int b)] [(.int (lvl (2 : Int32) a b))])
          refine Go.of (fun _ k => XS.istore X48.here hx rfl (hb hby at_182) rfl (l' := #[.val (.int x0), .val (.int x1), .val (.int x2), .val (.int x3), .val (.int a), .val (.int fr), .val (.int b), .val (.int (2 : Int32)), .val (.ref (w 2)), .val (.int (b - (1 : Int32))), .val (.int (lvl (2 : Int32) a b)), .val (.int b)]) rfl k) ?_
          show Go p e below _ T48 (mkF m 184 #[.val (.int x0), .val (.int x1), .val (.int x2), .val (.int x3), .val (.int a), .val (.int fr), .val (.int b), .val (.int (2 : Int32)), .val (.ref (w 2)), .val (.int (b - (1 : Int32))), .val (.int (lvl (2 : Int32) a b)), .val (.int b)] [])
          refine Go.of (fun _ k => XS.aload X48.here hx rfl (hb hby at_184) rfl rfl k) ?_
          show Go p e below _ T48 (mkF m 186 #[.val (.int x0), .val (.int x1), .val (.int x2), .val (.int x3), .val (.int a), .val (.int fr), .val (.int b), .val (.int (2 : Int32)), .val (.ref (w 2)), .val (.int (b - (1 : Int32))), .val (.int (lvl (2 : Int32) a b)), .val (.int b)] [(.ref (w 2))])
          refine Go.of (fun _ k => XS.iload X48.here hx rfl (hb hby at_186) rfl k) ?_
          show Go p e below _ T48 (mkF m 188 #[.val (.int x0), .val (.int x1), .val (.int x2), .val (.int x3), .val (.int a), .val (.int fr), .val (.int b), .val (.int (2 : Int32)), .val (.ref (w 2)), .val (.int (b - (1 : Int32))), .val (.int (lvl (2 : Int32) a b)), .val (.int b)] [(.int b), (.ref (w 2))])
          refine Go.of (fun _ k => XS.iload X48.here hx rfl (hb hby at_188) rfl k) ?_
          show Go p e below _ T48 (mkF m 190 #[.val (.int x0), .val (.int x1), .val (.int x2), .val (.int x3), .val (.int a), .val (.int fr), .val (.int b), .val (.int (2 : Int32)), .val (.ref (w 2)), .val (.int (b - (1 : Int32))), .val (.int (lvl (2 : Int32) a b)), .val (.int b)] [(.int a), (.int b), (.ref (w 2))])
          obtain ⟨T49, X49, e49, st49⟩ := own_pure rfl rfl (own_callVQ X48 hx hZ (y := (⟨"com/example/drawdown/drawdown/core/pricing/SplitRatingRule", "level", "(II)I"⟩ : MethodName)) hown (hw _ (List.mem_of_getElem? (i := 4) rfl)) (hw _ (List.mem_of_getElem? (i := 5) rfl)) (hw _ (List.mem_of_getElem? (i := 7) rfl)) (hw _ (List.mem_of_getElem? (i := 7) rfl)) (hw _ (List.mem_of_getElem? (i := 6) rfl)) (hw _ (List.mem_of_getElem? (i := 8) rfl)) (hw _ (List.mem_of_getElem? (i := 2) rfl)) (by decide) (c4_2 l Z a0 hw h0 (w 2) b a (Ex 2 (by decide)) (Fo 2 (by decide))) (by decide) 0 (by decide) (by decide) (by decide) e48 (Ex 2 (by decide)) (g := (mkF m 190 #[.val (.int x0), .val (.int x1), .val (.int x2), .val (.int x3), .val (.int a), .val (.int fr), .val (.int b), .val (.int (2 : Int32)), .val (.ref (w 2)), .val (.int (b - (1 : Int32))), .val (.int (lvl (2 : Int32) a b)), .val (.int b)] [(.int a), (.int b), (.ref (w 2))])) rfl (by rw [hml]; rfl) [(.int b), (.int a)] [] (lenOf (by decide +kernel : parseMethodDescriptor "(II)I" = some ⟨[.int, .int], some .int⟩) rfl) rfl (by show 2 * 0 + _ ≤ _; exact Nat.le_of_eq rfl) rfl (hb hby at_190))
          refine Go.of st49 ?_
          show Go p e below _ T49 (mkF m 193 #[.val (.int x0), .val (.int x1), .val (.int x2), .val (.int x3), .val (.int a), .val (.int fr), .val (.int b), .val (.int (2 : Int32)), .val (.ref (w 2)), .val (.int (b - (1 : Int32))), .val (.int (lvl (2 : Int32) a b)), .val (.int b)] [(.int (lvl (2 : Int32) b a))])
          refine Go.of (fun _ k => XS.istore X49.here hx rfl (hb hby at_193) rfl (l' := #[.val (.int x0), .val (.int x1), .val (.int x2), .val (.int x3), .val (.int a), .val (.int fr), .val (.int b), .val (.int (2 : Int32)), .val (.ref (w 2)), .val (.int (b - (1 : Int32))), .val (.int (lvl (2 : Int32) a b)), .val (.int (lvl (2 : Int32) b a))]) rfl k) ?_
          show Go p e below _ T49 (mkF m 195 #[.val (.int x0), .val (.int x1), .val (.int x2), .val (.int x3), .val (.int a), .val (.int fr), .val (.int b), .val (.int (2 : Int32)), .val (.ref (w 2)), .val (.int (b - (1 : Int32))), .val (.int (lvl (2 : Int32) a b)), .val (.int (lvl (2 : Int32) b a))] [])
          refine Go.of (fun _ k => XS.iload X49.here hx rfl (hb hby at_195) rfl k) ?_
          show Go p e below _ T49 (mkF m 197 #[.val (.int x0), .val (.int x1), .val (.int x2), .val (.int x3), .val (.int a), .val (.int fr), .val (.int b), .val (.int (2 : Int32)), .val (.ref (w 2)), .val (.int (b - (1 : Int32))), .val (.int (lvl (2 : Int32) a b)), .val (.int (lvl (2 : Int32) b a))] [(.int (lvl (2 : Int32) a b))])
          refine Go.of (fun _ k => XS.iload X49.here hx rfl (hb hby at_197) rfl k) ?_
          show Go p e below _ T49 (mkF m 199 #[.val (.int x0), .val (.int x1), .val (.int x2), .val (.int x3), .val (.int a), .val (.int fr), .val (.int b), .val (.int (2 : Int32)), .val (.ref (w 2)), .val (.int (b - (1 : Int32))), .val (.int (lvl (2 : Int32) a b)), .val (.int (lvl (2 : Int32) b a))] [(.int (b - (1 : Int32))), (.int (lvl (2 : Int32) a b))])
          have hc199_50 : (lvl (2 : Int32) a b) = (b - (1 : Int32)) := (lvl_lt Ra hc97_47).2.2.2.2.1
          refine Go.of (fun _ k => XS.icmpNo X49.here hx rfl (hb hby at_199) rfl (XT.ii_ne_f hc199_50) k) ?_
          show Go p e below _ T49 (mkF m 202 #[.val (.int x0), .val (.int x1), .val (.int x2), .val (.int x3), .val (.int a), .val (.int fr), .val (.int b), .val (.int (2 : Int32)), .val (.ref (w 2)), .val (.int (b - (1 : Int32))), .val (.int (lvl (2 : Int32) a b)), .val (.int (lvl (2 : Int32) b a))] [])
          refine Go.of (fun _ k => XS.iload X49.here hx rfl (hb hby at_202) rfl k) ?_
          show Go p e below _ T49 (mkF m 204 #[.val (.int x0), .val (.int x1), .val (.int x2), .val (.int x3), .val (.int a), .val (.int fr), .val (.int b), .val (.int (2 : Int32)), .val (.ref (w 2)), .val (.int (b - (1 : Int32))), .val (.int (lvl (2 : Int32) a b)), .val (.int (lvl (2 : Int32) b a))] [(.int (lvl (2 : Int32) b a))])
          refine Go.of (fun _ k => XS.iload X49.here hx rfl (hb hby at_204) rfl k) ?_
          show Go p e below _ T49 (mkF m 206 #[.val (.int x0), .val (.int x1), .val (.int x2), .val (.int x3), .val (.int a), .val (.int fr), .val (.int b), .val (.int (2 : Int32)), .val (.ref (w 2)), .val (.int (b - (1 : Int32))), .val (.int (lvl (2 : Int32) a b)), .val (.int (lvl (2 : Int32) b a))] [(.int (b - (1 : Int32))), (.int (lvl (2 : Int32) b a))])
          have hc206_51 : (lvl (2 : Int32) b a) = (b - (1 : Int32)) := (lvl_lt Ra hc97_47).2.2.2.2.2
          refine Go.of (fun _ k => XS.icmpNo X49.here hx rfl (hb hby at_206) rfl (XT.ii_ne_f hc206_51) k) ?_
          show Go p e below _ T49 (mkF m 209 #[.val (.int x0), .val (.int x1), .val (.int x2), .val (.int x3), .val (.int a), .val (.int fr), .val (.int b), .val (.int (2 : Int32)), .val (.ref (w 2)), .val (.int (b - (1 : Int32))), .val (.int (lvl (2 : Int32) a b)), .val (.int (lvl (2 : Int32) b a))] [])
          refine Go.of (fun _ k => XS.iconst X49.here hx rfl (hb hby at_209) k) ?_
          show Go p e below _ T49 (mkF m 210 #[.val (.int x0), .val (.int x1), .val (.int x2), .val (.int x3), .val (.int a), .val (.int fr), .val (.int b), .val (.int (2 : Int32)), .val (.ref (w 2)), .val (.int (b - (1 : Int32))), .val (.int (lvl (2 : Int32) a b)), .val (.int (lvl (2 : Int32) b a))] [(.int (1 : Int32))])
          refine Go.of (fun _ k => XS.goto X49.here hx rfl (pc0 := 210) (pc' := 214) rfl (hb hby at_210) (by decide) (by decide) k) ?_
          show Go p e below _ T49 (mkF m 214 #[.val (.int x0), .val (.int x1), .val (.int x2), .val (.int x3), .val (.int a), .val (.int fr), .val (.int b), .val (.int (2 : Int32)), .val (.ref (w 2)), .val (.int (b - (1 : Int32))), .val (.int (lvl (2 : Int32) a b)), .val (.int (lvl (2 : Int32) b a))] [(.int (1 : Int32))])
          exact own_retZ (z' := (1 : Int32)) X49 hx hlk hret (hb hby at_214) rfl ⟨rfl, N0⟩ (by decide) (by decide)
        ·
          refine Go.of (fun _ k => XS.icmpYes X41.here hx rfl (pc0 := 97) (pc' := 105) rfl (hb hby at_97) rfl (XT.ii_ge_t hc97_47) (by decide) (by decide) k) ?_
          show Go p e below _ T41 (mkF m 105 #[.val (.int x0), .val (.int x1), .val (.int x2), .val (.int x3), .val (.int a), .val (.int fr), .val (.int b), .val (.int (2 : Int32)), .val (.ref (w 2)), .unset, .unset, .unset] [])
          refine Go.of (fun _ k => XS.iload X41.here hx rfl (hb hby at_105) rfl k) ?_
          show Go p e below _ T41 (mkF m 107 #[.val (.int x0), .val (.int x1), .val (.int x2), .val (.int x3), .val (.int a), .val (.int fr), .val (.int b), .val (.int (2 : Int32)), .val (.ref (w 2)), .unset, .unset, .unset] [(.int b)])
          refine Go.of (fun _ k => XS.istore X41.here hx rfl (hb hby at_107) rfl (l' := #[.val (.int x0), .val (.int x1), .val (.int x2), .val (.int x3), .val (.int a), .val (.int fr), .val (.int b), .val (.int (2 : Int32)), .val (.ref (w 2)), .unset, .val (.int b), .unset]) rfl k) ?_
          show Go p e below _ T41 (mkF m 109 #[.val (.int x0), .val (.int x1), .val (.int x2), .val (.int x3), .val (.int a), .val (.int fr), .val (.int b), .val (.int (2 : Int32)), .val (.ref (w 2)), .unset, .val (.int b), .unset] [])
          refine Go.of (fun _ k => XS.iload X41.here hx rfl (hb hby at_109) rfl k) ?_
          show Go p e below _ T41 (mkF m 111 #[.val (.int x0), .val (.int x1), .val (.int x2), .val (.int x3), .val (.int a), .val (.int fr), .val (.int b), .val (.int (2 : Int32)), .val (.ref (w 2)), .unset, .val (.int b), .unset] [(.int a)])
          refine Go.of (fun _ k => XS.iload X41.here hx rfl (hb hby at_111) rfl k) ?_
          show Go p e below _ T41 (mkF m 113 #[.val (.int x0), .val (.int x1), .val (.int x2), .val (.int x3), .val (.int a), .val (.int fr), .val (.int b), .val (.int (2 : Int32)), .val (.ref (w 2)), .unset, .val (.int b), .unset] [(.int b), (.int a)])
          refine Go.of (fun _ k => XS.icmpYes X41.here hx rfl (pc0 := 113) (pc' := 121) rfl (hb hby at_113) rfl (XT.ii_ge_t hc97_47) (by decide) (by decide) k) ?_
          show Go p e below _ T41 (mkF m 121 #[.val (.int x0), .val (.int x1), .val (.int x2), .val (.int x3), .val (.int a), .val (.int fr), .val (.int b), .val (.int (2 : Int32)), .val (.ref (w 2)), .unset, .val (.int b), .unset] [])
          refine Go.of (fun _ k => XS.iload X41.here hx rfl (hb hby at_121) rfl k) ?_
          show Go p e below _ T41 (mkF m 123 #[.val (.int x0), .val (.int x1), .val (.int x2), .val (.int x3), .val (.int a), .val (.int fr), .val (.int b), .val (.int (2 : Int32)), .val (.ref (w 2)), .unset, .val (.int b), .unset] [(.int a)])
          refine Go.of (fun _ k => XS.istore X41.here hx rfl (hb hby at_123) rfl (l' := #[.val (.int x0), .val (.int x1), .val (.int x2), .val (.int x3), .val (.int a), .val (.int fr), .val (.int b), .val (.int (2 : Int32)), .val (.ref (w 2)), .unset, .val (.int b), .val (.int a)]) rfl k) ?_
          show Go p e below _ T41 (mkF m 125 #[.val (.int x0), .val (.int x1), .val (.int x2), .val (.int x3), .val (.int a), .val (.int fr), .val (.int b), .val (.int (2 : Int32)), .val (.ref (w 2)), .unset, .val (.int b), .val (.int a)] [])
          refine Go.of (fun _ k => XS.iload X41.here hx rfl (hb hby at_125) rfl k) ?_
          show Go p e below _ T41 (mkF m 127 #[.val (.int x0), .val (.int x1), .val (.int x2), .val (.int x3), .val (.int a), .val (.int fr), .val (.int b), .val (.int (2 : Int32)), .val (.ref (w 2)), .unset, .val (.int b), .val (.int a)] [(.int (2 : Int32))])
          refine Go.of (fun _ k => XS.iconst X41.here hx rfl (hb hby at_127) k) ?_
          show Go p e below _ T41 (mkF m 128 #[.val (.int x0), .val (.int x1), .val (.int x2), .val (.int x3), .val (.int a), .val (.int fr), .val (.int b), .val (.int (2 : Int32)), .val (.ref (w 2)), .unset, .val (.int b), .val (.int a)] [(.int (1 : Int32)), (.int (2 : Int32))])
          refine Go.of (fun _ k => XS.icmpYes X41.here hx rfl (pc0 := 128) (pc' := 138) rfl (hb hby at_128) rfl (XT.ii_ne_t (by decide)) (by decide) (by decide) k) ?_
          show Go p e below _ T41 (mkF m 138 #[.val (.int x0), .val (.int x1), .val (.int x2), .val (.int x3), .val (.int a), .val (.int fr), .val (.int b), .val (.int (2 : Int32)), .val (.ref (w 2)), .unset, .val (.int b), .val (.int a)] [])
          refine Go.of (fun _ k => XS.iload X41.here hx rfl (hb hby at_138) rfl k) ?_
          show Go p e below _ T41 (mkF m 140 #[.val (.int x0), .val (.int x1), .val (.int x2), .val (.int x3), .val (.int a), .val (.int fr), .val (.int b), .val (.int (2 : Int32)), .val (.ref (w 2)), .unset, .val (.int b), .val (.int a)] [(.int (2 : Int32))])
          refine Go.of (fun _ k => XS.iconst X41.here hx rfl (hb hby at_140) k) ?_
          show Go p e below _ T41 (mkF m 141 #[.val (.int x0), .val (.int x1), .val (.int x2), .val (.int x3), .val (.int a), .val (.int fr), .val (.int b), .val (.int (2 : Int32)), .val (.ref (w 2)), .unset, .val (.int b), .val (.int a)] [(.int (2 : Int32)), (.int (2 : Int32))])
          refine Go.of (fun _ k => XS.icmpNo X41.here hx rfl (hb hby at_141) rfl (XT.ii_ne_f (by decide)) k) ?_
          show Go p e below _ T41 (mkF m 144 #[.val (.int x0), .val (.int x1), .val (.int x2), .val (.int x3), .val (.int a), .val (.int fr), .val (.int b), .val (.int (2 : Int32)), .val (.ref (w 2)), .unset, .val (.int b), .val (.int a)] [])
          refine Go.of (fun _ k => XS.iload X41.here hx rfl (hb hby at_144) rfl k) ?_
          show Go p e below _ T41 (mkF m 146 #[.val (.int x0), .val (.int x1), .val (.int x2), .val (.int x3), .val (.int a), .val (.int fr), .val (.int b), .val (.int (2 : Int32)), .val (.ref (w 2)), .unset, .val (.int b), .val (.int a)] [(.int a)])
          refine Go.of (fun _ k => XS.iconst X41.here hx rfl (hb hby at_146) k) ?_
          show Go p e below _ T41 (mkF m 147 #[.val (.int x0), .val (.int x1), .val (.int x2), .val (.int x3), .val (.int a), .val (.int fr), .val (.int b), .val (.int (2 : Int32)), .val (.ref (w 2)), .unset, .val (.int b), .val (.int a)] [(.int (1 : Int32)), (.int a)])
          refine Go.of (fun _ k => XS.isub X41.here hx rfl (hb hby at_147) rfl k) ?_
          show Go p e below _ T41 (mkF m 148 #[.val (.int x0), .val (.int x1), .val (.int x2), .val (.int x3), .val (.int a), .val (.int fr), .val (.int b), .val (.int (2 : Int32)), .val (.ref (w 2)), .unset, .val (.int b), .val (.int a)] [(.int (a - (1 : Int32)))])
          refine Go.of (fun _ k => XS.istore X41.here hx rfl (hb hby at_148) rfl (l' := #[.val (.int x0), .val (.int x1), .val (.int x2), .val (.int x3), .val (.int a), .val (.int fr), .val (.int b), .val (.int (2 : Int32)), .val (.ref (w 2)), .val (.int (a - (1 : Int32))), .val (.int b), .val (.int a)]) rfl k) ?_
          show Go p e below _ T41 (mkF m 150 #[.val (.int x0), .val (.int x1), .val (.int x2), .val (.int x3), .val (.int a), .val (.int fr), .val (.int b), .val (.int (2 : Int32)), .val (.ref (w 2)), .val (.int (a - (1 : Int32))), .val (.int b), .val (.int a)] [])
          refine Go.of (fun _ k => XS.goto X41.here hx rfl (pc0 := 150) (pc' := 173) rfl (hb hby at_150) (by decide) (by decide) k) ?_
          show Go p e below _ T41 (mkF m 173 #[.val (.int x0), .val (.int x1), .val (.int x2), .val (.int x3), .val (.int a), .val (.int fr), .val (.int b), .val (.int (2 : Int32)), .val (.ref (w 2)), .val (.int (a - (1 : Int32))), .val (.int b), .val (.int a)] [])
          refine Go.of (fun _ k => XS.aload X41.here hx rfl (hb hby at_173) rfl rfl k) ?_
          show Go p e below _ T41 (mkF m 175 #[.val (.int x0), .val (.int x1), .val (.int x2), .val (.int x3), .val (.int a), .val (.int fr), .val (.int b), .val (.int (2 : Int32)), .val (.ref (w 2)), .val (.int (a - (1 : Int32))), .val (.int b), .val (.int a)] [(.ref (w 2))])
          refine Go.of (fun _ k => XS.iload X41.here hx rfl (hb hby at_175) rfl k) ?_
          show Go p e below _ T41 (mkF m 177 #[.val (.int x0), .val (.int x1), .val (.int x2), .val (.int x3), .val (.int a), .val (.int fr), .val (.int b), .val (.int (2 : Int32)), .val (.ref (w 2)), .val (.int (a - (1 : Int32))), .val (.int b), .val (.int a)] [(.int a), (.ref (w 2))])
          refine Go.of (fun _ k => XS.iload X41.here hx rfl (hb hby at_177) rfl k) ?_
          show Go p e below _ T41 (mkF m 179 #[.val (.int x0), .val (.int x1), .val (.int x2), .val (.int x3), .val (.int a), .val (.int fr), .val (.int b), .val (.int (2 : Int32)), .val (.ref (w 2)), .val (.int (a - (1 : Int32))), .val (.int b), .val (.int a)] [(.int b), (.int a), (.ref (w 2))])
          obtain ⟨T52, X52, e52, st52⟩ := own_pure rfl rfl (own_callVQ X41 hx hZ (y := (⟨"com/example/drawdown/drawdown/core/pricing/SplitRatingRule", "level", "(II)I"⟩ : MethodName)) hown (hw _ (List.mem_of_getElem? (i := 4) rfl)) (hw _ (List.mem_of_getElem? (i := 5) rfl)) (hw _ (List.mem_of_getElem? (i := 7) rfl)) (hw _ (List.mem_of_getElem? (i := 7) rfl)) (hw _ (List.mem_of_getElem? (i := 6) rfl)) (hw _ (List.mem_of_getElem? (i := 8) rfl)) (hw _ (List.mem_of_getElem? (i := 2) rfl)) (by decide) (c4_2 l Z a0 hw h0 (w 2) a b (Ex 2 (by decide)) (Fo 2 (by decide))) (by decide) 0 (by decide) (by decide) (by decide) e41 (Ex 2 (by decide)) (g := (mkF m 179 #[.val (.int x0), .val (.int x1), .val (.int x2), .val (.int x3), .val (.int a), .val (.int fr), .val (.int b), .val (.int (2 : Int32)), .val (.ref (w 2)), .val (.int (a - (1 : Int32))), .val (.int b), .val (.int a)] [(.int b), (.int a), (.ref (w 2))])) rfl (by rw [hml]; rfl) [(.int a), (.int b)] [] (lenOf (by decide +kernel : parseMethodDescriptor "(II)I" = some ⟨[.int, .int], some .int⟩) rfl) rfl (by show 2 * 0 + _ ≤ _; exact Nat.le_of_eq rfl) rfl (hb hby at_179))
          refine Go.of st52 ?_
          show Go p e below _ T52 (mkF m 182 #[.val (.int x0), .val (.int x1), .val (.int x2), .val (.int x3), .val (.int a), .val (.int fr), .val (.int b), .val (.int (2 : Int32)), .val (.ref (w 2)), .val (.int (a - (1 : Int32))), .val (.int b), .val (.int a)] [(.int (lvl (2 : Int32) a b))])
          refine Go.of (fun _ k => XS.istore X52.here hx rfl (hb hby at_182) rfl (l' := #[.val (.int x0), .val (.int x1), .val (.int x2), .val (.int x3), .val (.int a), .val (.int fr), .val (.int b), .val (.int (2 : Int32)), .val (.ref (w 2)), .val (.int (a - (1 : Int32))), .val (.int (lvl (2 : Int32) a b)), .val (.int a)]) rfl k) ?_
          show Go p e below _ T52 (mkF m 184 #[.val (.int x0), .val (.int x1), .val (.int x2), .val (.int x3), .val (.int a), .val (.int fr), .val (.int b), .val (.int (2 : Int32)), .val (.ref (w 2)), .val (.int (a - (1 : Int32))), .val (.int (lvl (2 : Int32) a b)), .val (.int a)] [])
          refine Go.of (fun _ k => XS.aload X52.here hx rfl (hb hby at_184) rfl rfl k) ?_
          show Go p e below _ T52 (mkF m 186 #[.val (.int x0), .val (.int x1), .val (.int x2), .val (.int x3), .val (.int a), .val (.int fr), .val (.int b), .val (.int (2 : Int32)), .val (.ref (w 2)), .val (.int (a - (1 : Int32))), .val (.int (lvl (2 : Int32) a b)), .val (.int a)] [(.ref (w 2))])
          refine Go.of (fun _ k => XS.iload X52.here hx rfl (hb hby at_186) rfl k) ?_
          show Go p e below _ T52 (mkF m 188 #[.val (.int x0), .val (.int x1), .val (.int x2), .val (.int x3), .val (.int a), .val (.int fr), .val (.int b), .val (.int (2 : Int32)), .val (.ref (w 2)), .val (.int (a - (1 : Int32))), .val (.int (lvl (2 : Int32) a b)), .val (.int a)] [(.int b), (.ref (w 2))])
          refine Go.of (fun _ k => XS.iload X52.here hx rfl (hb hby at_188) rfl k) ?_
          show Go p e below _ T52 (mkF m 190 #[.val (.int x0), .val (.int x1), .val (.int x2), .val (.int x3), .val (.int a), .val (.int fr), .val (.int b), .val (.int (2 : Int32)), .val (.ref (w 2)), .val (.int (a - (1 : Int32))), .val (.int (lvl (2 : Int32) a b)), .val (.int a)] [(.int a), (.int b), (.ref (w 2))])
          obtain ⟨T53, X53, e53, st53⟩ := own_pure rfl rfl (own_callVQ X52 hx hZ (y := (⟨"com/example/drawdown/drawdown/core/pricing/SplitRatingRule", "level", "(II)I"⟩ : MethodName)) hown (hw _ (List.mem_of_getElem? (i := 4) rfl)) (hw _ (List.mem_of_getElem? (i := 5) rfl)) (hw _ (List.mem_of_getElem? (i := 7) rfl)) (hw _ (List.mem_of_getElem? (i := 7) rfl)) (hw _ (List.mem_of_getElem? (i := 6) rfl)) (hw _ (List.mem_of_getElem? (i := 8) rfl)) (hw _ (List.mem_of_getElem? (i := 2) rfl)) (by decide) (c4_2 l Z a0 hw h0 (w 2) b a (Ex 2 (by decide)) (Fo 2 (by decide))) (by decide) 0 (by decide) (by decide) (by decide) e52 (Ex 2 (by decide)) (g := (mkF m 190 #[.val (.int x0), .val (.int x1), .val (.int x2), .val (.int x3), .val (.int a), .val (.int fr), .val (.int b), .val (.int (2 : Int32)), .val (.ref (w 2)), .val (.int (a - (1 : Int32))), .val (.int (lvl (2 : Int32) a b)), .val (.int a)] [(.int a), (.int b), (.ref (w 2))])) rfl (by rw [hml]; rfl) [(.int b), (.int a)] [] (lenOf (by decide +kernel : parseMethodDescriptor "(II)I" = some ⟨[.int, .int], some .int⟩) rfl) rfl (by show 2 * 0 + _ ≤ _; exact Nat.le_of_eq rfl) rfl (hb hby at_190))
          refine Go.of st53 ?_
          show Go p e below _ T53 (mkF m 193 #[.val (.int x0), .val (.int x1), .val (.int x2), .val (.int x3), .val (.int a), .val (.int fr), .val (.int b), .val (.int (2 : Int32)), .val (.ref (w 2)), .val (.int (a - (1 : Int32))), .val (.int (lvl (2 : Int32) a b)), .val (.int a)] [(.int (lvl (2 : Int32) b a))])
          refine Go.of (fun _ k => XS.istore X53.here hx rfl (hb hby at_193) rfl (l' := #[.val (.int x0), .val (.int x1), .val (.int x2), .val (.int x3), .val (.int a), .val (.int fr), .val (.int b), .val (.int (2 : Int32)), .val (.ref (w 2)), .val (.int (a - (1 : Int32))), .val (.int (lvl (2 : Int32) a b)), .val (.int (lvl (2 : Int32) b a))]) rfl k) ?_
          show Go p e below _ T53 (mkF m 195 #[.val (.int x0), .val (.int x1), .val (.int x2), .val (.int x3), .val (.int a), .val (.int fr), .val (.int b), .val (.int (2 : Int32)), .val (.ref (w 2)), .val (.int (a - (1 : Int32))), .val (.int (lvl (2 : Int32) a b)), .val (.int (lvl (2 : Int32) b a))] [])
          refine Go.of (fun _ k => XS.iload X53.here hx rfl (hb hby at_195) rfl k) ?_
          show Go p e below _ T53 (mkF m 197 #[.val (.int x0), .val (.int x1), .val (.int x2), .val (.int x3), .val (.int a), .val (.int fr), .val (.int b), .val (.int (2 : Int32)), .val (.ref (w 2)), .val (.int (a - (1 : Int32))), .val (.int (lvl (2 : Int32) a b)), .val (.int (lvl (2 : Int32) b a))] [(.int (lvl (2 : Int32) a b))])
          refine Go.of (fun _ k => XS.iload X53.here hx rfl (hb hby at_197) rfl k) ?_
          show Go p e below _ T53 (mkF m 199 #[.val (.int x0), .val (.int x1), .val (.int x2), .val (.int x3), .val (.int a), .val (.int fr), .val (.int b), .val (.int (2 : Int32)), .val (.ref (w 2)), .val (.int (a - (1 : Int32))), .val (.int (lvl (2 : Int32) a b)), .val (.int (lvl (2 : Int32) b a))] [(.int (a - (1 : Int32))), (.int (lvl (2 : Int32) a b))])
          have hc199_54 : (lvl (2 : Int32) a b) = (a - (1 : Int32)) := (lvl_lt Rb (own_gt hc83_42 hc97_47)).2.2.2.2.2
          refine Go.of (fun _ k => XS.icmpNo X53.here hx rfl (hb hby at_199) rfl (XT.ii_ne_f hc199_54) k) ?_
          show Go p e below _ T53 (mkF m 202 #[.val (.int x0), .val (.int x1), .val (.int x2), .val (.int x3), .val (.int a), .val (.int fr), .val (.int b), .val (.int (2 : Int32)), .val (.ref (w 2)), .val (.int (a - (1 : Int32))), .val (.int (lvl (2 : Int32) a b)), .val (.int (lvl (2 : Int32) b a))] [])
          refine Go.of (fun _ k => XS.iload X53.here hx rfl (hb hby at_202) rfl k) ?_
          show Go p e below _ T53 (mkF m 204 #[.val (.int x0), .val (.int x1), .val (.int x2), .val (.int x3), .val (.int a), .val (.int fr), .val (.int b), .val (.int (2 : Int32)), .val (.ref (w 2)), .val (.int (a - (1 : Int32))), .val (.int (lvl (2 : Int32) a b)), .val (.int (lvl (2 : Int32) b a))] [(.int (lvl (2 : Int32) b a))])
          refine Go.of (fun _ k => XS.iload X53.here hx rfl (hb hby at_204) rfl k) ?_
          show Go p e below _ T53 (mkF m 206 #[.val (.int x0), .val (.int x1), .val (.int x2), .val (.int x3), .val (.int a), .val (.int fr), .val (.int b), .val (.int (2 : Int32)), .val (.ref (w 2)), .val (.int (a - (1 : Int32))), .val (.int (lvl (2 : Int32) a b)), .val (.int (lvl (2 : Int32) b a))] [(.int (a - (1 : Int32))), (.int (lvl (2 : Int32) b a))])
          have hc206_55 : (lvl (2 : Int32) b a) = (a - (1 : Int32)) := (lvl_lt Rb (own_gt hc83_42 hc97_47)).2.2.2.2.1
          refine Go.of (fun _ k => XS.icmpNo X53.here hx rfl (hb hby at_206) rfl (XT.ii_ne_f hc206_55) k) ?_
          show Go p e below _ T53 (mkF m 209 #[.val (.int x0), .val (.int x1), .val (.int x2), .val (.int x3), .val (.int a), .val (.int fr), .val (.int b), .val (.int (2 : Int32)), .val (.ref (w 2)), .val (.int (a - (1 : Int32))), .val (.int (lvl (2 : Int32) a b)), .val (.int (lvl (2 : Int32) b a))] [])
          refine Go.of (fun _ k => XS.iconst X53.here hx rfl (hb hby at_209) k) ?_
          show Go p e below _ T53 (mkF m 210 #[.val (.int x0), .val (.int x1), .val (.int x2), .val (.int x3), .val (.int a), .val (.int fr), .val (.int b), .val (.int (2 : Int32)), .val (.ref (w 2)), .val (.int (a - (1 : Int32))), .val (.int (lvl (2 : Int32) a b)), .val (.int (lvl (2 : Int32) b a))] [(.int (1 : Int32))])
          refine Go.of (fun _ k => XS.goto X53.here hx rfl (pc0 := 210) (pc' := 214) rfl (hb hby at_210) (by decide) (by decide) k) ?_
          show Go p e below _ T53 (mkF m 214 #[.val (.int x0), .val (.int x1), .val (.int x2), .val (.int x3), .val (.int a), .val (.int fr), .val (.int b), .val (.int (2 : Int32)), .val (.ref (w 2)), .val (.int (a - (1 : Int32))), .val (.int (lvl (2 : Int32) a b)), .val (.int (lvl (2 : Int32) b a))] [(.int (1 : Int32))])
          exact own_retZ (z' := (1 : Int32)) X53 hx hlk hret (hb hby at_214) rfl ⟨rfl, N0⟩ (by decide) (by decide)
  refine Go.of (fun _ k => XS.iloadN X0.here hx rfl (hb hby at_6) rfl k) ?_
  show Go p e below _ s₁ (mkF m 7 #[.val (.int x0), .val (.int x1), .val (.int x2), .val (.int x3), .val (.int a), .unset, .unset, .unset, .unset, .unset, .unset, .unset] [(.int x2)])
  refine Go.of (fun _ k => XS.iconst X0.here hx rfl (hb hby at_7) k) ?_
  show Go p e below _ s₁ (mkF m 8 #[.val (.int x0), .val (.int x1), .val (.int x2), .val (.int x3), .val (.int a), .unset, .unset, .unset, .unset, .unset, .unset, .unset] [(.int (4 : Int32)), (.int x2)])
  refine Go.of (fun _ k => XS.iand X0.here hx rfl (hb hby at_8) rfl k) ?_
  show Go p e below _ s₁ (mkF m 9 #[.val (.int x0), .val (.int x1), .val (.int x2), .val (.int x3), .val (.int a), .unset, .unset, .unset, .unset, .unset, .unset, .unset] [(.int (x2 &&& (4 : Int32)))])
  by_cases hc9_56 : (x2 &&& (4 : Int32)) = (0 : Int32)
  ·
    refine Go.of (fun _ k => XS.ifYes X0.here hx rfl (pc0 := 9) (pc' := 16) rfl (hb hby at_9) rfl (XT.i0_eq_t hc9_56) (by decide) (by decide) k) ?_
    show Go p e below _ s₁ (mkF m 16 #[.val (.int x0), .val (.int x1), .val (.int x2), .val (.int x3), .val (.int a), .unset, .unset, .unset, .unset, .unset, .unset, .unset] [])
    refine Go.of (fun _ k => XS.iconst X0.here hx rfl (hb hby at_16) k) ?_
    show Go p e below _ s₁ (mkF m 17 #[.val (.int x0), .val (.int x1), .val (.int x2), .val (.int x3), .val (.int a), .unset, .unset, .unset, .unset, .unset, .unset, .unset] [(.int (0 : Int32))])
    refine Go.of (fun _ k => XS.istore X0.here hx rfl (hb hby at_17) rfl (l' := #[.val (.int x0), .val (.int x1), .val (.int x2), .val (.int x3), .val (.int a), .val (.int (0 : Int32)), .unset, .unset, .unset, .unset, .unset, .unset]) rfl k) ?_
    show Go p e below _ s₁ (mkF m 19 #[.val (.int x0), .val (.int x1), .val (.int x2), .val (.int x3), .val (.int a), .val (.int (0 : Int32)), .unset, .unset, .unset, .unset, .unset, .unset] [])
    refine Go.of (fun _ k => XS.iload X0.here hx rfl (hb hby at_19) rfl k) ?_
    show Go p e below _ s₁ (mkF m 21 #[.val (.int x0), .val (.int x1), .val (.int x2), .val (.int x3), .val (.int a), .val (.int (0 : Int32)), .unset, .unset, .unset, .unset, .unset, .unset] [(.int (0 : Int32))])
    refine Go.of (fun _ k => XS.ifYes X0.here hx rfl (pc0 := 21) (pc' := 31) rfl (hb hby at_21) rfl (XT.i0_eq_t (by decide)) (by decide) (by decide) k) ?_
    show Go p e below _ s₁ (mkF m 31 #[.val (.int x0), .val (.int x1), .val (.int x2), .val (.int x3), .val (.int a), .val (.int (0 : Int32)), .unset, .unset, .unset, .unset, .unset, .unset] [])
    refine Go.of (fun _ k => XS.iload X0.here hx rfl (hb hby at_31) rfl k) ?_
    show Go p e below _ s₁ (mkF m 33 #[.val (.int x0), .val (.int x1), .val (.int x2), .val (.int x3), .val (.int a), .val (.int (0 : Int32)), .unset, .unset, .unset, .unset, .unset, .unset] [(.int a)])
    refine Go.of (fun _ k => XS.iloadN X0.here hx rfl (hb hby at_33) rfl k) ?_
    show Go p e below _ s₁ (mkF m 34 #[.val (.int x0), .val (.int x1), .val (.int x2), .val (.int x3), .val (.int a), .val (.int (0 : Int32)), .unset, .unset, .unset, .unset, .unset, .unset] [(.int x2), (.int a)])
    refine Go.of (fun _ k => XS.iconst X0.here hx rfl (hb hby at_34) k) ?_
    show Go p e below _ s₁ (mkF m 35 #[.val (.int x0), .val (.int x1), .val (.int x2), .val (.int x3), .val (.int a), .val (.int (0 : Int32)), .unset, .unset, .unset, .unset, .unset, .unset] [(.int (3 : Int32)), (.int x2), (.int a)])
    refine Go.of (fun _ k => XS.iand X0.here hx rfl (hb hby at_35) rfl k) ?_
    show Go p e below _ s₁ (mkF m 36 #[.val (.int x0), .val (.int x1), .val (.int x2), .val (.int x3), .val (.int a), .val (.int (0 : Int32)), .unset, .unset, .unset, .unset, .unset, .unset] [(.int (x2 &&& (3 : Int32))), (.int a)])
    refine Go.of (fun _ k => XT.ixor X0.here hx rfl (hb hby at_36) rfl k) ?_
    show Go p e below _ s₁ (mkF m 37 #[.val (.int x0), .val (.int x1), .val (.int x2), .val (.int x3), .val (.int a), .val (.int (0 : Int32)), .unset, .unset, .unset, .unset, .unset, .unset] [(.int (a ^^^ (x2 &&& (3 : Int32))))])
    refine Go.of (fun _ k => XS.istore X0.here hx rfl (hb hby at_37) rfl (l' := #[.val (.int x0), .val (.int x1), .val (.int x2), .val (.int x3), .val (.int a), .val (.int (0 : Int32)), .val (.int (a ^^^ (x2 &&& (3 : Int32)))), .unset, .unset, .unset, .unset, .unset]) rfl k) ?_
    show Go p e below _ s₁ (mkF m 39 #[.val (.int x0), .val (.int x1), .val (.int x2), .val (.int x3), .val (.int a), .val (.int (0 : Int32)), .val (.int (a ^^^ (x2 &&& (3 : Int32)))), .unset, .unset, .unset, .unset, .unset] [])
    exact J _ _ ((c_xorS a (x2 &&& 3)).2.2.2 Ra (c_and x2 3 (by decide)).1)
  ·
    refine Go.of (fun _ k => XS.ifNo X0.here hx rfl (hb hby at_9) rfl (XT.i0_eq_f hc9_56) k) ?_
    show Go p e below _ s₁ (mkF m 12 #[.val (.int x0), .val (.int x1), .val (.int x2), .val (.int x3), .val (.int a), .unset, .unset, .unset, .unset, .unset, .unset, .unset] [])
    refine Go.of (fun _ k => XS.iconst X0.here hx rfl (hb hby at_12) k) ?_
    show Go p e below _ s₁ (mkF m 13 #[.val (.int x0), .val (.int x1), .val (.int x2), .val (.int x3), .val (.int a), .unset, .unset, .unset, .unset, .unset, .unset, .unset] [(.int (1 : Int32))])
    refine Go.of (fun _ k => XS.goto X0.here hx rfl (pc0 := 13) (pc' := 17) rfl (hb hby at_13) (by decide) (by decide) k) ?_
    show Go p e below _ s₁ (mkF m 17 #[.val (.int x0), .val (.int x1), .val (.int x2), .val (.int x3), .val (.int a), .unset, .unset, .unset, .unset, .unset, .unset, .unset] [(.int (1 : Int32))])
    refine Go.of (fun _ k => XS.istore X0.here hx rfl (hb hby at_17) rfl (l' := #[.val (.int x0), .val (.int x1), .val (.int x2), .val (.int x3), .val (.int a), .val (.int (1 : Int32)), .unset, .unset, .unset, .unset, .unset, .unset]) rfl k) ?_
    show Go p e below _ s₁ (mkF m 19 #[.val (.int x0), .val (.int x1), .val (.int x2), .val (.int x3), .val (.int a), .val (.int (1 : Int32)), .unset, .unset, .unset, .unset, .unset, .unset] [])
    refine Go.of (fun _ k => XS.iload X0.here hx rfl (hb hby at_19) rfl k) ?_
    show Go p e below _ s₁ (mkF m 21 #[.val (.int x0), .val (.int x1), .val (.int x2), .val (.int x3), .val (.int a), .val (.int (1 : Int32)), .unset, .unset, .unset, .unset, .unset, .unset] [(.int (1 : Int32))])
    refine Go.of (fun _ k => XS.ifNo X0.here hx rfl (hb hby at_21) rfl (XT.i0_eq_f (by decide)) k) ?_
    show Go p e below _ s₁ (mkF m 24 #[.val (.int x0), .val (.int x1), .val (.int x2), .val (.int x3), .val (.int a), .val (.int (1 : Int32)), .unset, .unset, .unset, .unset, .unset, .unset] [])
    refine Go.of (fun _ k => XS.iloadN X0.here hx rfl (hb hby at_24) rfl k) ?_
    show Go p e below _ s₁ (mkF m 25 #[.val (.int x0), .val (.int x1), .val (.int x2), .val (.int x3), .val (.int a), .val (.int (1 : Int32)), .unset, .unset, .unset, .unset, .unset, .unset] [(.int x1)])
    refine Go.of (fun _ k => X0.ldcI hx hown (mvT hZ (hw _ (List.mem_of_getElem? (i := 0) rfl))) rfl (hb hby at_25) k) ?_
    show Go p e below _ s₁ (mkF m 27 #[.val (.int x0), .val (.int x1), .val (.int x2), .val (.int x3), .val (.int a), .val (.int (1 : Int32)), .unset, .unset, .unset, .unset, .unset, .unset] [(.int (2147483647 : Int32)), (.int x1)])
    refine Go.of (fun _ k => XS.iand X0.here hx rfl (hb hby at_27) rfl k) ?_
    show Go p e below _ s₁ (mkF m 28 #[.val (.int x0), .val (.int x1), .val (.int x2), .val (.int x3), .val (.int a), .val (.int (1 : Int32)), .unset, .unset, .unset, .unset, .unset, .unset] [(.int (x1 &&& (2147483647 : Int32)))])
    refine Go.of (fun _ k => XS.goto X0.here hx rfl (pc0 := 28) (pc' := 37) rfl (hb hby at_28) (by decide) (by decide) k) ?_
    show Go p e below _ s₁ (mkF m 37 #[.val (.int x0), .val (.int x1), .val (.int x2), .val (.int x3), .val (.int a), .val (.int (1 : Int32)), .unset, .unset, .unset, .unset, .unset, .unset] [(.int (x1 &&& (2147483647 : Int32)))])
    refine Go.of (fun _ k => XS.istore X0.here hx rfl (hb hby at_37) rfl (l' := #[.val (.int x0), .val (.int x1), .val (.int x2), .val (.int x3), .val (.int a), .val (.int (1 : Int32)), .val (.int (x1 &&& (2147483647 : Int32))), .unset, .unset, .unset, .unset, .unset]) rfl k) ?_
    show Go p e below _ s₁ (mkF m 39 #[.val (.int x0), .val (.int x1), .val (.int x2), .val (.int x3), .val (.int a), .val (.int (1 : Int32)), .val (.int (x1 &&& (2147483647 : Int32))), .unset, .unset, .unset, .unset, .unset] [])
    exact J _ _ ((c_and x1 2147483647 (by decide)).1)
set_option maxRecDepth 65536 in
set_option maxHeartbeats 40000000 in
theorem comes_1 {Post : Tables → Env → Array Value → State → Outcome → State → Prop} (hpost : ∀ tb e args s v u, (limb_1_1.after args s (.returned v) u = true ∧ limb_1_2.after args s (.returned v) u = true ∧ True) → FrameEnd s (.returned v) u (Jvm.fieldLocs frame_1_writes args s ++ Jvm.arrayLocs frame_1_arrays args s ++ Jvm.staticLocs frame_1_statics s) 0 0 → Post tb e args s (.returned v) u) :
    ArmFor flags0 classFile x code maxLocals ret World_1 tables_1 room_1 Calls_1 rest_1 Pre_1 Post := by
  intro l hfl _ _ p e ha hc hk s m args below hf hA hF happ hP
  obtain ⟨hcalls, hrest, hpre⟩ := hP
  obtain ⟨-, -, -, hnamed, -, -, -, hat⟩ := (Spec.applies_iff hf).mp happ
  obtain ⟨hg, hn⟩ := and_e (Cond.before_iff.mp (show (Jvm.Cond.and given_1 narrow_1).before args s = true from hpre))
  obtain ⟨g0, g1⟩ := and_e hg
  obtain ⟨x0, x1, x2, x3, rfl⟩ : ∃ x0 x1 x2 x3 : Value, args = #[x0, x1, x2, x3] := by
    have hs : args.size = 4 := by simpa [Cond.value, given_1] using g0
    obtain ⟨L⟩ := args
    match L, hs with
    | [x0, x1, x2, x3], _ => exact ⟨x0, x1, x2, x3, rfl⟩
  have hw := fun d (hd : d ∈ tables_1) => atoms_spec (ws := Jvm.Cond.code x code maxLocals ret :: tables_1) hat d (List.mem_cons_of_mem _ hd)
  obtain ⟨b0, c0⟩ := and_e g1
  obtain ⟨i0, z0⟩ := is_v b0
  obtain rfl : x0 = (.int i0) := Option.some.inj z0
  obtain ⟨b1, c1⟩ := and_e c0
  obtain ⟨i1, z1⟩ := is_v b1
  obtain rfl : x1 = (.int i1) := Option.some.inj z1
  obtain ⟨b2, c2⟩ := and_e c1
  obtain ⟨i2, z2⟩ := is_v b2
  obtain rfl : x2 = (.int i2) := Option.some.inj z2
  obtain ⟨i3, z3⟩ := is_v c2
  obtain rfl : x3 = (.int i3) := Option.some.inj z3
  obtain ⟨q0, r0⟩ := and_e hn
  obtain ⟨q1, r1⟩ := and_e r0
  obtain ⟨q2, r2⟩ := and_e r1
  obtain ⟨q3, r3⟩ := and_e r2
  obtain ⟨q4, r4⟩ := and_e r3
  have q5 := r4
  obtain ⟨w0, v0⟩ := exa_v q4
  have E0 := Exa.start v0 q4
  have S0 := Sta.start v0 (Or.inr ⟨(hw _ (List.mem_of_getElem? (i := 2) rfl)), (hw _ (List.mem_of_getElem? (i := 28) rfl))⟩)
  have F0 := own_fld v0 q5
  obtain ⟨w1, v1⟩ := exa_v q0
  have E1 := Exa.start v1 q0
  have S1 := Sta.start v1 (Or.inr ⟨(hw _ (List.mem_of_getElem? (i := 2) rfl)), (hw _ (List.mem_of_getElem? (i := 3) rfl))⟩)
  have F1 := own_fld v1 q1
  obtain ⟨w2, v2⟩ := exa_v q2
  have E2 := Exa.start v2 q2
  have S2 := Sta.start v2 (Or.inr ⟨(hw _ (List.mem_of_getElem? (i := 2) rfl)), (hw _ (List.mem_of_getElem? (i := 26) rfl))⟩)
  have F2 := own_fld v2 q3
  have D : Wd s s.heap (fun | 0 => w0 | 1 => w1 | _ => w2) := ⟨S0, S1, S2, (fun i hi => match i, hi with | 0, _ => E0 | 1, _ => E1 | 2, _ => E2 | (k + 3), h => absurd h (by omega)), (fun i hi => match i, hi with | 0, _ => F0 | 1, _ => F1 | 2, _ => F2 | (k + 3), h => absurd h (by omega))⟩
  obtain ⟨n, o, h1, h2, h3, _, L, rfl, ⟨rfl, N⟩, hq⟩ := rm0 l s _ hw tables_1 (fun | 0 => w0 | 1 => w1 | _ => w2) s.heap s.heap.size D i0 i1 i2 i3 p e ha hc hk s m _ below hf ((Spec.applies_iff_loose hf).mp happ).1 ⟨rfl, State.Warmed39.refl s, rfl⟩ trivial
  refine ⟨n, _, h1, h2, h3, hpost _ _ _ _ _ _ ⟨Cond.after_iff.mpr rfl, Cond.after_iff.mpr (eq_i res_at (Term.int_eval (1)) rfl), trivial⟩ ⟨hq.1, hq.2.1, (hq.2.2.sift fun y hy => Or.inr (N y hy)).mono (by decide) (by decide)⟩⟩
theorem main_1_1 : Claimed_1_1 := comes_1 fun _ _ _ _ _ _ h hF => ⟨h.1, hF⟩
theorem main_1_2 : Claimed_1_2 := comes_1 fun _ _ _ _ _ _ h hF => ⟨h.2.1, hF⟩
end Jvm.Pilot.@@N@@
namespace Jvm.Pilot.@@N@@
open Jvm Jvm.ClassFile Sem Op Lib Jvm.Free Jvm.Stand Jvm.Pilot.@@N@@.Jvm.D
/-! MADE BY PROGRAM (witnessworld.py) out of the Statement's table words and the real class files: 11 classes; the members and pool entries that the words name. The judged class is class 1, her method 1. -/
namespace start1
open Jvm.ClassFile
def u (s : String) : CpInfo := .utf8 (stringToUtf16 s)
/-- a pool by its gaps: so many unusable entries, then the entry; so many at the end -/
def gap : Nat → List CpInfo → List CpInfo
  | 0, r => r
  | n + 1, r => .unusable :: gap n r
def poolList (es : List (Nat × CpInfo)) (last : Nat) : List CpInfo := es.foldr (fun e r => gap e.1 (e.2 :: r)) (gap last [])
def pool (es : List (Nat × CpInfo)) (last : Nat) : Array CpInfo := ⟨poolList es last⟩
def fileOf (pool : Array CpInfo) (this : Nat) (attrs : Array Attribute := #[]) (ms : Array MethodInfo := #[]) (fl : Nat := 33) (sup : Nat := 0) (ifs : Array Nat := #[]) (fds : Array FieldInfo := #[]) : ClassFile where
  minorVersion := 0
  majorVersion := 65
  constantPool := pool
  accessFlags := fl
  thisClass := this
  superClass := sup
  interfaces := ifs
  fields := fds
  methods := ms
  attributes := attrs
def plain (name : String) (sup : Option ClassId) : Class where
  name := name
  kind := .ordinary
  loader := none
  accessFlags := 33
  super := sup
  interfaces := #[]
  cf := none
  fields := #[]
  methods := #[]
  instanceTypes := #[]
  staticTypes := #[]
  resolved := #[]
  callSites := []
  init := .initialized
  statics := none
  mirror := none

def pool0 : Array CpInfo := pool [(5, u "<init>"), (0, u "()V"), (1, .class_ 10), (1, u "java/lang/Object")] 113

def k0m0 : Method := { name := "<init>", desc := "()V", sig := { parameters := [], returnType := none }, accessFlags := 1, code := none }
/-- java/lang/Object -/
def k0 : Class := { plain "java/lang/Object" none with
  accessFlags := 33
  interfaces := #[]
  cf := some (fileOf pool0 8 #[] #[{ accessFlags := 1, nameIndex := 5, descriptorIndex := 6, attributes := #[] }] 33 0 #[] #[])
  fields := #[]
  methods := #[k0m0]
  instanceTypes := #[]
  staticTypes := #[]
  resolved := Array.replicate 124 none
  statics := none }

def pool1 : Array CpInfo := pool [(2, .class_ 4), (1, u "java/lang/Object"), (0, u "<init>"), (0, u "()V"), (0, .integer 2147483647), (0, .fieldref 9 10), (0, .class_ 11), (0, .nameAndType 12 13), (0, u "com/example/drawdown/drawdown/core/pricing/SplitRatingRule"), (0, u "COLUMNS"), (0, u "Lcom/example/drawdown/drawdown/core/pricing/SplitRatingRule;"), (0, .fieldref 9 15), (0, .nameAndType 16 13), (0, u "BETTER"), (0, .fieldref 9 18), (0, .nameAndType 19 13), (0, u "ONE_BETTER_THAN_WORSE"), (0, .methodref 9 21), (0, .nameAndType 22 23), (0, u "level"), (0, u "(II)I"), (0, .class_ 25), (0, u "com/example/drawdown/drawdown/core/pricing/SplitRatingRuleLevelPinLaw"), (2, u "law"), (0, u "(IIII)Z")] 3

def k1m0 : Method := { name := "<init>", desc := "()V", sig := { parameters := [], returnType := none }, accessFlags := 1, code := none }
def k1c1 : Code := { maxStack := 3, maxLocals := 12, code := code, exceptionTable := #[], attributes := #[] }
def k1m1 : Method := { name := "law", desc := "(IIII)Z", sig := { parameters := [.int, .int, .int, .int], returnType := some .boolean }, accessFlags := 9, code := some k1c1 }
/-- com/example/drawdown/drawdown/core/pricing/SplitRatingRuleLevelPinLaw -/
def k1 : Class := { plain "com/example/drawdown/drawdown/core/pricing/SplitRatingRuleLevelPinLaw" (some 0) with
  accessFlags := 49
  interfaces := #[]
  cf := some (fileOf pool1 24 #[] #[{ accessFlags := 1, nameIndex := 5, descriptorIndex := 6, attributes := #[] }, { accessFlags := 9, nameIndex := 28, descriptorIndex := 29, attributes := #[] }] 49 2 #[] #[])
  fields := #[]
  methods := #[k1m0, k1m1]
  instanceTypes := #[]
  staticTypes := #[]
  resolved := Array.replicate 33 none
  statics := none }

def pool2 : Array CpInfo := pool [(1, .class_ 2), (0, u "java/lang/constant/Constable"), (0, .class_ 4), (0, u "java/lang/Object")] 6

/-- java/lang/constant/Constable -/
def k2 : Class := { plain "java/lang/constant/Constable" (some 0) with
  accessFlags := 1537
  interfaces := #[]
  cf := some (fileOf pool2 1 #[] #[] 1537 3 #[] #[])
  fields := #[]
  methods := #[]
  instanceTypes := #[]
  staticTypes := #[]
  resolved := Array.replicate 11 none
  statics := none }

def pool3 : Array CpInfo := pool [(1, .class_ 2), (0, u "java/lang/Comparable"), (0, .class_ 4), (0, u "java/lang/Object")] 7

/-- java/lang/Comparable -/
def k3 : Class := { plain "java/lang/Comparable" (some 0) with
  accessFlags := 1537
  interfaces := #[]
  cf := some (fileOf pool3 1 #[] #[] 1537 3 #[] #[])
  fields := #[]
  methods := #[]
  instanceTypes := #[]
  staticTypes := #[]
  resolved := Array.replicate 12 none
  statics := none }

def pool4 : Array CpInfo := pool [(1, .class_ 2), (0, u "java/io/Serializable"), (0, .class_ 4), (0, u "java/lang/Object")] 2

/-- java/io/Serializable -/
def k4 : Class := { plain "java/io/Serializable" (some 0) with
  accessFlags := 1537
  interfaces := #[]
  cf := some (fileOf pool4 1 #[] #[] 1537 3 #[] #[])
  fields := #[]
  methods := #[]
  instanceTypes := #[]
  staticTypes := #[]
  resolved := Array.replicate 7 none
  statics := none }

def pool5 : Array CpInfo := pool [(2, .class_ 4), (1, u "java/lang/Enum"), (0, u "name"), (0, u "Ljava/lang/String;"), (0, .fieldref 2 8), (0, .nameAndType 9 10), (0, u "ordinal"), (0, u "I"), (1, .class_ 14), (1, u "java/lang/Object"), (4, u "hash"), (86, .class_ 108), (1, u "java/lang/Enum$EnumDesc"), (2, .class_ 112), (0, u "java/lang/constant/Constable"), (0, .class_ 114), (0, u "java/lang/Comparable"), (0, .class_ 116), (0, u "java/io/Serializable"), (9, u "()I")] 77

def k5c0 : Code := { maxStack := 1, maxLocals := 1, code := jdk_37_method_2_code, exceptionTable := #[], attributes := #[] }
def k5m0 : Method := { name := "ordinal", desc := "()I", sig := { parameters := [], returnType := some .int }, accessFlags := 17, code := some k5c0 }
/-- java/lang/Enum -/
def k5 : Class := { plain "java/lang/Enum" (some 0) with
  accessFlags := 1057
  interfaces := #[2, 3, 4]
  cf := some (fileOf pool5 2 #[.nestMembers #[106]] #[{ accessFlags := 17, nameIndex := 9, descriptorIndex := 126, attributes := #[] }] 1057 12 #[111, 113, 115] #[{ accessFlags := 18, nameIndex := 5, descriptorIndex := 6, attributes := #[] }, { accessFlags := 18, nameIndex := 9, descriptorIndex := 10, attributes := #[] }, { accessFlags := 2, nameIndex := 19, descriptorIndex := 10, attributes := #[] }])
  fields := #[{ name := "name", type := (.object "java/lang/String"), accessFlags := 18, slot := 0, constantValue := 0 }, { name := "ordinal", type := .int, accessFlags := 18, slot := 1, constantValue := 0 }, { name := "hash", type := .int, accessFlags := 2, slot := 2, constantValue := 0 }]
  methods := #[k5m0]
  instanceTypes := #[(.object "java/lang/String"), .int, .int]
  staticTypes := #[]
  resolved := Array.replicate 204 none
  statics := none }

def pool6 : Array CpInfo := pool [(1, .class_ 2), (0, u "com/example/drawdown/drawdown/core/pricing/SplitRatingRule"), (2, u "COLUMNS"), (0, u "Lcom/example/drawdown/drawdown/core/pricing/SplitRatingRule;"), (2, u "BETTER"), (2, u "ONE_BETTER_THAN_WORSE"), (2, u "$VALUES"), (0, u "[Lcom/example/drawdown/drawdown/core/pricing/SplitRatingRule;"), (6, .class_ 25), (1, u "java/lang/Enum"), (6, .methodref 33 34), (0, .class_ 35), (0, .nameAndType 36 37), (0, u "java/lang/Math"), (0, u "min"), (0, u "(II)I"), (0, .methodref 33 39), (0, .nameAndType 40 37), (0, u "max"), (0, .methodref 1 42), (0, .nameAndType 43 44), (0, u "ordinal"), (0, u "()I"), (20, u "level")] 5

def k6c0 : Code := { maxStack := 4, maxLocals := 6, code := prog_73_method_4_code, exceptionTable := #[], attributes := #[] }
def k6m0 : Method := { name := "level", desc := "(II)I", sig := { parameters := [.int, .int], returnType := some .int }, accessFlags := 1, code := some k6c0 }
/-- com/example/drawdown/drawdown/core/pricing/SplitRatingRule -/
def k6 : Class := { plain "com/example/drawdown/drawdown/core/pricing/SplitRatingRule" (some 5) with
  accessFlags := 16433
  interfaces := #[]
  cf := some (fileOf pool6 1 #[] #[{ accessFlags := 1, nameIndex := 65, descriptorIndex := 37, attributes := #[] }] 16433 23 #[] #[{ accessFlags := 16409, nameIndex := 5, descriptorIndex := 6, attributes := #[] }, { accessFlags := 16409, nameIndex := 9, descriptorIndex := 6, attributes := #[] }, { accessFlags := 16409, nameIndex := 12, descriptorIndex := 6, attributes := #[] }, { accessFlags := 4122, nameIndex := 15, descriptorIndex := 16, attributes := #[] }])
  fields := #[{ name := "COLUMNS", type := (.object "com/example/drawdown/drawdown/core/pricing/SplitRatingRule"), accessFlags := 16409, slot := 0, constantValue := 0 }, { name := "BETTER", type := (.object "com/example/drawdown/drawdown/core/pricing/SplitRatingRule"), accessFlags := 16409, slot := 1, constantValue := 0 }, { name := "ONE_BETTER_THAN_WORSE", type := (.object "com/example/drawdown/drawdown/core/pricing/SplitRatingRule"), accessFlags := 16409, slot := 2, constantValue := 0 }, { name := "$VALUES", type := (.array (.object "com/example/drawdown/drawdown/core/pricing/SplitRatingRule")), accessFlags := 4122, slot := 3, constantValue := 0 }]
  methods := #[k6m0]
  instanceTypes := #[(.object "java/lang/String"), .int, .int]
  staticTypes := #[(.object "com/example/drawdown/drawdown/core/pricing/SplitRatingRule"), (.object "com/example/drawdown/drawdown/core/pricing/SplitRatingRule"), (.object "com/example/drawdown/drawdown/core/pricing/SplitRatingRule"), (.array (.object "com/example/drawdown/drawdown/core/pricing/SplitRatingRule"))]
  resolved := Array.replicate 71 none
  statics := some 0 }

def pool7 : Array CpInfo := pool [(1, .class_ 2), (0, u "java/lang/Math"), (1, .class_ 6), (1, u "java/lang/Object"), (0, u "<init>"), (0, u "()V"), (89, .class_ 100), (1, u "java/lang/Math$RandomNumberGeneratorHolder"), (71, u "negativeZeroFloatBits"), (0, u "J"), (2, u "negativeZeroDoubleBits"), (21, u "max"), (2, u "min"), (43, u "$assertionsDisabled"), (0, u "Z"), (88, u "(II)I"), (2, u "twoToTheDoubleScaleDown"), (0, u "D"), (4, u "twoToTheDoubleScaleUp"), (9, u "E"), (3, u "PI"), (2, u "TAU"), (2, u "DEGREES_TO_RADIANS"), (0, u "RADIANS_TO_DEGREES")] 94

def k7m0 : Method := { name := "<init>", desc := "()V", sig := { parameters := [], returnType := none }, accessFlags := 2, code := none }
def k7c1 : Code := { maxStack := 2, maxLocals := 2, code := jdk_29_method_65_code, exceptionTable := #[], attributes := #[] }
def k7m1 : Method := { name := "max", desc := "(II)I", sig := { parameters := [.int, .int], returnType := some .int }, accessFlags := 9, code := some k7c1 }
def k7c2 : Code := { maxStack := 2, maxLocals := 2, code := jdk_29_method_69_code, exceptionTable := #[], attributes := #[] }
def k7m2 : Method := { name := "min", desc := "(II)I", sig := { parameters := [.int, .int], returnType := some .int }, accessFlags := 9, code := some k7c2 }
/-- java/lang/Math -/
def k7 : Class := { plain "java/lang/Math" (some 0) with
  accessFlags := 49
  interfaces := #[]
  cf := some (fileOf pool7 1 #[.nestMembers #[98]] #[{ accessFlags := 2, nameIndex := 7, descriptorIndex := 8, attributes := #[] }, { accessFlags := 9, nameIndex := 198, descriptorIndex := 335, attributes := #[] }, { accessFlags := 9, nameIndex := 201, descriptorIndex := 335, attributes := #[] }] 49 4 #[] #[{ accessFlags := 25, nameIndex := 354, descriptorIndex := 339, attributes := #[] }, { accessFlags := 25, nameIndex := 358, descriptorIndex := 339, attributes := #[] }, { accessFlags := 25, nameIndex := 361, descriptorIndex := 339, attributes := #[] }, { accessFlags := 26, nameIndex := 364, descriptorIndex := 339, attributes := #[] }, { accessFlags := 26, nameIndex := 365, descriptorIndex := 339, attributes := #[] }, { accessFlags := 26, nameIndex := 172, descriptorIndex := 173, attributes := #[] }, { accessFlags := 26, nameIndex := 176, descriptorIndex := 173, attributes := #[] }, { accessFlags := 8, nameIndex := 344, descriptorIndex := 339, attributes := #[] }, { accessFlags := 8, nameIndex := 338, descriptorIndex := 339, attributes := #[] }, { accessFlags := 4120, nameIndex := 245, descriptorIndex := 246, attributes := #[] }])
  fields := #[{ name := "E", type := .double, accessFlags := 25, slot := 0, constantValue := 0 }, { name := "PI", type := .double, accessFlags := 25, slot := 1, constantValue := 0 }, { name := "TAU", type := .double, accessFlags := 25, slot := 2, constantValue := 0 }, { name := "DEGREES_TO_RADIANS", type := .double, accessFlags := 26, slot := 3, constantValue := 0 }, { name := "RADIANS_TO_DEGREES", type := .double, accessFlags := 26, slot := 4, constantValue := 0 }, { name := "negativeZeroFloatBits", type := .long, accessFlags := 26, slot := 5, constantValue := 0 }, { name := "negativeZeroDoubleBits", type := .long, accessFlags := 26, slot := 6, constantValue := 0 }, { name := "twoToTheDoubleScaleUp", type := .double, accessFlags := 8, slot := 7, constantValue := 0 }, { name := "twoToTheDoubleScaleDown", type := .double, accessFlags := 8, slot := 8, constantValue := 0 }, { name := "$assertionsDisabled", type := .boolean, accessFlags := 4120, slot := 9, constantValue := 0 }]
  methods := #[k7m0, k7m1, k7m2]
  instanceTypes := #[]
  staticTypes := #[.double, .double, .double, .double, .double, .long, .long, .double, .double, .boolean]
  resolved := Array.replicate 460 none
  statics := none }

def pool8 : Array CpInfo := pool [(1, u "java/lang/Cloneable"), (0, .class_ 1), (0, u "java/lang/Object"), (0, .class_ 3)] 3

/-- java/lang/Cloneable -/
def k8 : Class := { plain "java/lang/Cloneable" (some 0) with
  accessFlags := 1537
  interfaces := #[]
  cf := some (fileOf pool8 2 #[] #[] 1537 4 #[] #[])
  fields := #[]
  methods := #[]
  instanceTypes := #[]
  staticTypes := #[]
  resolved := Array.replicate 8 none
  statics := none }

/-- the primitive byte -/
def k9 : Class := { plain "byte" none with kind := .primitive 'B', accessFlags := 0x411 }
/-- [B -/
def k10 : Class := { plain "[B" (some 0) with kind := .array 9 .byte, interfaces := #[8, 4], accessFlags := 1041 }

def heap : Heap := #[{ cls := 6, slots := #[.ref 1, .ref 2, .ref 3, .null], vm := .statics 6 },
  { cls := 6, slots := #[.null, .int 0, .int 0], vm := .none },
  { cls := 6, slots := #[.null, .int 1, .int 0], vm := .none },
  { cls := 6, slots := #[.null, .int 2, .int 0], vm := .none }]
def classes : Array Class := #[k0, k1, k2, k3, k4, k5, k6, k7, k8, k9, k10]
def interned : List (Array UInt16 × Addr) := []
def slotsUsed : Nat := 13
def theMethod : MethodId := ⟨1, 1⟩
def args0 : Array Value := #[.int 5, .int 8, .int 1, .int 2]
def aboutOver (below : List Frame) : State where
  vm := { classes := classes, interned := interned.toArray }
  heap := heap
  slotsUsed := slotsUsed
  threads := #[{ frames := .invoking theMethod args0 :: below }]
def below0 : List Frame := [.native { method := ⟨0, 0⟩, args := #[] }]
def about1 : State := aboutOver below0
def p0 : Program := .bare "" "" ""
def e0 : Env := launch0.env 0 0 0
theorem w_frames : about1.frames = Frame.invoking theMethod args0 :: below0 := rfl
set_option maxRecDepth 65536 in
theorem w_args : argsFit about1.vm theMethod args0 = true := by decide +kernel
set_option maxRecDepth 65536 in
theorem w_heap : heapFits about1 = true := by decide +kernel
set_option maxRecDepth 65536 in
theorem w_runnable : about1.curStatus? = some .runnable := by decide +kernel
set_option maxRecDepth 65536 in
theorem w_alone : about1.alone = true := by decide +kernel
set_option maxRecDepth 65536 in
theorem w_named : about1.methodNamed? x = some theMethod := by decide +kernel
set_option maxRecDepth 65536 in
theorem w_hears : about1.hears theMethod below0 = true := by decide +kernel
set_option maxRecDepth 65536 in
theorem w_ripe : about1.ripe theMethod args0 below0 = true := by decide +kernel
theorem w_running : about1.status = .running := rfl
set_option maxRecDepth 65536 in
theorem w_room : about1.hasRoom e0.platform room_1 = true :=
  launch0.hasRoom_least _ room_1 (by decide +kernel) (by decide +kernel) (by decide +kernel) (by decide +kernel) (by decide +kernel) (by decide +kernel)
theorem allAtoms_all (ts : List Jvm.Cond) (a : Array Jvm.Value) (st : Jvm.State) : (allAtoms ts).before a st = ts.all (fun c => c.before a st) := by
  induction ts with
  | nil => rfl
  | cons c t ih =>
    show (Jvm.Cond.and c (allAtoms t)).before a st = _
    rw [Jvm.Cond.before_and, ih, List.all_cons]
def words1 : List Jvm.Cond := Jvm.Cond.code x code maxLocals ret :: tables_1
/-- a 'code' word, met by the world's own term for the bytes: nothing is compared byte by byte -/
theorem code_word {y : MethodName} {bytes : ByteArray} {mx : Nat} {rt : Option FieldType} {a : Array Value} {s : State} {m : MethodId} {meth : Method} {c : Code} (h1 : s.methodNamed? y = some m) (h2 : s.vm.method? m = some meth) (h3 : meth.code = some c) (h4 : c.code = bytes)
    (h5 : (c.maxLocals == mx && c.exceptionTable.isEmpty && decide (c.maxStack ≤ mostOperands) && decide (meth.sig.returnType = rt) && !meth.locks && decide (parseMethodDescriptor y.desc = some meth.sig)) = true) : (Jvm.Cond.code y bytes mx rt).before a s = true := by
  simp only [Bool.and_eq_true, beq_iff_eq, Bool.not_eq_true', decide_eq_true_eq] at h5
  obtain ⟨⟨⟨⟨⟨g1, g2⟩, g3⟩, g4⟩, g5⟩, g6⟩ := h5
  simp [Cond.before, Cond.holds, Cond.value, h1, h2, h3, h4, g1, g2, g3, g4, g5, g6]
def isCode : Jvm.Cond → Bool
  | .code _ _ _ _ => true
  | _ => false
theorem all_split {L : List Jvm.Cond} {P : Jvm.Cond → Bool} (h1 : L.all (fun c => isCode c || P c) = true) (h2 : ∀ c ∈ L.filter isCode, P c = true) : L.all P = true := by
  refine List.all_eq_true.mpr fun c hc => ?_
  have h := List.all_eq_true.mp h1 c hc
  rcases Bool.eq_false_or_eq_true (isCode c) with hi | hi
  · exact h2 c (List.mem_filter.mpr ⟨hc, hi⟩)
  · simpa [hi] using h
set_option maxRecDepth 65536 in
theorem w_c0 : (Jvm.Cond.code x code maxLocals ret).before args0 about1 = true := code_word (m := ⟨1, 1⟩) (meth := k1m1) (c := k1c1) (by decide +kernel) rfl rfl rfl (by decide +kernel)
set_option maxRecDepth 65536 in
theorem w_c1 : (Jvm.Cond.code ({ cls := "com/example/drawdown/drawdown/core/pricing/SplitRatingRule", name := "level", desc := "(II)I" } : Jvm.MethodName) prog_73_method_4_code (6 : Nat) (Option.some Jvm.ClassFile.FieldType.int)).before args0 about1 = true := code_word (m := ⟨6, 0⟩) (meth := k6m0) (c := k6c0) (by decide +kernel) rfl rfl rfl (by decide +kernel)
set_option maxRecDepth 65536 in
theorem w_c2 : (Jvm.Cond.code ({ cls := "java/lang/Math", name := "min", desc := "(II)I" } : Jvm.MethodName) jdk_29_method_69_code (2 : Nat) (Option.some Jvm.ClassFile.FieldType.int)).before args0 about1 = true := code_word (m := ⟨7, 2⟩) (meth := k7m2) (c := k7c2) (by decide +kernel) rfl rfl rfl (by decide +kernel)
set_option maxRecDepth 65536 in
theorem w_c3 : (Jvm.Cond.code ({ cls := "java/lang/Math", name := "max", desc := "(II)I" } : Jvm.MethodName) jdk_29_method_65_code (2 : Nat) (Option.some Jvm.ClassFile.FieldType.int)).before args0 about1 = true := code_word (m := ⟨7, 1⟩) (meth := k7m1) (c := k7c1) (by decide +kernel) rfl rfl rfl (by decide +kernel)
set_option maxRecDepth 65536 in
theorem w_c4 : (Jvm.Cond.code ({ cls := "java/lang/Enum", name := "ordinal", desc := "()I" } : Jvm.MethodName) jdk_37_method_2_code (1 : Nat) (Option.some Jvm.ClassFile.FieldType.int)).before args0 about1 = true := code_word (m := ⟨5, 0⟩) (meth := k5m0) (c := k5c0) (by decide +kernel) rfl rfl rfl (by decide +kernel)
def codes1 : List Jvm.Cond := [Jvm.Cond.code x code maxLocals ret, Jvm.Cond.code ({ cls := "com/example/drawdown/drawdown/core/pricing/SplitRatingRule", name := "level", desc := "(II)I" } : Jvm.MethodName) prog_73_method_4_code (6 : Nat) (Option.some Jvm.ClassFile.FieldType.int), Jvm.Cond.code ({ cls := "java/lang/Math", name := "min", desc := "(II)I" } : Jvm.MethodName) jdk_29_method_69_code (2 : Nat) (Option.some Jvm.ClassFile.FieldType.int), Jvm.Cond.code ({ cls := "java/lang/Math", name := "max", desc := "(II)I" } : Jvm.MethodName) jdk_29_method_65_code (2 : Nat) (Option.some Jvm.ClassFile.FieldType.int), Jvm.Cond.code ({ cls := "java/lang/Enum", name := "ordinal", desc := "()I" } : Jvm.MethodName) jdk_37_method_2_code (1 : Nat) (Option.some Jvm.ClassFile.FieldType.int)]
set_option maxRecDepth 65536 in
theorem codes_eq : words1.filter isCode = codes1 := rfl
theorem w_codes : ∀ c ∈ words1.filter isCode, c.before args0 about1 = true := by
  rw [codes_eq]
  intro c hc
  simp only [codes1, List.mem_cons, List.not_mem_nil, or_false] at hc
  rcases hc with rfl | rfl | rfl | rfl | rfl
  · exact w_c0
  · exact w_c1
  · exact w_c2
  · exact w_c3
  · exact w_c4
set_option maxRecDepth 65536 in
theorem w_t1 : (words1.take 24).all (fun c => isCode c || c.before args0 about1) = true := by decide +kernel
set_option maxRecDepth 65536 in
theorem w_t2 : (words1.drop 24).all (fun c => isCode c || c.before args0 about1) = true := by decide +kernel
theorem w_tables : (allAtoms (Jvm.Cond.code x code maxLocals ret :: tables_1)).before args0 about1 = true := by
  rw [allAtoms_all]
  show words1.all (fun c => c.before args0 about1) = true
  refine all_split ?_ w_codes
  rw [← List.take_append_drop 24 words1, List.all_append, w_t1, w_t2]
  rfl
set_option maxRecDepth 65536 in
theorem w_case : (Jvm.Cond.and given_1 narrow_1).before args0 about1 = true := by decide +kernel
theorem w_applies : (headSpec (Jvm.Cond.code x code maxLocals ret :: tables_1) room_1).applies x e0.platform about1 = true :=
  (Spec.applies_iff w_frames).mpr ⟨w_running, w_runnable, w_alone, w_named, w_hears, w_ripe, w_room, w_tables⟩
theorem atStart : AtStart classFile x code maxLocals ret World_1 tables_1 room_1 Calls_1 rest_1 Pre_1 launch0 p0 e0 about1 theMethod args0 below0 :=
  ⟨lists_1, trivial, launch0.admits_env _ _ _, launch0.least_env, fairChoices_fair.cas, fairChoices_fair.clock, w_frames, w_args, w_heap, w_applies, trivial, trivial, w_case⟩
end start1
theorem witness_1 : WitnessClaimed_1 := ⟨start1.p0, start1.e0, start1.about1, start1.theMethod, start1.args0, start1.below0, start1.atStart⟩
end Jvm.Pilot.@@N@@
