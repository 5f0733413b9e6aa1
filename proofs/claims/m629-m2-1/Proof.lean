import JvmDerived
import JvmDerived.Pilot.@@N@@Statement
import JvmDerived.Pilot.@@N@@Code
set_option linter.unusedVariables false
set_option linter.unusedSimpArgs false
namespace Jvm.Pilot.@@N@@
open Jvm Jvm.ClassFile Sem Op Lib Jvm.Free Jvm.Stand Jvm.LawKit Jvm.RoadKit Bundle Jvm.Pilot.@@N@@.Jvm.D
section Own
/-- the run goes on from here and ends as E says -/
def Go (p : Program) (e : Env) (below : List Frame) (E : State → Prop) (T : State) (f : JFrame) : Prop := ∃ t, Steps p.tables e below (T.setTop f) t ∧ E t
theorem Go.of {p : Program} {e : Env} {below : List Frame} {E : State → Prop} {T T' : State} {f f' : JFrame} (st : ∀ t, Steps p.tables e below (T'.setTop f') t → Steps p.tables e below (T.setTop f) t) (h : Go p e below E T' f') : Go p e below E T f := by
  obtain ⟨t, h1, h2⟩ := h
  exact ⟨t, st t h1, h2⟩
theorem Go.cast {p : Program} {e : Env} {below : List Frame} {E : State → Prop} {T : State} {f f' : JFrame} (q : f = f') (h : Go p e below E T f') : Go p e below E T f := q ▸ h
/-- the end of an invocation: it has returned, and Q holds of what it returned, of the heap, of what it wrote -/
def Fine (s : State) (below : List Frame) (rm : Room) (Q : Option Value → Heap → List Loc → Prop) (t : State) : Prop :=
  ∃ o, t.status = .running ∧ Ended t below o ∧ ∃ v L, o = .returned v ∧ Q v t.heap L ∧ FrameEnd s o t L rm.cells rm.slots
/-- a contract -/
abbrev Ct (l : Launch) (Z : State) (y : MethodName) (bytes : ByteArray) (maxL : Nat) (rt : Option FieldType) (ws : List Jvm.Cond) (rm : Room) (as' : Array Value) (h : Heap) (Q : Option Value → Heap → List Loc → Prop) : Prop :=
  MetFree l y (head1 (Jvm.Cond.code y bytes maxL rt :: ws) rm) (fun a U => a = as' ∧ Z.Warmed39 U.vm ∧ U.heap = h) (fun _ _ _ _ _ => True) (fun _ U o U' => ∃ v L, o = .returned v ∧ Q v U'.heap L ∧ FrameEnd U o U' L rm.cells rm.slots)
/-- it returns V and leaves the heap as it was -/
def Pu (h : Heap) (V : Option Value) : Option Value → Heap → List Loc → Prop := fun v h' L => v = V ∧ L = [] ∧ h' = h
theorem own_met {l : Launch} {Z : State} {y : MethodName} {bytes : ByteArray} {maxL : Nat} {rt : Option FieldType} {ws : List Jvm.Cond} {rm : Room} {as' : Array Value} {h : Heap} {Q : Option Value → Heap → List Loc → Prop} (hpl : plainFor y = true)
    (body : ∀ (p : Program) (e : Env) (s : State) (m : MethodId) (below : List Frame) (meth : Method) (c : Code) (s₁ : State), Stand p l e rm s m as' below meth c s₁ [] 0 0 → p.tables.exec = Jvm.exec → c.code = bytes → c.maxLocals = maxL → meth.sig.returnType = rt →
      s.vm.findClass y.cls = some m.cls → meth.name = y.name → meth.locks = false → Z.Warmed39 s.vm → s₁.heap = h → Go p e below (Fine s below rm Q) s₁ (entryFrame m as' maxL)) : Ct l Z y bytes maxL rt ws rm as' h Q := by
  refine MetFree.of_bodySF hpl hisR ?_
  intro p e s m args below meth c s₁ Bd hml0 hP hK
  obtain ⟨rfl, hZ, hh⟩ := hP
  have X0 : Stand p l e rm s m _ below meth c s₁ [] 0 0 := Stand.of_body Bd
  obtain ⟨t, h1, o, h2, h3, h4⟩ := body p e s m below meth c s₁ X0 Bd.exec Bd.bytes hml0 Bd.returns (findClass_of_methodNamed Bd.named) (name_of_methodNamed Bd.named Bd.method).1 Bd.notSynchronized hZ (by rw [← hh, Bd.state]; rfl)
  exact ⟨t, o, h1, h2, h3, h4⟩
section Steps
variable {p : Program} {l : Launch} {e : Env} {R : Room} {s : State} {m : MethodId} {args : Array Value} {below : List Frame} {meth : Method} {c : Code} {T : State} {locs : List Loc} {cells slots : Nat} {Z : State} {a0 : Array Value} {h : Heap} {Q : Option Value → Heap → List Loc → Prop}
theorem own_retI (X : Stand p l e R s m args below meth c T locs cells slots) (hx : p.tables.exec = Jvm.exec) (hlk : meth.locks = false) {pc : Nat} {Ls : Array Slot} {z : Int32} {rest : List Value} (hret : meth.sig.returnType = some .int) (hd : decode c.code pc = .ok (.ireturn, 1))
    (hQ : Q (some (.int z)) T.heap locs) (hc : cells ≤ R.cells) (hs : slots ≤ R.slots) : Go p e below (Fine s below R Q) T (mkF m pc Ls (.int z :: rest)) := by
  obtain ⟨fs, hr, hrun, hended, hW, hsame⟩ := X.leave (v := some (.int z)) (fun h => by rw [hret] at h; cases h) hlk
  exact ⟨_, retOut X hx hret rfl (Or.inl ⟨rfl, Or.inl rfl, z, rfl⟩) hd hr, _, hrun, hended, _, _, rfl, hQ, ⟨_, rfl⟩, hW, hsame.mono hc hs⟩
theorem own_retZ (X : Stand p l e R s m args below meth c T locs cells slots) (hx : p.tables.exec = Jvm.exec) (hlk : meth.locks = false) {pc : Nat} {Ls : Array Slot} {z z' : Int32} {rest : List Value} (hret : meth.sig.returnType = some .boolean) (hd : decode c.code pc = .ok (.ireturn, 1)) (hz : nar .boolean z = z')
    (hQ : Q (some (.int z')) T.heap locs) (hc : cells ≤ R.cells) (hs : slots ≤ R.slots) : Go p e below (Fine s below R Q) T (mkF m pc Ls (.int z :: rest)) := by
  subst hz
  obtain ⟨fs, hr, hrun, hended, hW, hsame⟩ := X.leave (v := some (.int (nar .boolean z))) (fun h => by rw [hret] at h; cases h) hlk
  exact ⟨_, retN X hx (t := .boolean) hret (by simp) hd hr, _, hrun, hended, _, _, rfl, hQ, ⟨_, rfl⟩, hW, hsame.mono hc hs⟩
theorem own_retA (X : Stand p l e R s m args below meth c T locs cells slots) (hx : p.tables.exec = Jvm.exec) (hlk : meth.locks = false) {pc : Nat} {Ls : Array Slot} {w : Value} {t : FieldType} {rest : List Value} (hret : meth.sig.returnType = some t) (ht : t.isReference = true) (hw : w.isRef = true) (hd : decode c.code pc = .ok (.areturn, 1))
    (hQ : Q (some w) T.heap locs) (hc : cells ≤ R.cells) (hs : slots ≤ R.slots) : Go p e below (Fine s below R Q) T (mkF m pc Ls (w :: rest)) := by
  obtain ⟨fs, hr, hrun, hended, hW, hsame⟩ := X.leave (v := some w) (fun h => by rw [hret] at h; cases h) hlk
  have hn : narrow t w = w := by rcases ref_cases hw with rfl | ⟨q, rfl⟩ <;> cases t <;> first | rfl | (cases ht; done)
  exact ⟨_, retOut X hx hret hn (Or.inr (Or.inr (Or.inr (Or.inr ⟨rfl, ht, hw⟩)))) hd hr, _, hrun, hended, _, _, rfl, hQ, ⟨_, rfl⟩, hW, hsame.mono hc hs⟩
theorem own_retV (X : Stand p l e R s m args below meth c T locs cells slots) (hx : p.tables.exec = Jvm.exec) (hlk : meth.locks = false) {pc : Nat} {Ls : Array Slot} (hret : meth.sig.returnType = none) (hd : decode c.code pc = .ok (.return_, 1))
    (hQ : Q none T.heap locs) (hc : cells ≤ R.cells) (hs : slots ≤ R.slots) : Go p e below (Fine s below R Q) T (mkF m pc Ls []) := by
  obtain ⟨fs, hr, hrun, hended, hW, hsame⟩ := X.leave (v := none) (fun _ => rfl) hlk
  exact ⟨_, X.returnOut hx hret hd hr, _, hrun, hended, _, _, rfl, hQ, ⟨_, rfl⟩, hW, hsame.mono hc hs⟩
/-- a static call by a contract -/
theorem own_callSQ (X : Stand p l e R s m args below meth c T locs cells slots) (hx : p.tables.exec = Jvm.exec) (hZ : Z.Warmed39 s.vm) {own : String} {index : Nat} {y : MethodName} {bytes : ByteArray} {maxL : Nat} {rt : Option FieldType} (hown : s.vm.findClass own = some m.cls)
    (w1 : (Jvm.Cond.methodLink own index y).before a0 Z = true) (w2 : (Jvm.Cond.static y).before a0 Z = true) (w3 : (Jvm.Cond.initialized y.cls).before a0 Z = true) (w4 : (Jvm.Cond.code y bytes maxL rt).before a0 Z = true) (hy : y.cls ≠ "java/lang/invoke/MethodHandle" ∧ y.cls ≠ "java/lang/invoke/VarHandle")
    {rm : Room} {as' : Array Value} (hM : Ct l Z y bytes maxL rt [] rm as' h Q) (hf : rm.frames + 1 ≤ R.frames) (W : Nat) (hl : W + (maxL + 11) + rm.locals ≤ R.locals) (hc : cells + rm.cells ≤ R.cells) (hs : slots + rm.slots ≤ R.slots) (eT : T.heap = h)
    {g : JFrame} (hg : g.method = m) (hsize : g.locals.size = c.maxLocals) (argsL rest : List Value) (hlen : ∀ sig, parseMethodDescriptor y.desc = some sig → argsL.length = sig.parameters.length) (hstack : g.stack = argsL.reverse ++ rest) (hW : 2 * g.monitorRoom + (rest.map fun v => v.category).sum ≤ W) (has : argsL.toArray = as')
    (hd : decode c.code g.pc = .ok (.invokestatic index, 3)) : ∃ T' L v, Stand p l e R s m args below meth c T' (locs ++ L) (cells + rm.cells) (slots + rm.slots) ∧ Q v T'.heap L ∧ ∀ t, Steps p.tables e below (T'.setTop { g with pc := g.pc + 3, stack := v.toList ++ rest }) t → Steps p.tables e below (T.setTop g) t := by
  obtain ⟨v, _, ⟨T', L', k', n'⟩, -, X', ⟨L, hQ, q1, q2, q3⟩, st⟩ := Jvm.LawKit.callS X hx (y := y) hown (mvT hZ w1) (mvT hZ w2) (mvT hZ w3) (mvT hZ w4) hy (backOf (W := W) hM hZ w4 w3 hf hl) hg hsize (argsL := argsL) (rest := rest) hlen hstack hW hd (fun _ _ => ⟨has, eT, hc, hs⟩)
  dsimp only [Pt.U, Pt.locs, Pt.cells, Pt.slots] at X' q1 q2 q3 st hQ
  subst q1 q2 q3
  exact ⟨T', L, v, X', hQ, st⟩
/-- an instance call by a contract -/
theorem own_callVQ (X : Stand p l e R s m args below meth c T locs cells slots) (hx : p.tables.exec = Jvm.exec) (hZ : Z.Warmed39 s.vm) {own C : String} {index : Nat} {y z : MethodName} {bytes : ByteArray} {maxL : Nat} {rt : Option FieldType} (hown : s.vm.findClass own = some m.cls)
    (w1 : (Jvm.Cond.methodLink own index y).before a0 Z = true) (w2 : (Jvm.Cond.declares y).before a0 Z = true) (w2' : (Jvm.Cond.selects y.cls y y).before a0 Z = true) (w3 : (Jvm.Cond.selects C y z).before a0 Z = true) (w4 : (Jvm.Cond.instanceMethod z).before a0 Z = true) (w5 : (Jvm.Cond.code z bytes maxL rt).before a0 Z = true) (w6 : (Jvm.Cond.initialized z.cls).before a0 Z = true) (hy : y.cls ≠ "java/lang/invoke/MethodHandle" ∧ y.cls ≠ "java/lang/invoke/VarHandle")
    {rm : Room} {as' : Array Value} (hM : Ct l Z z bytes maxL rt [] rm as' h Q) (hf : rm.frames + 1 ≤ R.frames) (W : Nat) (hl : W + (maxL + 11) + rm.locals ≤ R.locals) (hc : cells + rm.cells ≤ R.cells) (hs : slots + rm.slots ≤ R.slots) (eT : T.heap = h) {b : Addr} (hE : Exa Z h b C)
    {g : JFrame} (hg : g.method = m) (hsize : g.locals.size = c.maxLocals) (argsL rest : List Value) (hlen : ∀ sig, parseMethodDescriptor y.desc = some sig → argsL.length = sig.parameters.length) (hstack : g.stack = argsL.reverse ++ .ref b :: rest) (hW : 2 * g.monitorRoom + (rest.map fun v => v.category).sum ≤ W) (has : (.ref b :: argsL).toArray = as')
    (hd : decode c.code g.pc = .ok (.invokevirtual index, 3)) : ∃ T' L v, Stand p l e R s m args below meth c T' (locs ++ L) (cells + rm.cells) (slots + rm.slots) ∧ Q v T'.heap L ∧ ∀ t, Steps p.tables e below (T'.setTop { g with pc := g.pc + 3, stack := v.toList ++ rest }) t → Steps p.tables e below (T.setTop g) t := by
  obtain ⟨cq, kq, qa, qb, qc⟩ := isOf (s := s) hZ eT hE
  obtain ⟨v, _, ⟨T', L', k', n'⟩, -, X', ⟨L, hQ, q1, q2, q3⟩, st⟩ := X.virtualBack hx (y := y) (z := z) hown (mvT hZ w1) (mvT hZ w2) (notFace_of_selects (args := #[]) (mvT hZ w2')) (mvT hZ w3) (mvT hZ w4) hy (backOf (W := W) hM hZ w5 w6 hf hl) qa qc hg hsize (Steps.refl _) (argsL := argsL) (rest := rest) hlen hstack hW hd (fun _ _ => ⟨has, eT, hc, hs⟩)
  dsimp only [Pt.U, Pt.locs, Pt.cells, Pt.slots] at X' q1 q2 q3 st hQ
  subst q1 q2 q3
  exact ⟨T', L, v, X', hQ, fun t k => st.trans k⟩
/-- an instance call of a method that a class above declares -/
theorem own_callUQ (X : Stand p l e R s m args below meth c T locs cells slots) (hx : p.tables.exec = Jvm.exec) (hZ : Z.Warmed39 s.vm) {own C owner : String} {index : Nat} {y z : MethodName} {bytes : ByteArray} {maxL : Nat} {rt : Option FieldType} (hown : s.vm.findClass own = some m.cls)
    (w1 : (Jvm.Cond.methodLink own index y).before a0 Z = true) (w2 : (Jvm.Cond.sameMethod y.cls owner y.name y.desc).before a0 Z = true) (w2' : (Jvm.Cond.declares ⟨owner, y.name, y.desc⟩).before a0 Z = true) (hy : owner ≠ "java/lang/invoke/MethodHandle" ∧ owner ≠ "java/lang/invoke/VarHandle") (w3 : (Jvm.Cond.selects C y z).before a0 Z = true) (w4 : (Jvm.Cond.instanceMethod z).before a0 Z = true) (w5 : (Jvm.Cond.code z bytes maxL rt).before a0 Z = true) (w6 : (Jvm.Cond.initialized z.cls).before a0 Z = true)
    {rm : Room} {as' : Array Value} (hM : Ct l Z z bytes maxL rt [] rm as' h Q) (hf : rm.frames + 1 ≤ R.frames) (W : Nat) (hl : W + (maxL + 11) + rm.locals ≤ R.locals) (hc : cells + rm.cells ≤ R.cells) (hs : slots + rm.slots ≤ R.slots) (eT : T.heap = h) {b : Addr} (hE : Exa Z h b C)
    {g : JFrame} (hg : g.method = m) (hsize : g.locals.size = c.maxLocals) (argsL rest : List Value) (hlen : ∀ sig, parseMethodDescriptor y.desc = some sig → argsL.length = sig.parameters.length) (hstack : g.stack = argsL.reverse ++ .ref b :: rest) (hW : 2 * g.monitorRoom + (rest.map fun v => v.category).sum ≤ W) (has : (.ref b :: argsL).toArray = as')
    (hd : decode c.code g.pc = .ok (.invokevirtual index, 3)) : ∃ T' L v, Stand p l e R s m args below meth c T' (locs ++ L) (cells + rm.cells) (slots + rm.slots) ∧ Q v T'.heap L ∧ ∀ t, Steps p.tables e below (T'.setTop { g with pc := g.pc + 3, stack := v.toList ++ rest }) t → Steps p.tables e below (T.setTop g) t := by
  obtain ⟨cq, kq, qa, qb, qc⟩ := isOf (s := s) hZ eT hE
  obtain ⟨v, _, ⟨T', L', k', n'⟩, -, X', ⟨L, hQ, q1, q2, q3⟩, st⟩ := X.virtualBackUp hx (x := y) (y := z) hown (mvT hZ w1) (mvT hZ w2) (mvT hZ w2') hy (mvT hZ w3) (mvT hZ w4) (backOf (W := W) hM hZ w5 w6 hf hl) qa qc hg hsize (Steps.refl _) (argsL := argsL) (rest := rest) hlen hstack hW hd (fun _ _ => ⟨has, eT, hc, hs⟩)
  dsimp only [Pt.U, Pt.locs, Pt.cells, Pt.slots] at X' q1 q2 q3 st hQ
  subst q1 q2 q3
  exact ⟨T', L, v, X', hQ, fun t k => st.trans k⟩
/-- a constructor by a contract -/
theorem own_callCQ (X : Stand p l e R s m args below meth c T locs cells slots) (hx : p.tables.exec = Jvm.exec) (hZ : Z.Warmed39 s.vm) {own : String} {index : Nat} {y : MethodName} {bytes : ByteArray} {maxL : Nat} (hy1 : y.name = "<init>") (hown : s.vm.findClass own = some m.cls)
    (w1 : (Jvm.Cond.methodLink own index y).before a0 Z = true) (w2 : (Jvm.Cond.instanceMethod y).before a0 Z = true) (w5 : (Jvm.Cond.code y bytes maxL none).before a0 Z = true) (w6 : (Jvm.Cond.initialized y.cls).before a0 Z = true) (hy : y.cls ≠ "java/lang/invoke/MethodHandle" ∧ y.cls ≠ "java/lang/invoke/VarHandle")
    {rm : Room} {as' : Array Value} (hM : Ct l Z y bytes maxL none [] rm as' h Q) (hf : rm.frames + 1 ≤ R.frames) (W : Nat) (hl : W + (maxL + 11) + rm.locals ≤ R.locals) (hc : cells + rm.cells ≤ R.cells) (hs : slots + rm.slots ≤ R.slots) (eT : T.heap = h) {b : Addr}
    {g : JFrame} (hg : g.method = m) (hsize : g.locals.size = c.maxLocals) (argsL rest : List Value) (hlen : ∀ sig, parseMethodDescriptor y.desc = some sig → argsL.length = sig.parameters.length) (hstack : g.stack = argsL.reverse ++ .ref b :: rest) (hW : 2 * g.monitorRoom + (rest.map fun v => v.category).sum ≤ W) (has : (.ref b :: argsL).toArray = as')
    (hd : decode c.code g.pc = .ok (.invokespecial index, 3)) : ∃ T' L v, Stand p l e R s m args below meth c T' (locs ++ L) (cells + rm.cells) (slots + rm.slots) ∧ Q v T'.heap L ∧ ∀ t, Steps p.tables e below (T'.setTop { g with pc := g.pc + 3, stack := v.toList ++ rest }) t → Steps p.tables e below (T.setTop g) t := by
  obtain ⟨v, _, ⟨T', L', k', n'⟩, -, X', ⟨L, hQ, q1, q2, q3⟩, st⟩ := X.specialBack hx (y := y) hy1 hown (mvT hZ w1) (mvT hZ w2) (mvT hZ w5) hy (backOf (W := W) hM hZ w5 w6 hf hl) hg hsize (Steps.refl _) (a := b) (argsL := argsL) (rest := rest) hlen hstack hW hd (fun _ _ => ⟨has, eT, hc, hs⟩)
  dsimp only [Pt.U, Pt.locs, Pt.cells, Pt.slots] at X' q1 q2 q3 st hQ
  subst q1 q2 q3
  exact ⟨T', L, v, X', hQ, fun t k => st.trans k⟩
/-- behind a call whose contract is 'Pu': nothing has moved -/
theorem own_pure {g : JFrame} {rest : List Value} {V : Value} {rc rs : Nat} (h1 : rc = 0) (h2 : rs = 0)
    (q : ∃ T' L v, Stand p l e R s m args below meth c T' (locs ++ L) (cells + rc) (slots + rs) ∧ Pu h (some V) v T'.heap L ∧ ∀ t, Steps p.tables e below (T'.setTop { g with pc := g.pc + 3, stack := v.toList ++ rest }) t → Steps p.tables e below (T.setTop g) t) :
    ∃ T', Stand p l e R s m args below meth c T' locs cells slots ∧ T'.heap = h ∧ ∀ t, Steps p.tables e below (T'.setTop { g with pc := g.pc + 3, stack := V :: rest }) t → Steps p.tables e below (T.setTop g) t := by
  subst h1 h2
  obtain ⟨T', L, v, X', ⟨rfl, rfl, e'⟩, st⟩ := q
  rw [List.append_nil] at X'
  exact ⟨T', X', e', st⟩
/-- the same for a call that returns nothing -/
theorem own_pureN {g : JFrame} {rest : List Value} {rc rs : Nat} (h1 : rc = 0) (h2 : rs = 0)
    (q : ∃ T' L v, Stand p l e R s m args below meth c T' (locs ++ L) (cells + rc) (slots + rs) ∧ Pu h none v T'.heap L ∧ ∀ t, Steps p.tables e below (T'.setTop { g with pc := g.pc + 3, stack := v.toList ++ rest }) t → Steps p.tables e below (T.setTop g) t) :
    ∃ T', Stand p l e R s m args below meth c T' locs cells slots ∧ T'.heap = h ∧ ∀ t, Steps p.tables e below (T'.setTop { g with pc := g.pc + 3, stack := rest }) t → Steps p.tables e below (T.setTop g) t := by
  subst h1 h2
  obtain ⟨T', L, v, X', ⟨rfl, rfl, e'⟩, st⟩ := q
  rw [List.append_nil] at X'
  exact ⟨T', X', e', st⟩
end Steps
/-- the same Stand at another state -/
def Same {p : Program} {l : Launch} {e : Env} {R : Room} {s : State} {m : MethodId} {args : Array Value} {below : List Frame} {meth : Method} {c : Code} {T : State} {locs : List Loc} {cells slots : Nat} (X : Stand p l e R s m args below meth c T locs cells slots) (T' : State) : Prop := Stand p l e R s m args below meth c T' locs cells slots
theorem Same.out {p : Program} {l : Launch} {e : Env} {R : Room} {s : State} {m : MethodId} {args : Array Value} {below : List Frame} {meth : Method} {c : Code} {T : State} {locs : List Loc} {cells slots : Nat} {X : Stand p l e R s m args below meth c T locs cells slots} {T' : State} (h : Same X T') : Stand p l e R s m args below meth c T' locs cells slots := h
theorem Same.mk {p : Program} {l : Launch} {e : Env} {R : Room} {s : State} {m : MethodId} {args : Array Value} {below : List Frame} {meth : Method} {c : Code} {T : State} {locs : List Loc} {cells slots : Nat} {X : Stand p l e R s m args below meth c T locs cells slots} {T' : State} (h : Stand p l e R s m args below meth c T' locs cells slots) : Same X T' := h
/-! heaps that keep the old cells -/
theorem own_ext0 (h : Heap) : Ext h h := ⟨Nat.le_refl _, fun _ _ q => q⟩
theorem own_extT {h1 h2 h3 : Heap} (a : Ext h1 h2) (b : Ext h2 h3) : Ext h1 h3 := ⟨Nat.le_trans a.1 b.1, fun x c q => b.2 x c (a.2 x c q)⟩
theorem own_extW {h0 h h' : Heap} {a : Addr} {sl : Nat} {v : Value} (x : Ext h0 h) (W : Wr h h' a sl v) (ha : h0.size ≤ a) : Ext h0 h' := by
  refine ⟨by rw [W.size]; exact x.1, fun b c q => ?_⟩
  obtain ⟨c', e1, -, -, -, e5, -⟩ := wr_at W (x.2 b c q)
  have hb : b < h0.size := (Array.getElem?_eq_some_iff.mp q).1
  rw [e1, e5 (fun z => absurd ha (by rw [← z]; exact Nat.not_le.mpr hb))]
/-- an array of references: just these values -/
def Al (Z : State) (h : Heap) (a : Addr) (k : ClassId) (C : String) (vs : List Value) : Prop := ∃ c : Cell, Arr Z h a c (.object C) ∧ c.cls = k ∧ c.slots = vs.toArray
theorem own_newA {Z : State} {h : Heap} {a : Addr} {k : ClassId} {C : String} {n : Int32} {vs : List Value} (A : Arr Z h a (newA k (.object C) n) (.object C)) (hv : List.replicate n.toNatClampNeg .null = vs) : Al Z h a k C vs := by
  subst hv
  exact ⟨_, A, rfl, by simp [newA, defaultValue]⟩
theorem Al.ext {Z : State} {h h' : Heap} {a : Addr} {k : ClassId} {C : String} {vs : List Value} (F : Al Z h a k C vs) (x : Ext h h') : Al Z h' a k C vs := by
  obtain ⟨c, A, q⟩ := F
  exact ⟨c, A.ext x, q⟩
theorem own_stA {p : Program} {l : Launch} {e : Env} {R : Room} {s : State} {m : MethodId} {args : Array Value} {below : List Frame} {meth : Method} {c : Code} {T : State} {locs : List Loc} {cells slots : Nat} {Z : State} {h : Heap} (X : Stand p l e R s m args below meth c T locs cells slots) (hx : p.tables.exec = Jvm.exec) (hZ : Z.Warmed39 s.vm) (eT : T.heap = h)
    {a : Addr} {k : ClassId} {C : String} {vs : List Value} (A : Al Z h a k C vs) (O : Ovr Z k C) {j : Int32} {v : Value} (hj : ¬ j < 0) (hl : j.toNatClampNeg < vs.length) (F : v = .null ∨ ∃ y, v = .ref y ∧ Exa Z h y C) {vs' : List Value} (hv : vs.set j.toNatClampNeg v = vs')
    {g : JFrame} (hg : g.method = m) {rest : List Value} (hs : g.stack = v :: .int j :: .ref a :: rest) (hd : decode c.code g.pc = .ok (.aastore, 1)) :
    ∃ T' h', Stand p l e R s m args below meth c T' (locs ++ [⟨a, j.toNatClampNeg⟩]) cells slots ∧ T'.heap = h' ∧ Wr h h' a j.toNatClampNeg v ∧ Al Z h' a k C vs' ∧ ∀ target, Steps p.tables e below (T'.setTop { g with pc := g.pc + 1, stack := rest }) target → Steps p.tables e below (T.setTop g) target := by
  obtain ⟨cl, A1, q1, q2⟩ := A
  subst hv
  have S : Sto Z h a v := by
    rcases F with rfl | ⟨y, rfl, E⟩
    · exact Or.inl rfl
    · exact Sto.ofV A1 q1 O (Ins.self E)
  obtain ⟨T', h', X', e', W, st⟩ := stR X hx hZ eT A1 (j := j) (fun q => q.elim hj (fun z => by rw [q2] at z; simp at z; omega)) rfl S hg hs hd
  exact ⟨T', h', X', e', W, ⟨_, Arr.same W A1, q1, by simp [Cell.setSlot, q2]⟩, st⟩
/-! from a case's words to facts of the heap -/
section Words
variable {Z : State} {args : Array Value}
theorem own_fld {t : Term} {C n d : String} {a : Addr} {k : Int32} (ev : t.eval args Z none [] Z = some (.ref a)) (h : (Jvm.Cond.eq (.field t C n d) (.int k)).value args Z none Z [] = some true) : Fld Z Z.heap a C n d (.int k) := by
  obtain ⟨x, y, h1, h2, -, h4⟩ := cmp_v (Or.inl h)
  cases h2
  obtain ⟨z, rfl⟩ := h4
  have h3 := h1
  rw [fld_at ev] at h3
  have e2 : (Term.int k).eval args Z none [] Z = some (.int k) := rfl
  have : z = k := by simpa [Jvm.Cond.value, h1, e2] using h
  subst this
  exact Fld.start h3
theorem own_ne {Z : State} {h : Heap} {a b : Addr} {C n d : String} {v w : Value} (F : Fld Z h a C n d v) (G : Fld Z h b C n d w) (hn : v ≠ w) : a ≠ b := fun q => by
  subst q
  obtain ⟨c1, _, _, _, f1, h1, h2, -, -, -, -, h7⟩ := F
  obtain ⟨c2, _, _, _, f2, g1, g2, -, -, -, -, g7⟩ := G
  cases h1.symm.trans g1
  cases h2.symm.trans g2
  exact hn (Option.some.inj (h7.symm.trans g7))
end Words
end Own
def Wd (Z : State) (h : Heap) (w : Nat → Addr) : Prop := Sta Z h "tallyframe/journal/State" "APPROVED" "Ltallyframe/journal/State;" (.ref (w 0)) ∧ Sta Z h "tallyframe/journal/State" "DECLINED" "Ltallyframe/journal/State;" (.ref (w 1)) ∧ Sta Z h "tallyframe/journal/State" "REFUSED" "Ltallyframe/journal/State;" (.ref (w 2)) ∧ Sta Z h "tallyframe/journal/State" "UNKNOWN" "Ltallyframe/journal/State;" (.ref (w 3)) ∧ Sta Z h "tallyframe/journal/State" "REVERSED" "Ltallyframe/journal/State;" (.ref (w 4)) ∧ Sta Z h "tallyframe/journal/State" "VOIDED" "Ltallyframe/journal/State;" (.ref (w 5)) ∧ (∀ i, i < 6 → Exa Z h (w i) "tallyframe/journal/State") ∧ (∀ i, i < 6 → Fld Z h (w i) "java/lang/Enum" "ordinal" "I" (.int (Int32.ofNat i)))
theorem own_inj {Z : State} {h : Heap} {w : Nat → Addr} (F : ∀ i, i < 6 → Fld Z h (w i) "java/lang/Enum" "ordinal" "I" (.int (Int32.ofNat i))) {i j : Nat} (hi : i < 6) (hj : j < 6) (hn : Int32.ofNat i ≠ Int32.ofNat j) : ¬ w i = w j := own_ne (F i hi) (F j hj) (fun q => hn (Value.int.inj q))
theorem own_rem (x n : Int32) (hn : 0 < n.toInt) : 0 ≤ ((x &&& 2147483647) % n).toInt ∧ ((x &&& 2147483647) % n).toInt < n.toInt := by
  have h1 := (c_and x 2147483647 (by decide)).1
  have h2 := (c_iremV (x &&& 2147483647) n).1 h1 hn
  exact ⟨h2.1, h2.2.1⟩
theorem own_c6 {i : Int32} (h : 0 ≤ i.toInt ∧ i.toInt < 6) : i = 0 ∨ i = 1 ∨ i = 2 ∨ i = 3 ∨ i = 4 ∨ i = 5 := by
  simp only [← Int32.toInt_inj, (by decide : (0 : Int32).toInt = 0), (by decide : (1 : Int32).toInt = 1), (by decide : (2 : Int32).toInt = 2), (by decide : (3 : Int32).toInt = 3), (by decide : (4 : Int32).toInt = 4), (by decide : (5 : Int32).toInt = 5)]
  omega
def dcd (w : Nat → Addr) (a : Addr) : Int32 := if a = w 2 then 0 else if a = w 3 then 0 else 1
def und (w : Nat → Addr) (a : Addr) : Int32 := if a = w 4 then 1 else if a = w 5 then 1 else 0
def pck (i : Int32) : Nat := if i = 0 then 0 else if i = 1 then 1 else if i = 2 then 2 else if i = 3 then 3 else if i = 4 then 4 else 5
theorem dc1_0 : decode prog_176_method_5_code 0 = .ok (.aload_n 0, 1) := by decide +kernel
theorem dc1_1 : decode prog_176_method_5_code 1 = .ok (.getstatic 10, 3) := by decide +kernel
theorem dc1_4 : decode prog_176_method_5_code 4 = .ok (.if_acmp .eq 14, 3) := by decide +kernel
theorem dc1_7 : decode prog_176_method_5_code 7 = .ok (.aload_n 0, 1) := by decide +kernel
theorem dc1_8 : decode prog_176_method_5_code 8 = .ok (.getstatic 13, 3) := by decide +kernel
theorem dc1_11 : decode prog_176_method_5_code 11 = .ok (.if_acmp .eq 7, 3) := by decide +kernel
theorem dc1_14 : decode prog_176_method_5_code 14 = .ok (.iconst 1, 1) := by decide +kernel
theorem dc1_15 : decode prog_176_method_5_code 15 = .ok (.goto 4, 3) := by decide +kernel
theorem dc1_18 : decode prog_176_method_5_code 18 = .ok (.iconst 0, 1) := by decide +kernel
theorem dc1_19 : decode prog_176_method_5_code 19 = .ok (.ireturn, 1) := by decide +kernel
theorem pn_c1 : plainFor (⟨"tallyframe/journal/State", "decided", "()Z"⟩ : MethodName) = true := by first | (refine plainFor_of_name ?_; simp [plainName, overriddenIn]; done) | (refine plainFor_of_name ?_; decide +kernel) | decide +kernel
theorem ef_c1 (m : MethodId) (a : Addr) : entryFrame m #[(.ref a)] 1 = mkF m 0 #[.val (.ref a)] [] := by first | (simp [entryFrame, mkF, argsToLocals, Value.category]; done) | rfl
set_option maxRecDepth 65536 in
set_option maxHeartbeats 40000000 in
theorem c1 (l : Launch) (Z : State) (a0 : Array Value) (hw : ∀ d ∈ tables_1, d.before a0 Z = true) (w : Nat → Addr) (h0 : Heap) (D : Wd Z h0 w) (a : Addr) (r : Int32) (hr : dcd w a = r) :
    Ct l Z (⟨"tallyframe/journal/State", "decided", "()Z"⟩ : MethodName) prog_176_method_5_code 1 (some .boolean) [] ({ frames := 0, cells := 0, slots := 0, locals := 0 } : Room) #[(.ref a)] h0 (Pu h0 (some (.int r))) := by
  refine own_met pn_c1 ?_
  intro p e s m below meth c s₁ X0 hx hby hml hret hown hnm hlk hZ e0
  subst hr
  obtain ⟨S0, S1, S2, S3, S4, S5, Ex, Fo⟩ := D
  refine Go.cast (ef_c1 m a) ?_
  show Go p e below _ s₁ (mkF m 0 #[.val (.ref a)] [])
  refine Go.of (fun _ k => XS.aloadN X0.here hx rfl (hb hby dc1_0) rfl rfl k) ?_
  show Go p e below _ s₁ (mkF m 1 #[.val (.ref a)] [(.ref a)])
  obtain ⟨T1, X1, e1, st1⟩ := getS2 X0 hx hZ hown (host := "") (Or.inl (hw _ (List.mem_of_getElem? (i := 13) rfl))) Via.refl e0 S2 (g := (mkF m 1 #[.val (.ref a)] [(.ref a)])) rfl (hb hby dc1_1)
  refine Go.of st1 ?_
  show Go p e below _ T1 (mkF m 4 #[.val (.ref a)] [(.ref (w 2)), (.ref a)])
  by_cases hc4_2 : a = (w 2)
  ·
    refine Go.of (fun _ k => XT.acmpYes X1.here hx rfl (pc0 := 4) (pc' := 18) rfl (hb hby dc1_4) rfl rfl rfl (XT.aa_eq_t (congrArg Value.ref hc4_2)) (by decide) (by decide) k) ?_
    show Go p e below _ T1 (mkF m 18 #[.val (.ref a)] [])
    refine Go.of (fun _ k => XS.iconst X1.here hx rfl (hb hby dc1_18) k) ?_
    show Go p e below _ T1 (mkF m 19 #[.val (.ref a)] [(.int (0 : Int32))])
    exact own_retZ (z' := (0 : Int32)) X1 hx hlk hret (hb hby dc1_19) rfl ⟨by rw [dcd, if_pos hc4_2], rfl, e1⟩ (by decide) (by decide)
  ·
    refine Go.of (fun _ k => XT.acmpNo X1.here hx rfl (hb hby dc1_4) rfl rfl rfl (XT.aa_eq_f (fun q => hc4_2 (Value.ref.inj q))) k) ?_
    show Go p e below _ T1 (mkF m 7 #[.val (.ref a)] [])
    refine Go.of (fun _ k => XS.aloadN X1.here hx rfl (hb hby dc1_7) rfl rfl k) ?_
    show Go p e below _ T1 (mkF m 8 #[.val (.ref a)] [(.ref a)])
    obtain ⟨T3, X3, e3, st3⟩ := getS2 X1 hx hZ hown (host := "") (Or.inl (hw _ (List.mem_of_getElem? (i := 15) rfl))) Via.refl e1 S3 (g := (mkF m 8 #[.val (.ref a)] [(.ref a)])) rfl (hb hby dc1_8)
    refine Go.of st3 ?_
    show Go p e below _ T3 (mkF m 11 #[.val (.ref a)] [(.ref (w 3)), (.ref a)])
    by_cases hc11_4 : a = (w 3)
    ·
      refine Go.of (fun _ k => XT.acmpYes X3.here hx rfl (pc0 := 11) (pc' := 18) rfl (hb hby dc1_11) rfl rfl rfl (XT.aa_eq_t (congrArg Value.ref hc11_4)) (by decide) (by decide) k) ?_
      show Go p e below _ T3 (mkF m 18 #[.val (.ref a)] [])
      refine Go.of (fun _ k => XS.iconst X3.here hx rfl (hb hby dc1_18) k) ?_
      show Go p e below _ T3 (mkF m 19 #[.val (.ref a)] [(.int (0 : Int32))])
      exact own_retZ (z' := (0 : Int32)) X3 hx hlk hret (hb hby dc1_19) rfl ⟨by rw [dcd, if_neg hc4_2, if_pos hc11_4], rfl, e3⟩ (by decide) (by decide)
    ·
      refine Go.of (fun _ k => XT.acmpNo X3.here hx rfl (hb hby dc1_11) rfl rfl rfl (XT.aa_eq_f (fun q => hc11_4 (Value.ref.inj q))) k) ?_
      show Go p e below _ T3 (mkF m 14 #[.val (.ref a)] [])
      refine Go.of (fun _ k => XS.iconst X3.here hx rfl (hb hby dc1_14) k) ?_
      show Go p e below _ T3 (mkF m 15 #[.val (.ref a)] [(.int (1 : Int32))])
      refine Go.of (fun _ k => XS.goto X3.here hx rfl (pc0 := 15) (pc' := 19) rfl (hb hby dc1_15) (by decide) (by decide) k) ?_
      show Go p e below _ T3 (mkF m 19 #[.val (.ref a)] [(.int (1 : Int32))])
      exact own_retZ (z' := (1 : Int32)) X3 hx hlk hret (hb hby dc1_19) rfl ⟨by rw [dcd, if_neg hc4_2, if_neg hc11_4], rfl, e3⟩ (by decide) (by decide)
theorem dc2_0 : decode prog_176_method_6_code 0 = .ok (.aload_n 0, 1) := by decide +kernel
theorem dc2_1 : decode prog_176_method_6_code 1 = .ok (.getstatic 16, 3) := by decide +kernel
theorem dc2_4 : decode prog_176_method_6_code 4 = .ok (.if_acmp .eq 10, 3) := by decide +kernel
theorem dc2_7 : decode prog_176_method_6_code 7 = .ok (.aload_n 0, 1) := by decide +kernel
theorem dc2_8 : decode prog_176_method_6_code 8 = .ok (.getstatic 19, 3) := by decide +kernel
theorem dc2_11 : decode prog_176_method_6_code 11 = .ok (.if_acmp .ne 7, 3) := by decide +kernel
theorem dc2_14 : decode prog_176_method_6_code 14 = .ok (.iconst 1, 1) := by decide +kernel
theorem dc2_15 : decode prog_176_method_6_code 15 = .ok (.goto 4, 3) := by decide +kernel
theorem dc2_18 : decode prog_176_method_6_code 18 = .ok (.iconst 0, 1) := by decide +kernel
theorem dc2_19 : decode prog_176_method_6_code 19 = .ok (.ireturn, 1) := by decide +kernel
theorem pn_c2 : plainFor (⟨"tallyframe/journal/State", "undone", "()Z"⟩ : MethodName) = true := by first | (refine plainFor_of_name ?_; simp [plainName, overriddenIn]; done) | (refine plainFor_of_name ?_; decide +kernel) | decide +kernel
theorem ef_c2 (m : MethodId) (a : Addr) : entryFrame m #[(.ref a)] 1 = mkF m 0 #[.val (.ref a)] [] := by first | (simp [entryFrame, mkF, argsToLocals, Value.category]; done) | rfl
set_option maxRecDepth 65536 in
set_option maxHeartbeats 40000000 in
theorem c2 (l : Launch) (Z : State) (a0 : Array Value) (hw : ∀ d ∈ tables_1, d.before a0 Z = true) (w : Nat → Addr) (h0 : Heap) (D : Wd Z h0 w) (a : Addr) (r : Int32) (hr : und w a = r) :
    Ct l Z (⟨"tallyframe/journal/State", "undone", "()Z"⟩ : MethodName) prog_176_method_6_code 1 (some .boolean) [] ({ frames := 0, cells := 0, slots := 0, locals := 0 } : Room) #[(.ref a)] h0 (Pu h0 (some (.int r))) := by
  refine own_met pn_c2 ?_
  intro p e s m below meth c s₁ X0 hx hby hml hret hown hnm hlk hZ e0
  subst hr
  obtain ⟨S0, S1, S2, S3, S4, S5, Ex, Fo⟩ := D
  refine Go.cast (ef_c2 m a) ?_
  show Go p e below _ s₁ (mkF m 0 #[.val (.ref a)] [])
  refine Go.of (fun _ k => XS.aloadN X0.here hx rfl (hb hby dc2_0) rfl rfl k) ?_
  show Go p e below _ s₁ (mkF m 1 #[.val (.ref a)] [(.ref a)])
  obtain ⟨T1, X1, e1, st1⟩ := getS2 X0 hx hZ hown (host := "") (Or.inl (hw _ (List.mem_of_getElem? (i := 22) rfl))) Via.refl e0 S4 (g := (mkF m 1 #[.val (.ref a)] [(.ref a)])) rfl (hb hby dc2_1)
  refine Go.of st1 ?_
  show Go p e below _ T1 (mkF m 4 #[.val (.ref a)] [(.ref (w 4)), (.ref a)])
  by_cases hc4_2 : a = (w 4)
  ·
    refine Go.of (fun _ k => XT.acmpYes X1.here hx rfl (pc0 := 4) (pc' := 14) rfl (hb hby dc2_4) rfl rfl rfl (XT.aa_eq_t (congrArg Value.ref hc4_2)) (by decide) (by decide) k) ?_
    show Go p e below _ T1 (mkF m 14 #[.val (.ref a)] [])
    refine Go.of (fun _ k => XS.iconst X1.here hx rfl (hb hby dc2_14) k) ?_
    show Go p e below _ T1 (mkF m 15 #[.val (.ref a)] [(.int (1 : Int32))])
    refine Go.of (fun _ k => XS.goto X1.here hx rfl (pc0 := 15) (pc' := 19) rfl (hb hby dc2_15) (by decide) (by decide) k) ?_
    show Go p e below _ T1 (mkF m 19 #[.val (.ref a)] [(.int (1 : Int32))])
    exact own_retZ (z' := (1 : Int32)) X1 hx hlk hret (hb hby dc2_19) rfl ⟨by rw [und, if_pos hc4_2], rfl, e1⟩ (by decide) (by decide)
  ·
    refine Go.of (fun _ k => XT.acmpNo X1.here hx rfl (hb hby dc2_4) rfl rfl rfl (XT.aa_eq_f (fun q => hc4_2 (Value.ref.inj q))) k) ?_
    show Go p e below _ T1 (mkF m 7 #[.val (.ref a)] [])
    refine Go.of (fun _ k => XS.aloadN X1.here hx rfl (hb hby dc2_7) rfl rfl k) ?_
    show Go p e below _ T1 (mkF m 8 #[.val (.ref a)] [(.ref a)])
    obtain ⟨T3, X3, e3, st3⟩ := getS2 X1 hx hZ hown (host := "") (Or.inl (hw _ (List.mem_of_getElem? (i := 24) rfl))) Via.refl e1 S5 (g := (mkF m 8 #[.val (.ref a)] [(.ref a)])) rfl (hb hby dc2_8)
    refine Go.of st3 ?_
    show Go p e below _ T3 (mkF m 11 #[.val (.ref a)] [(.ref (w 5)), (.ref a)])
    by_cases hc11_4 : a = (w 5)
    ·
      refine Go.of (fun _ k => XT.acmpNo X3.here hx rfl (hb hby dc2_11) rfl rfl rfl (XT.aa_ne_f (congrArg Value.ref hc11_4)) k) ?_
      show Go p e below _ T3 (mkF m 14 #[.val (.ref a)] [])
      refine Go.of (fun _ k => XS.iconst X3.here hx rfl (hb hby dc2_14) k) ?_
      show Go p e below _ T3 (mkF m 15 #[.val (.ref a)] [(.int (1 : Int32))])
      refine Go.of (fun _ k => XS.goto X3.here hx rfl (pc0 := 15) (pc' := 19) rfl (hb hby dc2_15) (by decide) (by decide) k) ?_
      show Go p e below _ T3 (mkF m 19 #[.val (.ref a)] [(.int (1 : Int32))])
      exact own_retZ (z' := (1 : Int32)) X3 hx hlk hret (hb hby dc2_19) rfl ⟨by rw [und, if_neg hc4_2, if_pos hc11_4], rfl, e3⟩ (by decide) (by decide)
    ·
      refine Go.of (fun _ k => XT.acmpYes X3.here hx rfl (pc0 := 11) (pc' := 18) rfl (hb hby dc2_11) rfl rfl rfl (XT.aa_ne_t (fun q => hc11_4 (Value.ref.inj q))) (by decide) (by decide) k) ?_
      show Go p e below _ T3 (mkF m 18 #[.val (.ref a)] [])
      refine Go.of (fun _ k => XS.iconst X3.here hx rfl (hb hby dc2_18) k) ?_
      show Go p e below _ T3 (mkF m 19 #[.val (.ref a)] [(.int (0 : Int32))])
      exact own_retZ (z' := (0 : Int32)) X3 hx hlk hret (hb hby dc2_19) rfl ⟨by rw [und, if_neg hc4_2, if_neg hc11_4], rfl, e3⟩ (by decide) (by decide)
theorem dc3_0 : decode method_3_code 0 = .ok (.iload_n 0, 1) := by decide +kernel
theorem dc3_1 : decode method_3_code 1 = .ok (.ifCond .ne 7, 3) := by decide +kernel
theorem dc3_4 : decode method_3_code 4 = .ok (.getstatic 23, 3) := by decide +kernel
theorem dc3_7 : decode method_3_code 7 = .ok (.areturn, 1) := by decide +kernel
theorem dc3_8 : decode method_3_code 8 = .ok (.iload_n 0, 1) := by decide +kernel
theorem dc3_9 : decode method_3_code 9 = .ok (.iconst 1, 1) := by decide +kernel
theorem dc3_10 : decode method_3_code 10 = .ok (.if_icmp .ne 7, 3) := by decide +kernel
theorem dc3_13 : decode method_3_code 13 = .ok (.getstatic 27, 3) := by decide +kernel
theorem dc3_16 : decode method_3_code 16 = .ok (.areturn, 1) := by decide +kernel
theorem dc3_17 : decode method_3_code 17 = .ok (.iload_n 0, 1) := by decide +kernel
theorem dc3_18 : decode method_3_code 18 = .ok (.iconst 2, 1) := by decide +kernel
theorem dc3_19 : decode method_3_code 19 = .ok (.if_icmp .ne 7, 3) := by decide +kernel
theorem dc3_22 : decode method_3_code 22 = .ok (.getstatic 30, 3) := by decide +kernel
theorem dc3_25 : decode method_3_code 25 = .ok (.areturn, 1) := by decide +kernel
theorem dc3_26 : decode method_3_code 26 = .ok (.iload_n 0, 1) := by decide +kernel
theorem dc3_27 : decode method_3_code 27 = .ok (.iconst 3, 1) := by decide +kernel
theorem dc3_28 : decode method_3_code 28 = .ok (.if_icmp .ne 7, 3) := by decide +kernel
theorem dc3_31 : decode method_3_code 31 = .ok (.getstatic 33, 3) := by decide +kernel
theorem dc3_34 : decode method_3_code 34 = .ok (.areturn, 1) := by decide +kernel
theorem dc3_35 : decode method_3_code 35 = .ok (.iload_n 0, 1) := by decide +kernel
theorem dc3_36 : decode method_3_code 36 = .ok (.iconst 4, 1) := by decide +kernel
theorem dc3_37 : decode method_3_code 37 = .ok (.if_icmp .ne 7, 3) := by decide +kernel
theorem dc3_40 : decode method_3_code 40 = .ok (.getstatic 36, 3) := by decide +kernel
theorem dc3_43 : decode method_3_code 43 = .ok (.areturn, 1) := by decide +kernel
theorem dc3_44 : decode method_3_code 44 = .ok (.getstatic 39, 3) := by decide +kernel
theorem dc3_47 : decode method_3_code 47 = .ok (.areturn, 1) := by decide +kernel
theorem pn_c3 : plainFor (⟨"tallyframe/journal/StateDecidedPinLaw", "pick", "(I)Ltallyframe/journal/State;"⟩ : MethodName) = true := by first | (refine plainFor_of_name ?_; simp [plainName, overriddenIn]; done) | (refine plainFor_of_name ?_; decide +kernel) | decide +kernel
theorem ef_c3 (m : MethodId) (i : Int32) : entryFrame m #[(.int i)] 1 = mkF m 0 #[.val (.int i)] [] := by first | (simp [entryFrame, mkF, argsToLocals, Value.category]; done) | rfl
set_option maxRecDepth 65536 in
set_option maxHeartbeats 40000000 in
theorem c3 (l : Launch) (Z : State) (a0 : Array Value) (hw : ∀ d ∈ tables_1, d.before a0 Z = true) (w : Nat → Addr) (h0 : Heap) (D : Wd Z h0 w) (i : Int32) (r : Nat) (hr : pck i = r) :
    Ct l Z (⟨"tallyframe/journal/StateDecidedPinLaw", "pick", "(I)Ltallyframe/journal/State;"⟩ : MethodName) method_3_code 1 (some (.object "tallyframe/journal/State")) [] ({ frames := 0, cells := 0, slots := 0, locals := 0 } : Room) #[(.int i)] h0 (Pu h0 (some (.ref (w r)))) := by
  refine own_met pn_c3 ?_
  intro p e s m below meth c s₁ X0 hx hby hml hret hown hnm hlk hZ e0
  subst hr
  obtain ⟨S0, S1, S2, S3, S4, S5, Ex, Fo⟩ := D
  refine Go.cast (ef_c3 m i) ?_
  show Go p e below _ s₁ (mkF m 0 #[.val (.int i)] [])
  refine Go.of (fun _ k => XS.iloadN X0.here hx rfl (hb hby dc3_0) rfl k) ?_
  show Go p e below _ s₁ (mkF m 1 #[.val (.int i)] [(.int i)])
  by_cases hc1_1 : i = (0 : Int32)
  ·
    refine Go.of (fun _ k => XS.ifNo X0.here hx rfl (hb hby dc3_1) rfl (XT.i0_ne_f hc1_1) k) ?_
    show Go p e below _ s₁ (mkF m 4 #[.val (.int i)] [])
    obtain ⟨T2, X2, e2, st2⟩ := getS2 X0 hx hZ hown (host := "") (Or.inl (hw _ (List.mem_of_getElem? (i := 5) rfl))) Via.refl e0 S0 (g := (mkF m 4 #[.val (.int i)] [])) rfl (hb hby dc3_4)
    refine Go.of st2 ?_
    show Go p e below _ T2 (mkF m 7 #[.val (.int i)] [(.ref (w 0))])
    exact own_retA X2 hx hlk hret rfl rfl (hb hby dc3_7) ⟨by rw [pck, if_pos hc1_1], rfl, e2⟩ (by decide) (by decide)
  ·
    refine Go.of (fun _ k => XS.ifYes X0.here hx rfl (pc0 := 1) (pc' := 8) rfl (hb hby dc3_1) rfl (XT.i0_ne_t hc1_1) (by decide) (by decide) k) ?_
    show Go p e below _ s₁ (mkF m 8 #[.val (.int i)] [])
    refine Go.of (fun _ k => XS.iloadN X0.here hx rfl (hb hby dc3_8) rfl k) ?_
    show Go p e below _ s₁ (mkF m 9 #[.val (.int i)] [(.int i)])
    refine Go.of (fun _ k => XS.iconst X0.here hx rfl (hb hby dc3_9) k) ?_
    show Go p e below _ s₁ (mkF m 10 #[.val (.int i)] [(.int (1 : Int32)), (.int i)])
    by_cases hc10_3 : i = (1 : Int32)
    ·
      refine Go.of (fun _ k => XS.icmpNo X0.here hx rfl (hb hby dc3_10) rfl (XT.ii_ne_f hc10_3) k) ?_
      show Go p e below _ s₁ (mkF m 13 #[.val (.int i)] [])
      obtain ⟨T4, X4, e4, st4⟩ := getS2 X0 hx hZ hown (host := "") (Or.inl (hw _ (List.mem_of_getElem? (i := 28) rfl))) Via.refl e0 S1 (g := (mkF m 13 #[.val (.int i)] [])) rfl (hb hby dc3_13)
      refine Go.of st4 ?_
      show Go p e below _ T4 (mkF m 16 #[.val (.int i)] [(.ref (w 1))])
      exact own_retA X4 hx hlk hret rfl rfl (hb hby dc3_16) ⟨by rw [pck, if_neg hc1_1, if_pos hc10_3], rfl, e4⟩ (by decide) (by decide)
    ·
      refine Go.of (fun _ k => XS.icmpYes X0.here hx rfl (pc0 := 10) (pc' := 17) rfl (hb hby dc3_10) rfl (XT.ii_ne_t hc10_3) (by decide) (by decide) k) ?_
      show Go p e below _ s₁ (mkF m 17 #[.val (.int i)] [])
      refine Go.of (fun _ k => XS.iloadN X0.here hx rfl (hb hby dc3_17) rfl k) ?_
      show Go p e below _ s₁ (mkF m 18 #[.val (.int i)] [(.int i)])
      refine Go.of (fun _ k => XS.iconst X0.here hx rfl (hb hby dc3_18) k) ?_
      show Go p e below _ s₁ (mkF m 19 #[.val (.int i)] [(.int (2 : Int32)), (.int i)])
      by_cases hc19_5 : i = (2 : Int32)
      ·
        refine Go.of (fun _ k => XS.icmpNo X0.here hx rfl (hb hby dc3_19) rfl (XT.ii_ne_f hc19_5) k) ?_
        show Go p e below _ s₁ (mkF m 22 #[.val (.int i)] [])
        obtain ⟨T6, X6, e6, st6⟩ := getS2 X0 hx hZ hown (host := "") (Or.inl (hw _ (List.mem_of_getElem? (i := 27) rfl))) Via.refl e0 S2 (g := (mkF m 22 #[.val (.int i)] [])) rfl (hb hby dc3_22)
        refine Go.of st6 ?_
        show Go p e below _ T6 (mkF m 25 #[.val (.int i)] [(.ref (w 2))])
        exact own_retA X6 hx hlk hret rfl rfl (hb hby dc3_25) ⟨by rw [pck, if_neg hc1_1, if_neg hc10_3, if_pos hc19_5], rfl, e6⟩ (by decide) (by decide)
      ·
        refine Go.of (fun _ k => XS.icmpYes X0.here hx rfl (pc0 := 19) (pc' := 26) rfl (hb hby dc3_19) rfl (XT.ii_ne_t hc19_5) (by decide) (by decide) k) ?_
        show Go p e below _ s₁ (mkF m 26 #[.val (.int i)] [])
        refine Go.of (fun _ k => XS.iloadN X0.here hx rfl (hb hby dc3_26) rfl k) ?_
        show Go p e below _ s₁ (mkF m 27 #[.val (.int i)] [(.int i)])
        refine Go.of (fun _ k => XS.iconst X0.here hx rfl (hb hby dc3_27) k) ?_
        show Go p e below _ s₁ (mkF m 28 #[.val (.int i)] [(.int (3 : Int32)), (.int i)])
        by_cases hc28_7 : i = (3 : Int32)
        ·
          refine Go.of (fun _ k => XS.icmpNo X0.here hx rfl (hb hby dc3_28) rfl (XT.ii_ne_f hc28_7) k) ?_
          show Go p e below _ s₁ (mkF m 31 #[.val (.int i)] [])
          obtain ⟨T8, X8, e8, st8⟩ := getS2 X0 hx hZ hown (host := "") (Or.inl (hw _ (List.mem_of_getElem? (i := 26) rfl))) Via.refl e0 S3 (g := (mkF m 31 #[.val (.int i)] [])) rfl (hb hby dc3_31)
          refine Go.of st8 ?_
          show Go p e below _ T8 (mkF m 34 #[.val (.int i)] [(.ref (w 3))])
          exact own_retA X8 hx hlk hret rfl rfl (hb hby dc3_34) ⟨by rw [pck, if_neg hc1_1, if_neg hc10_3, if_neg hc19_5, if_pos hc28_7], rfl, e8⟩ (by decide) (by decide)
        ·
          refine Go.of (fun _ k => XS.icmpYes X0.here hx rfl (pc0 := 28) (pc' := 35) rfl (hb hby dc3_28) rfl (XT.ii_ne_t hc28_7) (by decide) (by decide) k) ?_
          show Go p e below _ s₁ (mkF m 35 #[.val (.int i)] [])
          refine Go.of (fun _ k => XS.iloadN X0.here hx rfl (hb hby dc3_35) rfl k) ?_
          show Go p e below _ s₁ (mkF m 36 #[.val (.int i)] [(.int i)])
          refine Go.of (fun _ k => XS.iconst X0.here hx rfl (hb hby dc3_36) k) ?_
          show Go p e below _ s₁ (mkF m 37 #[.val (.int i)] [(.int (4 : Int32)), (.int i)])
          by_cases hc37_9 : i = (4 : Int32)
          ·
            refine Go.of (fun _ k => XS.icmpNo X0.here hx rfl (hb hby dc3_37) rfl (XT.ii_ne_f hc37_9) k) ?_
            show Go p e below _ s₁ (mkF m 40 #[.val (.int i)] [])
            obtain ⟨T10, X10, e10, st10⟩ := getS2 X0 hx hZ hown (host := "") (Or.inl (hw _ (List.mem_of_getElem? (i := 31) rfl))) Via.refl e0 S4 (g := (mkF m 40 #[.val (.int i)] [])) rfl (hb hby dc3_40)
            refine Go.of st10 ?_
            show Go p e below _ T10 (mkF m 43 #[.val (.int i)] [(.ref (w 4))])
            exact own_retA X10 hx hlk hret rfl rfl (hb hby dc3_43) ⟨by rw [pck, if_neg hc1_1, if_neg hc10_3, if_neg hc19_5, if_neg hc28_7, if_pos hc37_9], rfl, e10⟩ (by decide) (by decide)
          ·
            refine Go.of (fun _ k => XS.icmpYes X0.here hx rfl (pc0 := 37) (pc' := 44) rfl (hb hby dc3_37) rfl (XT.ii_ne_t hc37_9) (by decide) (by decide) k) ?_
            show Go p e below _ s₁ (mkF m 44 #[.val (.int i)] [])
            obtain ⟨T11, X11, e11, st11⟩ := getS2 X0 hx hZ hown (host := "") (Or.inl (hw _ (List.mem_of_getElem? (i := 30) rfl))) Via.refl e0 S5 (g := (mkF m 44 #[.val (.int i)] [])) rfl (hb hby dc3_44)
            refine Go.of st11 ?_
            show Go p e below _ T11 (mkF m 47 #[.val (.int i)] [(.ref (w 5))])
            exact own_retA X11 hx hlk hret rfl rfl (hb hby dc3_47) ⟨by rw [pck, if_neg hc1_1, if_neg hc10_3, if_neg hc19_5, if_neg hc28_7, if_neg hc37_9], rfl, e11⟩ (by decide) (by decide)
theorem pn_law : plainFor x = true := by first | (refine plainFor_of_name ?_; simp [plainName, overriddenIn, x]; done) | (refine plainFor_of_name ?_; decide +kernel) | decide +kernel
theorem ef_law (m : MethodId) (x0 : Int32) : entryFrame m #[(.int x0)] maxLocals = mkF m 0 #[.val (.int x0), .unset, .unset, .unset, .unset] [] := by first | (simp [entryFrame, mkF, argsToLocals, Value.category, maxLocals]; done) | rfl
set_option maxRecDepth 65536 in
set_option maxHeartbeats 40000000 in
theorem rm0 (l : Launch) (Z : State) (a0 : Array Value) (hw : ∀ d ∈ tables_1, d.before a0 Z = true) (ws : List Jvm.Cond) (w : Nat → Addr) (h0 : Heap) (n0 : Nat) (D : Wd Z h0 w) (x0 : Int32) :
    Ct l Z x code maxLocals ret ws room_1 #[(.int x0)] h0 (fun v h L => v = some (.int 1) ∧ Fr n0 L) := by
  refine own_met pn_law ?_
  intro p e s m below meth c s₁ X0 hx hby hml0 hret hown hnm hlk hZ e0
  have hml : c.maxLocals = 5 := hml0
  have N0 := Fr.nil n0
  have D' := D
  obtain ⟨S0, S1, S2, S3, S4, S5, Ex, Fo⟩ := D'
  refine Go.cast (ef_law m x0) ?_
  show Go p e below _ s₁ (mkF m 0 #[.val (.int x0), .unset, .unset, .unset, .unset] [])
  refine Go.of (fun _ k => XS.iloadN X0.here hx rfl (hb hby at_0) rfl k) ?_
  show Go p e below _ s₁ (mkF m 1 #[.val (.int x0), .unset, .unset, .unset, .unset] [(.int x0)])
  refine Go.of (fun _ k => X0.ldcI hx hown (mvT hZ (hw _ (List.mem_of_getElem? (i := 0) rfl))) rfl (hb hby at_1) k) ?_
  show Go p e below _ s₁ (mkF m 3 #[.val (.int x0), .unset, .unset, .unset, .unset] [(.int (2147483647 : Int32)), (.int x0)])
  refine Go.of (fun _ k => XS.iand X0.here hx rfl (hb hby at_3) rfl k) ?_
  show Go p e below _ s₁ (mkF m 4 #[.val (.int x0), .unset, .unset, .unset, .unset] [(.int (x0 &&& (2147483647 : Int32)))])
  refine Go.of (fun _ k => XS.bipush X0.here hx rfl (hb hby at_4) k) ?_
  show Go p e below _ s₁ (mkF m 6 #[.val (.int x0), .unset, .unset, .unset, .unset] [(.int (6 : Int32)), (.int (x0 &&& (2147483647 : Int32)))])
  refine Go.of (fun _ k => iremM X0 hx rfl (hb hby at_6) rfl (by decide) k) ?_
  show Go p e below _ s₁ (mkF m 7 #[.val (.int x0), .unset, .unset, .unset, .unset] [(.int ((x0 &&& (2147483647 : Int32)) % (6 : Int32)))])
  refine Go.of (fun _ k => XS.istoreN X0.here hx rfl (hb hby at_7) rfl (l' := #[.val (.int x0), .val (.int ((x0 &&& (2147483647 : Int32)) % (6 : Int32))), .unset, .unset, .unset]) rfl k) ?_
  show Go p e below _ s₁ (mkF m 8 #[.val (.int x0), .val (.int ((x0 &&& (2147483647 : Int32)) % (6 : Int32))), .unset, .unset, .unset] [])
  generalize hi : ((x0 &&& (2147483647 : Int32)) % (6 : Int32)) = i
  show Go p e below _ s₁ (mkF m 8 #[.val (.int x0), .val (.int i), .unset, .unset, .unset] [])
  rcases (own_c6 (hi ▸ own_rem x0 6 (by decide))) with rfl | rfl | rfl | rfl | rfl | rfl
  ·
    show Go p e below _ s₁ (mkF m 8 #[.val (.int x0), .val (.int (0 : Int32)), .unset, .unset, .unset] [])
    refine Go.of (fun _ k => XS.iloadN X0.here hx rfl (hb hby at_8) rfl k) ?_
    show Go p e below _ s₁ (mkF m 9 #[.val (.int x0), .val (.int (0 : Int32)), .unset, .unset, .unset] [(.int (0 : Int32))])
    obtain ⟨T1, X1, e1, st1⟩ := own_pure rfl rfl (own_callSQ X0 hx hZ (y := (⟨"tallyframe/journal/StateDecidedPinLaw", "pick", "(I)Ltallyframe/journal/State;"⟩ : MethodName)) hown (hw _ (List.mem_of_getElem? (i := 1) rfl)) (hw _ (List.mem_of_getElem? (i := 2) rfl)) (hw _ (List.mem_of_getElem? (i := 3) rfl)) (hw _ (List.mem_of_getElem? (i := 4) rfl)) (by decide) (c3 l Z a0 hw w h0 D (0 : Int32) 0 (by decide)) (by decide) 0 (by decide) (by decide) (by decide) e0 (g := (mkF m 9 #[.val (.int x0), .val (.int (0 : Int32)), .unset, .unset, .unset] [(.int (0 : Int32))])) rfl (by rw [hml]; rfl) [(.int (0 : Int32))] [] (lenOf (by decide +kernel : parseMethodDescriptor "(I)Ltallyframe/journal/State;" = some ⟨[.int], some (.object "tallyframe/journal/State")⟩) rfl) rfl (by show 2 * 0 + _ ≤ _; exact Nat.le_of_eq rfl) rfl (hb hby at_9))
    refine Go.of st1 ?_
    show Go p e below _ T1 (mkF m 12 #[.val (.int x0), .val (.int (0 : Int32)), .unset, .unset, .unset] [(.ref (w 0))])
    refine Go.of (fun _ k => XS.astoreN X1.here hx rfl (hb hby at_12) rfl rfl (l' := #[.val (.int x0), .val (.int (0 : Int32)), .val (.ref (w 0)), .unset, .unset]) rfl k) ?_
    show Go p e below _ T1 (mkF m 13 #[.val (.int x0), .val (.int (0 : Int32)), .val (.ref (w 0)), .unset, .unset] [])
    refine Go.of (fun _ k => XS.iloadN X1.here hx rfl (hb hby at_13) rfl k) ?_
    show Go p e below _ T1 (mkF m 14 #[.val (.int x0), .val (.int (0 : Int32)), .val (.ref (w 0)), .unset, .unset] [(.int (0 : Int32))])
    refine Go.of (fun _ k => XS.ifYes X1.here hx rfl (pc0 := 14) (pc' := 32) rfl (hb hby at_14) rfl (XT.i0_eq_t (by decide)) (by decide) (by decide) k) ?_
    show Go p e below _ T1 (mkF m 32 #[.val (.int x0), .val (.int (0 : Int32)), .val (.ref (w 0)), .unset, .unset] [])
    refine Go.of (fun _ k => XS.iconst X1.here hx rfl (hb hby at_32) k) ?_
    show Go p e below _ T1 (mkF m 33 #[.val (.int x0), .val (.int (0 : Int32)), .val (.ref (w 0)), .unset, .unset] [(.int (1 : Int32))])
    refine Go.of (fun _ k => XS.goto X1.here hx rfl (pc0 := 33) (pc' := 37) rfl (hb hby at_33) (by decide) (by decide) k) ?_
    show Go p e below _ T1 (mkF m 37 #[.val (.int x0), .val (.int (0 : Int32)), .val (.ref (w 0)), .unset, .unset] [(.int (1 : Int32))])
    refine Go.of (fun _ k => XS.istoreN X1.here hx rfl (hb hby at_37) rfl (l' := #[.val (.int x0), .val (.int (0 : Int32)), .val (.ref (w 0)), .val (.int (1 : Int32)), .unset]) rfl k) ?_
    show Go p e below _ T1 (mkF m 38 #[.val (.int x0), .val (.int (0 : Int32)), .val (.ref (w 0)), .val (.int (1 : Int32)), .unset] [])
    refine Go.of (fun _ k => XS.aloadN X1.here hx rfl (hb hby at_38) rfl rfl k) ?_
    show Go p e below _ T1 (mkF m 39 #[.val (.int x0), .val (.int (0 : Int32)), .val (.ref (w 0)), .val (.int (1 : Int32)), .unset] [(.ref (w 0))])
    obtain ⟨T2, X2, e2, st2⟩ := own_pure rfl rfl (own_callVQ X1 hx hZ (y := (⟨"tallyframe/journal/State", "decided", "()Z"⟩ : MethodName)) hown (hw _ (List.mem_of_getElem? (i := 8) rfl)) (hw _ (List.mem_of_getElem? (i := 9) rfl)) (hw _ (List.mem_of_getElem? (i := 11) rfl)) (hw _ (List.mem_of_getElem? (i := 11) rfl)) (hw _ (List.mem_of_getElem? (i := 10) rfl)) (hw _ (List.mem_of_getElem? (i := 12) rfl)) (hw _ (List.mem_of_getElem? (i := 6) rfl)) (by decide) (c1 l Z a0 hw w h0 D (w 0) (1 : Int32) (by simp [dcd, (own_inj Fo (i := 0) (j := 2) (by decide) (by decide) (by decide)), (own_inj Fo (i := 0) (j := 3) (by decide) (by decide) (by decide))])) (by decide) 0 (by decide) (by decide) (by decide) e1 (Ex 0 (by decide)) (g := (mkF m 39 #[.val (.int x0), .val (.int (0 : Int32)), .val (.ref (w 0)), .val (.int (1 : Int32)), .unset] [(.ref (w 0))])) rfl (by rw [hml]; rfl) [] [] (lenOf (by decide +kernel : parseMethodDescriptor "()Z" = some ⟨[], some .boolean⟩) rfl) rfl (by show 2 * 0 + _ ≤ _; exact Nat.le_of_eq rfl) rfl (hb hby at_39))
    refine Go.of st2 ?_
    show Go p e below _ T2 (mkF m 42 #[.val (.int x0), .val (.int (0 : Int32)), .val (.ref (w 0)), .val (.int (1 : Int32)), .unset] [(.int (1 : Int32))])
    refine Go.of (fun _ k => XS.istore X2.here hx rfl (hb hby at_42) rfl (l' := #[.val (.int x0), .val (.int (0 : Int32)), .val (.ref (w 0)), .val (.int (1 : Int32)), .val (.int (1 : Int32))]) rfl k) ?_
    show Go p e below _ T2 (mkF m 44 #[.val (.int x0), .val (.int (0 : Int32)), .val (.ref (w 0)), .val (.int (1 : Int32)), .val (.int (1 : Int32))] [])
    refine Go.of (fun _ k => XS.iload X2.here hx rfl (hb hby at_44) rfl k) ?_
    show Go p e below _ T2 (mkF m 46 #[.val (.int x0), .val (.int (0 : Int32)), .val (.ref (w 0)), .val (.int (1 : Int32)), .val (.int (1 : Int32))] [(.int (1 : Int32))])
    refine Go.of (fun _ k => XS.iloadN X2.here hx rfl (hb hby at_46) rfl k) ?_
    show Go p e below _ T2 (mkF m 47 #[.val (.int x0), .val (.int (0 : Int32)), .val (.ref (w 0)), .val (.int (1 : Int32)), .val (.int (1 : Int32))] [(.int (1 : Int32)), (.int (1 : Int32))])
    refine Go.of (fun _ k => XS.icmpYes X2.here hx rfl (pc0 := 47) (pc' := 52) rfl (hb hby at_47) rfl (XT.ii_eq_t (by decide)) (by decide) (by decide) k) ?_
    show Go p e below _ T2 (mkF m 52 #[.val (.int x0), .val (.int (0 : Int32)), .val (.ref (w 0)), .val (.int (1 : Int32)), .val (.int (1 : Int32))] [])
    refine Go.of (fun _ k => XS.aloadN X2.here hx rfl (hb hby at_52) rfl rfl k) ?_
    show Go p e below _ T2 (mkF m 53 #[.val (.int x0), .val (.int (0 : Int32)), .val (.ref (w 0)), .val (.int (1 : Int32)), .val (.int (1 : Int32))] [(.ref (w 0))])
    obtain ⟨T3, X3, e3, st3⟩ := own_pure rfl rfl (own_callVQ X2 hx hZ (y := (⟨"tallyframe/journal/State", "undone", "()Z"⟩ : MethodName)) hown (hw _ (List.mem_of_getElem? (i := 17) rfl)) (hw _ (List.mem_of_getElem? (i := 18) rfl)) (hw _ (List.mem_of_getElem? (i := 20) rfl)) (hw _ (List.mem_of_getElem? (i := 20) rfl)) (hw _ (List.mem_of_getElem? (i := 19) rfl)) (hw _ (List.mem_of_getElem? (i := 21) rfl)) (hw _ (List.mem_of_getElem? (i := 6) rfl)) (by decide) (c2 l Z a0 hw w h0 D (w 0) (0 : Int32) (by simp [und, (own_inj Fo (i := 0) (j := 4) (by decide) (by decide) (by decide)), (own_inj Fo (i := 0) (j := 5) (by decide) (by decide) (by decide))])) (by decide) 0 (by decide) (by decide) (by decide) e2 (Ex 0 (by decide)) (g := (mkF m 53 #[.val (.int x0), .val (.int (0 : Int32)), .val (.ref (w 0)), .val (.int (1 : Int32)), .val (.int (1 : Int32))] [(.ref (w 0))])) rfl (by rw [hml]; rfl) [] [] (lenOf (by decide +kernel : parseMethodDescriptor "()Z" = some ⟨[], some .boolean⟩) rfl) rfl (by show 2 * 0 + _ ≤ _; exact Nat.le_of_eq rfl) rfl (hb hby at_53))
    refine Go.of st3 ?_
    show Go p e below _ T3 (mkF m 56 #[.val (.int x0), .val (.int (0 : Int32)), .val (.ref (w 0)), .val (.int (1 : Int32)), .val (.int (1 : Int32))] [(.int (0 : Int32))])
    refine Go.of (fun _ k => XS.ifYes X3.here hx rfl (pc0 := 56) (pc' := 66) rfl (hb hby at_56) rfl (XT.i0_eq_t (by decide)) (by decide) (by decide) k) ?_
    show Go p e below _ T3 (mkF m 66 #[.val (.int x0), .val (.int (0 : Int32)), .val (.ref (w 0)), .val (.int (1 : Int32)), .val (.int (1 : Int32))] [])
    refine Go.of (fun _ k => XS.iconst X3.here hx rfl (hb hby at_66) k) ?_
    show Go p e below _ T3 (mkF m 67 #[.val (.int x0), .val (.int (0 : Int32)), .val (.ref (w 0)), .val (.int (1 : Int32)), .val (.int (1 : Int32))] [(.int (1 : Int32))])
    exact own_retZ (z' := (1 : Int32)) X3 hx hlk hret (hb hby at_67) rfl ⟨rfl, N0⟩ (by decide) (by decide)
  ·
    show Go p e below _ s₁ (mkF m 8 #[.val (.int x0), .val (.int (1 : Int32)), .unset, .unset, .unset] [])
    refine Go.of (fun _ k => XS.iloadN X0.here hx rfl (hb hby at_8) rfl k) ?_
    show Go p e below _ s₁ (mkF m 9 #[.val (.int x0), .val (.int (1 : Int32)), .unset, .unset, .unset] [(.int (1 : Int32))])
    obtain ⟨T4, X4, e4, st4⟩ := own_pure rfl rfl (own_callSQ X0 hx hZ (y := (⟨"tallyframe/journal/StateDecidedPinLaw", "pick", "(I)Ltallyframe/journal/State;"⟩ : MethodName)) hown (hw _ (List.mem_of_getElem? (i := 1) rfl)) (hw _ (List.mem_of_getElem? (i := 2) rfl)) (hw _ (List.mem_of_getElem? (i := 3) rfl)) (hw _ (List.mem_of_getElem? (i := 4) rfl)) (by decide) (c3 l Z a0 hw w h0 D (1 : Int32) 1 (by decide)) (by decide) 0 (by decide) (by decide) (by decide) e0 (g := (mkF m 9 #[.val (.int x0), .val (.int (1 : Int32)), .unset, .unset, .unset] [(.int (1 : Int32))])) rfl (by rw [hml]; rfl) [(.int (1 : Int32))] [] (lenOf (by decide +kernel : parseMethodDescriptor "(I)Ltallyframe/journal/State;" = some ⟨[.int], some (.object "tallyframe/journal/State")⟩) rfl) rfl (by show 2 * 0 + _ ≤ _; exact Nat.le_of_eq rfl) rfl (hb hby at_9))
    refine Go.of st4 ?_
    show Go p e below _ T4 (mkF m 12 #[.val (.int x0), .val (.int (1 : Int32)), .unset, .unset, .unset] [(.ref (w 1))])
    refine Go.of (fun _ k => XS.astoreN X4.here hx rfl (hb hby at_12) rfl rfl (l' := #[.val (.int x0), .val (.int (1 : Int32)), .val (.ref (w 1)), .unset, .unset]) rfl k) ?_
    show Go p e below _ T4 (mkF m 13 #[.val (.int x0), .val (.int (1 : Int32)), .val (.ref (w 1)), .unset, .unset] [])
    refine Go.of (fun _ k => XS.iloadN X4.here hx rfl (hb hby at_13) rfl k) ?_
    show Go p e below _ T4 (mkF m 14 #[.val (.int x0), .val (.int (1 : Int32)), .val (.ref (w 1)), .unset, .unset] [(.int (1 : Int32))])
    refine Go.of (fun _ k => XS.ifNo X4.here hx rfl (hb hby at_14) rfl (XT.i0_eq_f (by decide)) k) ?_
    show Go p e below _ T4 (mkF m 17 #[.val (.int x0), .val (.int (1 : Int32)), .val (.ref (w 1)), .unset, .unset] [])
    refine Go.of (fun _ k => XS.iloadN X4.here hx rfl (hb hby at_17) rfl k) ?_
    show Go p e below _ T4 (mkF m 18 #[.val (.int x0), .val (.int (1 : Int32)), .val (.ref (w 1)), .unset, .unset] [(.int (1 : Int32))])
    refine Go.of (fun _ k => XS.iconst X4.here hx rfl (hb hby at_18) k) ?_
    show Go p e below _ T4 (mkF m 19 #[.val (.int x0), .val (.int (1 : Int32)), .val (.ref (w 1)), .unset, .unset] [(.int (1 : Int32)), (.int (1 : Int32))])
    refine Go.of (fun _ k => XS.icmpYes X4.here hx rfl (pc0 := 19) (pc' := 32) rfl (hb hby at_19) rfl (XT.ii_eq_t (by decide)) (by decide) (by decide) k) ?_
    show Go p e below _ T4 (mkF m 32 #[.val (.int x0), .val (.int (1 : Int32)), .val (.ref (w 1)), .unset, .unset] [])
    refine Go.of (fun _ k => XS.iconst X4.here hx rfl (hb hby at_32) k) ?_
    show Go p e below _ T4 (mkF m 33 #[.val (.int x0), .val (.int (1 : Int32)), .val (.ref (w 1)), .unset, .unset] [(.int (1 : Int32))])
    refine Go.of (fun _ k => XS.goto X4.here hx rfl (pc0 := 33) (pc' := 37) rfl (hb hby at_33) (by decide) (by decide) k) ?_
    show Go p e below _ T4 (mkF m 37 #[.val (.int x0), .val (.int (1 : Int32)), .val (.ref (w 1)), .unset, .unset] [(.int (1 : Int32))])
    refine Go.of (fun _ k => XS.istoreN X4.here hx rfl (hb hby at_37) rfl (l' := #[.val (.int x0), .val (.int (1 : Int32)), .val (.ref (w 1)), .val (.int (1 : Int32)), .unset]) rfl k) ?_
    show Go p e below _ T4 (mkF m 38 #[.val (.int x0), .val (.int (1 : Int32)), .val (.ref (w 1)), .val (.int (1 : Int32)), .unset] [])
    refine Go.of (fun _ k => XS.aloadN X4.here hx rfl (hb hby at_38) rfl rfl k) ?_
    show Go p e below _ T4 (mkF m 39 #[.val (.int x0), .val (.int (1 : Int32)), .val (.ref (w 1)), .val (.int (1 : Int32)), .unset] [(.ref (w 1))])
    obtain ⟨T5, X5, e5, st5⟩ := own_pure rfl rfl (own_callVQ X4 hx hZ (y := (⟨"tallyframe/journal/State", "decided", "()Z"⟩ : MethodName)) hown (hw _ (List.mem_of_getElem? (i := 8) rfl)) (hw _ (List.mem_of_getElem? (i := 9) rfl)) (hw _ (List.mem_of_getElem? (i := 11) rfl)) (hw _ (List.mem_of_getElem? (i := 11) rfl)) (hw _ (List.mem_of_getElem? (i := 10) rfl)) (hw _ (List.mem_of_getElem? (i := 12) rfl)) (hw _ (List.mem_of_getElem? (i := 6) rfl)) (by decide) (c1 l Z a0 hw w h0 D (w 1) (1 : Int32) (by simp [dcd, (own_inj Fo (i := 1) (j := 2) (by decide) (by decide) (by decide)), (own_inj Fo (i := 1) (j := 3) (by decide) (by decide) (by decide))])) (by decide) 0 (by decide) (by decide) (by decide) e4 (Ex 1 (by decide)) (g := (mkF m 39 #[.val (.int x0), .val (.int (1 : Int32)), .val (.ref (w 1)), .val (.int (1 : Int32)), .unset] [(.ref (w 1))])) rfl (by rw [hml]; rfl) [] [] (lenOf (by decide +kernel : parseMethodDescriptor "()Z" = some ⟨[], some .boolean⟩) rfl) rfl (by show 2 * 0 + _ ≤ _; exact Nat.le_of_eq rfl) rfl (hb hby at_39))
    refine Go.of st5 ?_
    show Go p e below _ T5 (mkF m 42 #[.val (.int x0), .val (.int (1 : Int32)), .val (.ref (w 1)), .val (.int (1 : Int32)), .unset] [(.int (1 : Int32))])
    refine Go.of (fun _ k => XS.istore X5.here hx rfl (hb hby at_42) rfl (l' := #[.val (.int x0), .val (.int (1 : Int32)), .val (.ref (w 1)), .val (.int (1 : Int32)), .val (.int (1 : Int32))]) rfl k) ?_
    show Go p e below _ T5 (mkF m 44 #[.val (.int x0), .val (.int (1 : Int32)), .val (.ref (w 1)), .val (.int (1 : Int32)), .val (.int (1 : Int32))] [])
    refine Go.of (fun _ k => XS.iload X5.here hx rfl (hb hby at_44) rfl k) ?_
    show Go p e below _ T5 (mkF m 46 #[.val (.int x0), .val (.int (1 : Int32)), .val (.ref (w 1)), .val (.int (1 : Int32)), .val (.int (1 : Int32))] [(.int (1 : Int32))])
    refine Go.of (fun _ k => XS.iloadN X5.here hx rfl (hb hby at_46) rfl k) ?_
    show Go p e below _ T5 (mkF m 47 #[.val (.int x0), .val (.int (1 : Int32)), .val (.ref (w 1)), .val (.int (1 : Int32)), .val (.int (1 : Int32))] [(.int (1 : Int32)), (.int (1 : Int32))])
    refine Go.of (fun _ k => XS.icmpYes X5.here hx rfl (pc0 := 47) (pc' := 52) rfl (hb hby at_47) rfl (XT.ii_eq_t (by decide)) (by decide) (by decide) k) ?_
    show Go p e below _ T5 (mkF m 52 #[.val (.int x0), .val (.int (1 : Int32)), .val (.ref (w 1)), .val (.int (1 : Int32)), .val (.int (1 : Int32))] [])
    refine Go.of (fun _ k => XS.aloadN X5.here hx rfl (hb hby at_52) rfl rfl k) ?_
    show Go p e below _ T5 (mkF m 53 #[.val (.int x0), .val (.int (1 : Int32)), .val (.ref (w 1)), .val (.int (1 : Int32)), .val (.int (1 : Int32))] [(.ref (w 1))])
    obtain ⟨T6, X6, e6, st6⟩ := own_pure rfl rfl (own_callVQ X5 hx hZ (y := (⟨"tallyframe/journal/State", "undone", "()Z"⟩ : MethodName)) hown (hw _ (List.mem_of_getElem? (i := 17) rfl)) (hw _ (List.mem_of_getElem? (i := 18) rfl)) (hw _ (List.mem_of_getElem? (i := 20) rfl)) (hw _ (List.mem_of_getElem? (i := 20) rfl)) (hw _ (List.mem_of_getElem? (i := 19) rfl)) (hw _ (List.mem_of_getElem? (i := 21) rfl)) (hw _ (List.mem_of_getElem? (i := 6) rfl)) (by decide) (c2 l Z a0 hw w h0 D (w 1) (0 : Int32) (by simp [und, (own_inj Fo (i := 1) (j := 4) (by decide) (by decide) (by decide)), (own_inj Fo (i := 1) (j := 5) (by decide) (by decide) (by decide))])) (by decide) 0 (by decide) (by decide) (by decide) e5 (Ex 1 (by decide)) (g := (mkF m 53 #[.val (.int x0), .val (.int (1 : Int32)), .val (.ref (w 1)), .val (.int (1 : Int32)), .val (.int (1 : Int32))] [(.ref (w 1))])) rfl (by rw [hml]; rfl) [] [] (lenOf (by decide +kernel : parseMethodDescriptor "()Z" = some ⟨[], some .boolean⟩) rfl) rfl (by show 2 * 0 + _ ≤ _; exact Nat.le_of_eq rfl) rfl (hb hby at_53))
    refine Go.of st6 ?_
    show Go p e below _ T6 (mkF m 56 #[.val (.int x0), .val (.int (1 : Int32)), .val (.ref (w 1)), .val (.int (1 : Int32)), .val (.int (1 : Int32))] [(.int (0 : Int32))])
    refine Go.of (fun _ k => XS.ifYes X6.here hx rfl (pc0 := 56) (pc' := 66) rfl (hb hby at_56) rfl (XT.i0_eq_t (by decide)) (by decide) (by decide) k) ?_
    show Go p e below _ T6 (mkF m 66 #[.val (.int x0), .val (.int (1 : Int32)), .val (.ref (w 1)), .val (.int (1 : Int32)), .val (.int (1 : Int32))] [])
    refine Go.of (fun _ k => XS.iconst X6.here hx rfl (hb hby at_66) k) ?_
    show Go p e below _ T6 (mkF m 67 #[.val (.int x0), .val (.int (1 : Int32)), .val (.ref (w 1)), .val (.int (1 : Int32)), .val (.int (1 : Int32))] [(.int (1 : Int32))])
    exact own_retZ (z' := (1 : Int32)) X6 hx hlk hret (hb hby at_67) rfl ⟨rfl, N0⟩ (by decide) (by decide)
  ·
    show Go p e below _ s₁ (mkF m 8 #[.val (.int x0), .val (.int (2 : Int32)), .unset, .unset, .unset] [])
    refine Go.of (fun _ k => XS.iloadN X0.here hx rfl (hb hby at_8) rfl k) ?_
    show Go p e below _ s₁ (mkF m 9 #[.val (.int x0), .val (.int (2 : Int32)), .unset, .unset, .unset] [(.int (2 : Int32))])
    obtain ⟨T7, X7, e7, st7⟩ := own_pure rfl rfl (own_callSQ X0 hx hZ (y := (⟨"tallyframe/journal/StateDecidedPinLaw", "pick", "(I)Ltallyframe/journal/State;"⟩ : MethodName)) hown (hw _ (List.mem_of_getElem? (i := 1) rfl)) (hw _ (List.mem_of_getElem? (i := 2) rfl)) (hw _ (List.mem_of_getElem? (i := 3) rfl)) (hw _ (List.mem_of_getElem? (i := 4) rfl)) (by decide) (c3 l Z a0 hw w h0 D (2 : Int32) 2 (by decide)) (by decide) 0 (by decide) (by decide) (by decide) e0 (g := (mkF m 9 #[.val (.int x0), .val (.int (2 : Int32)), .unset, .unset, .unset] [(.int (2 : Int32))])) rfl (by rw [hml]; rfl) [(.int (2 : Int32))] [] (lenOf (by decide +kernel : parseMethodDescriptor "(I)Ltallyframe/journal/State;" = some ⟨[.int], some (.object "tallyframe/journal/State")⟩) rfl) rfl (by show 2 * 0 + _ ≤ _; exact Nat.le_of_eq rfl) rfl (hb hby at_9))
    refine Go.of st7 ?_
    show Go p e below _ T7 (mkF m 12 #[.val (.int x0), .val (.int (2 : Int32)), .unset, .unset, .unset] [(.ref (w 2))])
    refine Go.of (fun _ k => XS.astoreN X7.here hx rfl (hb hby at_12) rfl rfl (l' := #[.val (.int x0), .val (.int (2 : Int32)), .val (.ref (w 2)), .unset, .unset]) rfl k) ?_
    show Go p e below _ T7 (mkF m 13 #[.val (.int x0), .val (.int (2 : Int32)), .val (.ref (w 2)), .unset, .unset] [])
    refine Go.of (fun _ k => XS.iloadN X7.here hx rfl (hb hby at_13) rfl k) ?_
    show Go p e below _ T7 (mkF m 14 #[.val (.int x0), .val (.int (2 : Int32)), .val (.ref (w 2)), .unset, .unset] [(.int (2 : Int32))])
    refine Go.of (fun _ k => XS.ifNo X7.here hx rfl (hb hby at_14) rfl (XT.i0_eq_f (by decide)) k) ?_
    show Go p e below _ T7 (mkF m 17 #[.val (.int x0), .val (.int (2 : Int32)), .val (.ref (w 2)), .unset, .unset] [])
    refine Go.of (fun _ k => XS.iloadN X7.here hx rfl (hb hby at_17) rfl k) ?_
    show Go p e below _ T7 (mkF m 18 #[.val (.int x0), .val (.int (2 : Int32)), .val (.ref (w 2)), .unset, .unset] [(.int (2 : Int32))])
    refine Go.of (fun _ k => XS.iconst X7.here hx rfl (hb hby at_18) k) ?_
    show Go p e below _ T7 (mkF m 19 #[.val (.int x0), .val (.int (2 : Int32)), .val (.ref (w 2)), .unset, .unset] [(.int (1 : Int32)), (.int (2 : Int32))])
    refine Go.of (fun _ k => XS.icmpNo X7.here hx rfl (hb hby at_19) rfl (XT.ii_eq_f (by decide)) k) ?_
    show Go p e below _ T7 (mkF m 22 #[.val (.int x0), .val (.int (2 : Int32)), .val (.ref (w 2)), .unset, .unset] [])
    refine Go.of (fun _ k => XS.iloadN X7.here hx rfl (hb hby at_22) rfl k) ?_
    show Go p e below _ T7 (mkF m 23 #[.val (.int x0), .val (.int (2 : Int32)), .val (.ref (w 2)), .unset, .unset] [(.int (2 : Int32))])
    refine Go.of (fun _ k => XS.iconst X7.here hx rfl (hb hby at_23) k) ?_
    show Go p e below _ T7 (mkF m 24 #[.val (.int x0), .val (.int (2 : Int32)), .val (.ref (w 2)), .unset, .unset] [(.int (4 : Int32)), (.int (2 : Int32))])
    refine Go.of (fun _ k => XS.icmpNo X7.here hx rfl (hb hby at_24) rfl (XT.ii_eq_f (by decide)) k) ?_
    show Go p e below _ T7 (mkF m 27 #[.val (.int x0), .val (.int (2 : Int32)), .val (.ref (w 2)), .unset, .unset] [])
    refine Go.of (fun _ k => XS.iloadN X7.here hx rfl (hb hby at_27) rfl k) ?_
    show Go p e below _ T7 (mkF m 28 #[.val (.int x0), .val (.int (2 : Int32)), .val (.ref (w 2)), .unset, .unset] [(.int (2 : Int32))])
    refine Go.of (fun _ k => XS.iconst X7.here hx rfl (hb hby at_28) k) ?_
    show Go p e below _ T7 (mkF m 29 #[.val (.int x0), .val (.int (2 : Int32)), .val (.ref (w 2)), .unset, .unset] [(.int (5 : Int32)), (.int (2 : Int32))])
    refine Go.of (fun _ k => XS.icmpYes X7.here hx rfl (pc0 := 29) (pc' := 36) rfl (hb hby at_29) rfl (XT.ii_ne_t (by decide)) (by decide) (by decide) k) ?_
    show Go p e below _ T7 (mkF m 36 #[.val (.int x0), .val (.int (2 : Int32)), .val (.ref (w 2)), .unset, .unset] [])
    refine Go.of (fun _ k => XS.iconst X7.here hx rfl (hb hby at_36) k) ?_
    show Go p e below _ T7 (mkF m 37 #[.val (.int x0), .val (.int (2 : Int32)), .val (.ref (w 2)), .unset, .unset] [(.int (0 : Int32))])
    refine Go.of (fun _ k => XS.istoreN X7.here hx rfl (hb hby at_37) rfl (l' := #[.val (.int x0), .val (.int (2 : Int32)), .val (.ref (w 2)), .val (.int (0 : Int32)), .unset]) rfl k) ?_
    show Go p e below _ T7 (mkF m 38 #[.val (.int x0), .val (.int (2 : Int32)), .val (.ref (w 2)), .val (.int (0 : Int32)), .unset] [])
    refine Go.of (fun _ k => XS.aloadN X7.here hx rfl (hb hby at_38) rfl rfl k) ?_
    show Go p e below _ T7 (mkF m 39 #[.val (.int x0), .val (.int (2 : Int32)), .val (.ref (w 2)), .val (.int (0 : Int32)), .unset] [(.ref (w 2))])
    obtain ⟨T8, X8, e8, st8⟩ := own_pure rfl rfl (own_callVQ X7 hx hZ (y := (⟨"tallyframe/journal/State", "decided", "()Z"⟩ : MethodName)) hown (hw _ (List.mem_of_getElem? (i := 8) rfl)) (hw _ (List.mem_of_getElem? (i := 9) rfl)) (hw _ (List.mem_of_getElem? (i := 11) rfl)) (hw _ (List.mem_of_getElem? (i := 11) rfl)) (hw _ (List.mem_of_getElem? (i := 10) rfl)) (hw _ (List.mem_of_getElem? (i := 12) rfl)) (hw _ (List.mem_of_getElem? (i := 6) rfl)) (by decide) (c1 l Z a0 hw w h0 D (w 2) (0 : Int32) (by simp [dcd])) (by decide) 0 (by decide) (by decide) (by decide) e7 (Ex 2 (by decide)) (g := (mkF m 39 #[.val (.int x0), .val (.int (2 : Int32)), .val (.ref (w 2)), .val (.int (0 : Int32)), .unset] [(.ref (w 2))])) rfl (by rw [hml]; rfl) [] [] (lenOf (by decide +kernel : parseMethodDescriptor "()Z" = some ⟨[], some .boolean⟩) rfl) rfl (by show 2 * 0 + _ ≤ _; exact Nat.le_of_eq rfl) rfl (hb hby at_39))
    refine Go.of st8 ?_
    show Go p e below _ T8 (mkF m 42 #[.val (.int x0), .val (.int (2 : Int32)), .val (.ref (w 2)), .val (.int (0 : Int32)), .unset] [(.int (0 : Int32))])
    refine Go.of (fun _ k => XS.istore X8.here hx rfl (hb hby at_42) rfl (l' := #[.val (.int x0), .val (.int (2 : Int32)), .val (.ref (w 2)), .val (.int (0 : Int32)), .val (.int (0 : Int32))]) rfl k) ?_
    show Go p e below _ T8 (mkF m 44 #[.val (.int x0), .val (.int (2 : Int32)), .val (.ref (w 2)), .val (.int (0 : Int32)), .val (.int (0 : Int32))] [])
    refine Go.of (fun _ k => XS.iload X8.here hx rfl (hb hby at_44) rfl k) ?_
    show Go p e below _ T8 (mkF m 46 #[.val (.int x0), .val (.int (2 : Int32)), .val (.ref (w 2)), .val (.int (0 : Int32)), .val (.int (0 : Int32))] [(.int (0 : Int32))])
    refine Go.of (fun _ k => XS.iloadN X8.here hx rfl (hb hby at_46) rfl k) ?_
    show Go p e below _ T8 (mkF m 47 #[.val (.int x0), .val (.int (2 : Int32)), .val (.ref (w 2)), .val (.int (0 : Int32)), .val (.int (0 : Int32))] [(.int (0 : Int32)), (.int (0 : Int32))])
    refine Go.of (fun _ k => XS.icmpYes X8.here hx rfl (pc0 := 47) (pc' := 52) rfl (hb hby at_47) rfl (XT.ii_eq_t (by decide)) (by decide) (by decide) k) ?_
    show Go p e below _ T8 (mkF m 52 #[.val (.int x0), .val (.int (2 : Int32)), .val (.ref (w 2)), .val (.int (0 : Int32)), .val (.int (0 : Int32))] [])
    refine Go.of (fun _ k => XS.aloadN X8.here hx rfl (hb hby at_52) rfl rfl k) ?_
    show Go p e below _ T8 (mkF m 53 #[.val (.int x0), .val (.int (2 : Int32)), .val (.ref (w 2)), .val (.int (0 : Int32)), .val (.int (0 : Int32))] [(.ref (w 2))])
    obtain ⟨T9, X9, e9, st9⟩ := own_pure rfl rfl (own_callVQ X8 hx hZ (y := (⟨"tallyframe/journal/State", "undone", "()Z"⟩ : MethodName)) hown (hw _ (List.mem_of_getElem? (i := 17) rfl)) (hw _ (List.mem_of_getElem? (i := 18) rfl)) (hw _ (List.mem_of_getElem? (i := 20) rfl)) (hw _ (List.mem_of_getElem? (i := 20) rfl)) (hw _ (List.mem_of_getElem? (i := 19) rfl)) (hw _ (List.mem_of_getElem? (i := 21) rfl)) (hw _ (List.mem_of_getElem? (i := 6) rfl)) (by decide) (c2 l Z a0 hw w h0 D (w 2) (0 : Int32) (by simp [und, (own_inj Fo (i := 2) (j := 4) (by decide) (by decide) (by decide)), (own_inj Fo (i := 2) (j := 5) (by decide) (by decide) (by decide))])) (by decide) 0 (by decide) (by decide) (by decide) e8 (Ex 2 (by decide)) (g := (mkF m 53 #[.val (.int x0), .val (.int (2 : Int32)), .val (.ref (w 2)), .val (.int (0 : Int32)), .val (.int (0 : Int32))] [(.ref (w 2))])) rfl (by rw [hml]; rfl) [] [] (lenOf (by decide +kernel : parseMethodDescriptor "()Z" = some ⟨[], some .boolean⟩) rfl) rfl (by show 2 * 0 + _ ≤ _; exact Nat.le_of_eq rfl) rfl (hb hby at_53))
    refine Go.of st9 ?_
    show Go p e below _ T9 (mkF m 56 #[.val (.int x0), .val (.int (2 : Int32)), .val (.ref (w 2)), .val (.int (0 : Int32)), .val (.int (0 : Int32))] [(.int (0 : Int32))])
    refine Go.of (fun _ k => XS.ifYes X9.here hx rfl (pc0 := 56) (pc' := 66) rfl (hb hby at_56) rfl (XT.i0_eq_t (by decide)) (by decide) (by decide) k) ?_
    show Go p e below _ T9 (mkF m 66 #[.val (.int x0), .val (.int (2 : Int32)), .val (.ref (w 2)), .val (.int (0 : Int32)), .val (.int (0 : Int32))] [])
    refine Go.of (fun _ k => XS.iconst X9.here hx rfl (hb hby at_66) k) ?_
    show Go p e below _ T9 (mkF m 67 #[.val (.int x0), .val (.int (2 : Int32)), .val (.ref (w 2)), .val (.int (0 : Int32)), .val (.int (0 : Int32))] [(.int (1 : Int32))])
    exact own_retZ (z' := (1 : Int32)) X9 hx hlk hret (hb hby at_67) rfl ⟨rfl, N0⟩ (by decide) (by decide)
  ·
    show Go p e below _ s₁ (mkF m 8 #[.val (.int x0), .val (.int (3 : Int32)), .unset, .unset, .unset] [])
    refine Go.of (fun _ k => XS.iloadN X0.here hx rfl (hb hby at_8) rfl k) ?_
    show Go p e below _ s₁ (mkF m 9 #[.val (.int x0), .val (.int (3 : Int32)), .unset, .unset, .unset] [(.int (3 : Int32))])
    obtain ⟨T10, X10, e10, st10⟩ := own_pure rfl rfl (own_callSQ X0 hx hZ (y := (⟨"tallyframe/journal/StateDecidedPinLaw", "pick", "(I)Ltallyframe/journal/State;"⟩ : MethodName)) hown (hw _ (List.mem_of_getElem? (i := 1) rfl)) (hw _ (List.mem_of_getElem? (i := 2) rfl)) (hw _ (List.mem_of_getElem? (i := 3) rfl)) (hw _ (List.mem_of_getElem? (i := 4) rfl)) (by decide) (c3 l Z a0 hw w h0 D (3 : Int32) 3 (by decide)) (by decide) 0 (by decide) (by decide) (by decide) e0 (g := (mkF m 9 #[.val (.int x0), .val (.int (3 : Int32)), .unset, .unset, .unset] [(.int (3 : Int32))])) rfl (by rw [hml]; rfl) [(.int (3 : Int32))] [] (lenOf (by decide +kernel : parseMethodDescriptor "(I)Ltallyframe/journal/State;" = some ⟨[.int], some (.object "tallyframe/journal/State")⟩) rfl) rfl (by show 2 * 0 + _ ≤ _; exact Nat.le_of_eq rfl) rfl (hb hby at_9))
    refine Go.of st10 ?_
    show Go p e below _ T10 (mkF m 12 #[.val (.int x0), .val (.int (3 : Int32)), .unset, .unset, .unset] [(.ref (w 3))])
    refine Go.of (fun _ k => XS.astoreN X10.here hx rfl (hb hby at_12) rfl rfl (l' := #[.val (.int x0), .val (.int (3 : Int32)), .val (.ref (w 3)), .unset, .unset]) rfl k) ?_
    show Go p e below _ T10 (mkF m 13 #[.val (.int x0), .val (.int (3 : Int32)), .val (.ref (w 3)), .unset, .unset] [])
    refine Go.of (fun _ k => XS.iloadN X10.here hx rfl (hb hby at_13) rfl k) ?_
    show Go p e below _ T10 (mkF m 14 #[.val (.int x0), .val (.int (3 : Int32)), .val (.ref (w 3)), .unset, .unset] [(.int (3 : Int32))])
    refine Go.of (fun _ k => XS.ifNo X10.here hx rfl (hb hby at_14) rfl (XT.i0_eq_f (by decide)) k) ?_
    show Go p e below _ T10 (mkF m 17 #[.val (.int x0), .val (.int (3 : Int32)), .val (.ref (w 3)), .unset, .unset] [])
    refine Go.of (fun _ k => XS.iloadN X10.here hx rfl (hb hby at_17) rfl k) ?_
    show Go p e below _ T10 (mkF m 18 #[.val (.int x0), .val (.int (3 : Int32)), .val (.ref (w 3)), .unset, .unset] [(.int (3 : Int32))])
    refine Go.of (fun _ k => XS.iconst X10.here hx rfl (hb hby at_18) k) ?_
    show Go p e below _ T10 (mkF m 19 #[.val (.int x0), .val (.int (3 : Int32)), .val (.ref (w 3)), .unset, .unset] [(.int (1 : Int32)), (.int (3 : Int32))])
    refine Go.of (fun _ k => XS.icmpNo X10.here hx rfl (hb hby at_19) rfl (XT.ii_eq_f (by decide)) k) ?_
    show Go p e below _ T10 (mkF m 22 #[.val (.int x0), .val (.int (3 : Int32)), .val (.ref (w 3)), .unset, .unset] [])
    refine Go.of (fun _ k => XS.iloadN X10.here hx rfl (hb hby at_22) rfl k) ?_
    show Go p e below _ T10 (mkF m 23 #[.val (.int x0), .val (.int (3 : Int32)), .val (.ref (w 3)), .unset, .unset] [(.int (3 : Int32))])
    refine Go.of (fun _ k => XS.iconst X10.here hx rfl (hb hby at_23) k) ?_
    show Go p e below _ T10 (mkF m 24 #[.val (.int x0), .val (.int (3 : Int32)), .val (.ref (w 3)), .unset, .unset] [(.int (4 : Int32)), (.int (3 : Int32))])
    refine Go.of (fun _ k => XS.icmpNo X10.here hx rfl (hb hby at_24) rfl (XT.ii_eq_f (by decide)) k) ?_
    show Go p e below _ T10 (mkF m 27 #[.val (.int x0), .val (.int (3 : Int32)), .val (.ref (w 3)), .unset, .unset] [])
    refine Go.of (fun _ k => XS.iloadN X10.here hx rfl (hb hby at_27) rfl k) ?_
    show Go p e below _ T10 (mkF m 28 #[.val (.int x0), .val (.int (3 : Int32)), .val (.ref (w 3)), .unset, .unset] [(.int (3 : Int32))])
    refine Go.of (fun _ k => XS.iconst X10.here hx rfl (hb hby at_28) k) ?_
    show Go p e below _ T10 (mkF m 29 #[.val (.int x0), .val (.int (3 : Int32)), .val (.ref (w 3)), .unset, .unset] [(.int (5 : Int32)), (.int (3 : Int32))])
    refine Go.of (fun _ k => XS.icmpYes X10.here hx rfl (pc0 := 29) (pc' := 36) rfl (hb hby at_29) rfl (XT.ii_ne_t (by decide)) (by decide) (by decide) k) ?_
    show Go p e below _ T10 (mkF m 36 #[.val (.int x0), .val (.int (3 : Int32)), .val (.ref (w 3)), .unset, .unset] [])
    refine Go.of (fun _ k => XS.iconst X10.here hx rfl (hb hby at_36) k) ?_
    show Go p e below _ T10 (mkF m 37 #[.val (.int x0), .val (.int (3 : Int32)), .val (.ref (w 3)), .unset, .unset] [(.int (0 : Int32))])
    refine Go.of (fun _ k => XS.istoreN X10.here hx rfl (hb hby at_37) rfl (l' := #[.val (.int x0), .val (.int (3 : Int32)), .val (.ref (w 3)), .val (.int (0 : Int32)), .unset]) rfl k) ?_
    show Go p e below _ T10 (mkF m 38 #[.val (.int x0), .val (.int (3 : Int32)), .val (.ref (w 3)), .val (.int (0 : Int32)), .unset] [])
    refine Go.of (fun _ k => XS.aloadN X10.here hx rfl (hb hby at_38) rfl rfl k) ?_
    show Go p e below _ T10 (mkF m 39 #[.val (.int x0), .val (.int (3 : Int32)), .val (.ref (w 3)), .val (.int (0 : Int32)), .unset] [(.ref (w 3))])
    obtain ⟨T11, X11, e11, st11⟩ := own_pure rfl rfl (own_callVQ X10 hx hZ (y := (⟨"tallyframe/journal/State", "decided", "()Z"⟩ : MethodName)) hown (hw _ (List.mem_of_getElem? (i := 8) rfl)) (hw _ (List.mem_of_getElem? (i := 9) rfl)) (hw _ (List.mem_of_getElem? (i := 11) rfl)) (hw _ (List.mem_of_getElem? (i := 11) rfl)) (hw _ (List.mem_of_getElem? (i := 10) rfl)) (hw _ (List.mem_of_getElem? (i := 12) rfl)) (hw _ (List.mem_of_getElem? (i := 6) rfl)) (by decide) (c1 l Z a0 hw w h0 D (w 3) (0 : Int32) (by simp [dcd, (own_inj Fo (i := 3) (j := 2) (by decide) (by decide) (by decide))])) (by decide) 0 (by decide) (by decide) (by decide) e10 (Ex 3 (by decide)) (g := (mkF m 39 #[.val (.int x0), .val (.int (3 : Int32)), .val (.ref (w 3)), .val (.int (0 : Int32)), .unset] [(.ref (w 3))])) rfl (by rw [hml]; rfl) [] [] (lenOf (by decide +kernel : parseMethodDescriptor "()Z" = some ⟨[], some .boolean⟩) rfl) rfl (by show 2 * 0 + _ ≤ _; exact Nat.le_of_eq rfl) rfl (hb hby at_39))
    refine Go.of st11 ?_
    show Go p e below _ T11 (mkF m 42 #[.val (.int x0), .val (.int (3 : Int32)), .val (.ref (w 3)), .val (.int (0 : Int32)), .unset] [(.int (0 : Int32))])
    refine Go.of (fun _ k => XS.istore X11.here hx rfl (hb hby at_42) rfl (l' := #[.val (.int x0), .val (.int (3 : Int32)), .val (.ref (w 3)), .val (.int (0 : Int32)), .val (.int (0 : Int32))]) rfl k) ?_
    show Go p e below _ T11 (mkF m 44 #[.val (.int x0), .val (.int (3 : Int32)), .val (.ref (w 3)), .val (.int (0 : Int32)), .val (.int (0 : Int32))] [])
    refine Go.of (fun _ k => XS.iload X11.here hx rfl (hb hby at_44) rfl k) ?_
    show Go p e below _ T11 (mkF m 46 #[.val (.int x0), .val (.int (3 : Int32)), .val (.ref (w 3)), .val (.int (0 : Int32)), .val (.int (0 : Int32))] [(.int (0 : Int32))])
    refine Go.of (fun _ k => XS.iloadN X11.here hx rfl (hb hby at_46) rfl k) ?_
    show Go p e below _ T11 (mkF m 47 #[.val (.int x0), .val (.int (3 : Int32)), .val (.ref (w 3)), .val (.int (0 : Int32)), .val (.int (0 : Int32))] [(.int (0 : Int32)), (.int (0 : Int32))])
    refine Go.of (fun _ k => XS.icmpYes X11.here hx rfl (pc0 := 47) (pc' := 52) rfl (hb hby at_47) rfl (XT.ii_eq_t (by decide)) (by decide) (by decide) k) ?_
    show Go p e below _ T11 (mkF m 52 #[.val (.int x0), .val (.int (3 : Int32)), .val (.ref (w 3)), .val (.int (0 : Int32)), .val (.int (0 : Int32))] [])
    refine Go.of (fun _ k => XS.aloadN X11.here hx rfl (hb hby at_52) rfl rfl k) ?_
    show Go p e below _ T11 (mkF m 53 #[.val (.int x0), .val (.int (3 : Int32)), .val (.ref (w 3)), .val (.int (0 : Int32)), .val (.int (0 : Int32))] [(.ref (w 3))])
    obtain ⟨T12, X12, e12, st12⟩ := own_pure rfl rfl (own_callVQ X11 hx hZ (y := (⟨"tallyframe/journal/State", "undone", "()Z"⟩ : MethodName)) hown (hw _ (List.mem_of_getElem? (i := 17) rfl)) (hw _ (List.mem_of_getElem? (i := 18) rfl)) (hw _ (List.mem_of_getElem? (i := 20) rfl)) (hw _ (List.mem_of_getElem? (i := 20) rfl)) (hw _ (List.mem_of_getElem? (i := 19) rfl)) (hw _ (List.mem_of_getElem? (i := 21) rfl)) (hw _ (List.mem_of_getElem? (i := 6) rfl)) (by decide) (c2 l Z a0 hw w h0 D (w 3) (0 : Int32) (by simp [und, (own_inj Fo (i := 3) (j := 4) (by decide) (by decide) (by decide)), (own_inj Fo (i := 3) (j := 5) (by decide) (by decide) (by decide))])) (by decide) 0 (by decide) (by decide) (by decide) e11 (Ex 3 (by decide)) (g := (mkF m 53 #[.val (.int x0), .val (.int (3 : Int32)), .val (.ref (w 3)), .val (.int (0 : Int32)), .val (.int (0 : Int32))] [(.ref (w 3))])) rfl (by rw [hml]; rfl) [] [] (lenOf (by decide +kernel : parseMethodDescriptor "()Z" = some ⟨[], some .boolean⟩) rfl) rfl (by show 2 * 0 + _ ≤ _; exact Nat.le_of_eq rfl) rfl (hb hby at_53))
    refine Go.of st12 ?_
    show Go p e below _ T12 (mkF m 56 #[.val (.int x0), .val (.int (3 : Int32)), .val (.ref (w 3)), .val (.int (0 : Int32)), .val (.int (0 : Int32))] [(.int (0 : Int32))])
    refine Go.of (fun _ k => XS.ifYes X12.here hx rfl (pc0 := 56) (pc' := 66) rfl (hb hby at_56) rfl (XT.i0_eq_t (by decide)) (by decide) (by decide) k) ?_
    show Go p e below _ T12 (mkF m 66 #[.val (.int x0), .val (.int (3 : Int32)), .val (.ref (w 3)), .val (.int (0 : Int32)), .val (.int (0 : Int32))] [])
    refine Go.of (fun _ k => XS.iconst X12.here hx rfl (hb hby at_66) k) ?_
    show Go p e below _ T12 (mkF m 67 #[.val (.int x0), .val (.int (3 : Int32)), .val (.ref (w 3)), .val (.int (0 : Int32)), .val (.int (0 : Int32))] [(.int (1 : Int32))])
    exact own_retZ (z' := (1 : Int32)) X12 hx hlk hret (hb hby at_67) rfl ⟨rfl, N0⟩ (by decide) (by decide)
  ·
    show Go p e below _ s₁ (mkF m 8 #[.val (.int x0), .val (.int (4 : Int32)), .unset, .unset, .unset] [])
    refine Go.of (fun _ k => XS.iloadN X0.here hx rfl (hb hby at_8) rfl k) ?_
    show Go p e below _ s₁ (mkF m 9 #[.val (.int x0), .val (.int (4 : Int32)), .unset, .unset, .unset] [(.int (4 : Int32))])
    obtain ⟨T13, X13, e13, st13⟩ := own_pure rfl rfl (own_callSQ X0 hx hZ (y := (⟨"tallyframe/journal/StateDecidedPinLaw", "pick", "(I)Ltallyframe/journal/State;"⟩ : MethodName)) hown (hw _ (List.mem_of_getElem? (i := 1) rfl)) (hw _ (List.mem_of_getElem? (i := 2) rfl)) (hw _ (List.mem_of_getElem? (i := 3) rfl)) (hw _ (List.mem_of_getElem? (i := 4) rfl)) (by decide) (c3 l Z a0 hw w h0 D (4 : Int32) 4 (by decide)) (by decide) 0 (by decide) (by decide) (by decide) e0 (g := (mkF m 9 #[.val (.int x0), .val (.int (4 : Int32)), .unset, .unset, .unset] [(.int (4 : Int32))])) rfl (by rw [hml]; rfl) [(.int (4 : Int32))] [] (lenOf (by decide +kernel : parseMethodDescriptor "(I)Ltallyframe/journal/State;" = some ⟨[.int], some (.object "tallyframe/journal/State")⟩) rfl) rfl (by show 2 * 0 + _ ≤ _; exact Nat.le_of_eq rfl) rfl (hb hby at_9))
    refine Go.of st13 ?_
    show Go p e below _ T13 (mkF m 12 #[.val (.int x0), .val (.int (4 : Int32)), .unset, .unset, .unset] [(.ref (w 4))])
    refine Go.of (fun _ k => XS.astoreN X13.here hx rfl (hb hby at_12) rfl rfl (l' := #[.val (.int x0), .val (.int (4 : Int32)), .val (.ref (w 4)), .unset, .unset]) rfl k) ?_
    show Go p e below _ T13 (mkF m 13 #[.val (.int x0), .val (.int (4 : Int32)), .val (.ref (w 4)), .unset, .unset] [])
    refine Go.of (fun _ k => XS.iloadN X13.here hx rfl (hb hby at_13) rfl k) ?_
    show Go p e below _ T13 (mkF m 14 #[.val (.int x0), .val (.int (4 : Int32)), .val (.ref (w 4)), .unset, .unset] [(.int (4 : Int32))])
    refine Go.of (fun _ k => XS.ifNo X13.here hx rfl (hb hby at_14) rfl (XT.i0_eq_f (by decide)) k) ?_
    show Go p e below _ T13 (mkF m 17 #[.val (.int x0), .val (.int (4 : Int32)), .val (.ref (w 4)), .unset, .unset] [])
    refine Go.of (fun _ k => XS.iloadN X13.here hx rfl (hb hby at_17) rfl k) ?_
    show Go p e below _ T13 (mkF m 18 #[.val (.int x0), .val (.int (4 : Int32)), .val (.ref (w 4)), .unset, .unset] [(.int (4 : Int32))])
    refine Go.of (fun _ k => XS.iconst X13.here hx rfl (hb hby at_18) k) ?_
    show Go p e below _ T13 (mkF m 19 #[.val (.int x0), .val (.int (4 : Int32)), .val (.ref (w 4)), .unset, .unset] [(.int (1 : Int32)), (.int (4 : Int32))])
    refine Go.of (fun _ k => XS.icmpNo X13.here hx rfl (hb hby at_19) rfl (XT.ii_eq_f (by decide)) k) ?_
    show Go p e below _ T13 (mkF m 22 #[.val (.int x0), .val (.int (4 : Int32)), .val (.ref (w 4)), .unset, .unset] [])
    refine Go.of (fun _ k => XS.iloadN X13.here hx rfl (hb hby at_22) rfl k) ?_
    show Go p e below _ T13 (mkF m 23 #[.val (.int x0), .val (.int (4 : Int32)), .val (.ref (w 4)), .unset, .unset] [(.int (4 : Int32))])
    refine Go.of (fun _ k => XS.iconst X13.here hx rfl (hb hby at_23) k) ?_
    show Go p e below _ T13 (mkF m 24 #[.val (.int x0), .val (.int (4 : Int32)), .val (.ref (w 4)), .unset, .unset] [(.int (4 : Int32)), (.int (4 : Int32))])
    refine Go.of (fun _ k => XS.icmpYes X13.here hx rfl (pc0 := 24) (pc' := 32) rfl (hb hby at_24) rfl (XT.ii_eq_t (by decide)) (by decide) (by decide) k) ?_
    show Go p e below _ T13 (mkF m 32 #[.val (.int x0), .val (.int (4 : Int32)), .val (.ref (w 4)), .unset, .unset] [])
    refine Go.of (fun _ k => XS.iconst X13.here hx rfl (hb hby at_32) k) ?_
    show Go p e below _ T13 (mkF m 33 #[.val (.int x0), .val (.int (4 : Int32)), .val (.ref (w 4)), .unset, .unset] [(.int (1 : Int32))])
    refine Go.of (fun _ k => XS.goto X13.here hx rfl (pc0 := 33) (pc' := 37) rfl (hb hby at_33) (by decide) (by decide) k) ?_
    show Go p e below _ T13 (mkF m 37 #[.val (.int x0), .val (.int (4 : Int32)), .val (.ref (w 4)), .unset, .unset] [(.int (1 : Int32))])
    refine Go.of (fun _ k => XS.istoreN X13.here hx rfl (hb hby at_37) rfl (l' := #[.val (.int x0), .val (.int (4 : Int32)), .val (.ref (w 4)), .val (.int (1 : Int32)), .unset]) rfl k) ?_
    show Go p e below _ T13 (mkF m 38 #[.val (.int x0), .val (.int (4 : Int32)), .val (.ref (w 4)), .val (.int (1 : Int32)), .unset] [])
    refine Go.of (fun _ k => XS.aloadN X13.here hx rfl (hb hby at_38) rfl rfl k) ?_
    show Go p e below _ T13 (mkF m 39 #[.val (.int x0), .val (.int (4 : Int32)), .val (.ref (w 4)), .val (.int (1 : Int32)), .unset] [(.ref (w 4))])
    obtain ⟨T14, X14, e14, st14⟩ := own_pure rfl rfl (own_callVQ X13 hx hZ (y := (⟨"tallyframe/journal/State", "decided", "()Z"⟩ : MethodName)) hown (hw _ (List.mem_of_getElem? (i := 8) rfl)) (hw _ (List.mem_of_getElem? (i := 9) rfl)) (hw _ (List.mem_of_getElem? (i := 11) rfl)) (hw _ (List.mem_of_getElem? (i := 11) rfl)) (hw _ (List.mem_of_getElem? (i := 10) rfl)) (hw _ (List.mem_of_getElem? (i := 12) rfl)) (hw _ (List.mem_of_getElem? (i := 6) rfl)) (by decide) (c1 l Z a0 hw w h0 D (w 4) (1 : Int32) (by simp [dcd, (own_inj Fo (i := 4) (j := 2) (by decide) (by decide) (by decide)), (own_inj Fo (i := 4) (j := 3) (by decide) (by decide) (by decide))])) (by decide) 0 (by decide) (by decide) (by decide) e13 (Ex 4 (by decide)) (g := (mkF m 39 #[.val (.int x0), .val (.int (4 : Int32)), .val (.ref (w 4)), .val (.int (1 : Int32)), .unset] [(.ref (w 4))])) rfl (by rw [hml]; rfl) [] [] (lenOf (by decide +kernel : parseMethodDescriptor "()Z" = some ⟨[], some .boolean⟩) rfl) rfl (by show 2 * 0 + _ ≤ _; exact Nat.le_of_eq rfl) rfl (hb hby at_39))
    refine Go.of st14 ?_
    show Go p e below _ T14 (mkF m 42 #[.val (.int x0), .val (.int (4 : Int32)), .val (.ref (w 4)), .val (.int (1 : Int32)), .unset] [(.int (1 : Int32))])
    refine Go.of (fun _ k => XS.istore X14.here hx rfl (hb hby at_42) rfl (l' := #[.val (.int x0), .val (.int (4 : Int32)), .val (.ref (w 4)), .val (.int (1 : Int32)), .val (.int (1 : Int32))]) rfl k) ?_
    show Go p e below _ T14 (mkF m 44 #[.val (.int x0), .val (.int (4 : Int32)), .val (.ref (w 4)), .val (.int (1 : Int32)), .val (.int (1 : Int32))] [])
    refine Go.of (fun _ k => XS.iload X14.here hx rfl (hb hby at_44) rfl k) ?_
    show Go p e below _ T14 (mkF m 46 #[.val (.int x0), .val (.int (4 : Int32)), .val (.ref (w 4)), .val (.int (1 : Int32)), .val (.int (1 : Int32))] [(.int (1 : Int32))])
    refine Go.of (fun _ k => XS.iloadN X14.here hx rfl (hb hby at_46) rfl k) ?_
    show Go p e below _ T14 (mkF m 47 #[.val (.int x0), .val (.int (4 : Int32)), .val (.ref (w 4)), .val (.int (1 : Int32)), .val (.int (1 : Int32))] [(.int (1 : Int32)), (.int (1 : Int32))])
    refine Go.of (fun _ k => XS.icmpYes X14.here hx rfl (pc0 := 47) (pc' := 52) rfl (hb hby at_47) rfl (XT.ii_eq_t (by decide)) (by decide) (by decide) k) ?_
    show Go p e below _ T14 (mkF m 52 #[.val (.int x0), .val (.int (4 : Int32)), .val (.ref (w 4)), .val (.int (1 : Int32)), .val (.int (1 : Int32))] [])
    refine Go.of (fun _ k => XS.aloadN X14.here hx rfl (hb hby at_52) rfl rfl k) ?_
    show Go p e below _ T14 (mkF m 53 #[.val (.int x0), .val (.int (4 : Int32)), .val (.ref (w 4)), .val (.int (1 : Int32)), .val (.int (1 : Int32))] [(.ref (w 4))])
    obtain ⟨T15, X15, e15, st15⟩ := own_pure rfl rfl (own_callVQ X14 hx hZ (y := (⟨"tallyframe/journal/State", "undone", "()Z"⟩ : MethodName)) hown (hw _ (List.mem_of_getElem? (i := 17) rfl)) (hw _ (List.mem_of_getElem? (i := 18) rfl)) (hw _ (List.mem_of_getElem? (i := 20) rfl)) (hw _ (List.mem_of_getElem? (i := 20) rfl)) (hw _ (List.mem_of_getElem? (i := 19) rfl)) (hw _ (List.mem_of_getElem? (i := 21) rfl)) (hw _ (List.mem_of_getElem? (i := 6) rfl)) (by decide) (c2 l Z a0 hw w h0 D (w 4) (1 : Int32) (by simp [und])) (by decide) 0 (by decide) (by decide) (by decide) e14 (Ex 4 (by decide)) (g := (mkF m 53 #[.val (.int x0), .val (.int (4 : Int32)), .val (.ref (w 4)), .val (.int (1 : Int32)), .val (.int (1 : Int32))] [(.ref (w 4))])) rfl (by rw [hml]; rfl) [] [] (lenOf (by decide +kernel : parseMethodDescriptor "()Z" = some ⟨[], some .boolean⟩) rfl) rfl (by show 2 * 0 + _ ≤ _; exact Nat.le_of_eq rfl) rfl (hb hby at_53))
    refine Go.of st15 ?_
    show Go p e below _ T15 (mkF m 56 #[.val (.int x0), .val (.int (4 : Int32)), .val (.ref (w 4)), .val (.int (1 : Int32)), .val (.int (1 : Int32))] [(.int (1 : Int32))])
    refine Go.of (fun _ k => XS.ifNo X15.here hx rfl (hb hby at_56) rfl (XT.i0_eq_f (by decide)) k) ?_
    show Go p e below _ T15 (mkF m 59 #[.val (.int x0), .val (.int (4 : Int32)), .val (.ref (w 4)), .val (.int (1 : Int32)), .val (.int (1 : Int32))] [])
    refine Go.of (fun _ k => XS.iload X15.here hx rfl (hb hby at_59) rfl k) ?_
    show Go p e below _ T15 (mkF m 61 #[.val (.int x0), .val (.int (4 : Int32)), .val (.ref (w 4)), .val (.int (1 : Int32)), .val (.int (1 : Int32))] [(.int (1 : Int32))])
    refine Go.of (fun _ k => XS.ifYes X15.here hx rfl (pc0 := 61) (pc' := 66) rfl (hb hby at_61) rfl (XT.i0_ne_t (by decide)) (by decide) (by decide) k) ?_
    show Go p e below _ T15 (mkF m 66 #[.val (.int x0), .val (.int (4 : Int32)), .val (.ref (w 4)), .val (.int (1 : Int32)), .val (.int (1 : Int32))] [])
    refine Go.of (fun _ k => XS.iconst X15.here hx rfl (hb hby at_66) k) ?_
    show Go p e below _ T15 (mkF m 67 #[.val (.int x0), .val (.int (4 : Int32)), .val (.ref (w 4)), .val (.int (1 : Int32)), .val (.int (1 : Int32))] [(.int (1 : Int32))])
    exact own_retZ (z' := (1 : Int32)) X15 hx hlk hret (hb hby at_67) rfl ⟨rfl, N0⟩ (by decide) (by decide)
  ·
    show Go p e below _ s₁ (mkF m 8 #[.val (.int x0), .val (.int (5 : Int32)), .unset, .unset, .unset] [])
    refine Go.of (fun _ k => XS.iloadN X0.here hx rfl (hb hby at_8) rfl k) ?_
    show Go p e below _ s₁ (mkF m 9 #[.val (.int x0), .val (.int (5 : Int32)), .unset, .unset, .unset] [(.int (5 : Int32))])
    obtain ⟨T16, X16, e16, st16⟩ := own_pure rfl rfl (own_callSQ X0 hx hZ (y := (⟨"tallyframe/journal/StateDecidedPinLaw", "pick", "(I)Ltallyframe/journal/State;"⟩ : MethodName)) hown (hw _ (List.mem_of_getElem? (i := 1) rfl)) (hw _ (List.mem_of_getElem? (i := 2) rfl)) (hw _ (List.mem_of_getElem? (i := 3) rfl)) (hw _ (List.mem_of_getElem? (i := 4) rfl)) (by decide) (c3 l Z a0 hw w h0 D (5 : Int32) 5 (by decide)) (by decide) 0 (by decide) (by decide) (by decide) e0 (g := (mkF m 9 #[.val (.int x0), .val (.int (5 : Int32)), .unset, .unset, .unset] [(.int (5 : Int32))])) rfl (by rw [hml]; rfl) [(.int (5 : Int32))] [] (lenOf (by decide +kernel : parseMethodDescriptor "(I)Ltallyframe/journal/State;" = some ⟨[.int], some (.object "tallyframe/journal/State")⟩) rfl) rfl (by show 2 * 0 + _ ≤ _; exact Nat.le_of_eq rfl) rfl (hb hby at_9))
    refine Go.of st16 ?_
    show Go p e below _ T16 (mkF m 12 #[.val (.int x0), .val (.int (5 : Int32)), .unset, .unset, .unset] [(.ref (w 5))])
    refine Go.of (fun _ k => XS.astoreN X16.here hx rfl (hb hby at_12) rfl rfl (l' := #[.val (.int x0), .val (.int (5 : Int32)), .val (.ref (w 5)), .unset, .unset]) rfl k) ?_
    show Go p e below _ T16 (mkF m 13 #[.val (.int x0), .val (.int (5 : Int32)), .val (.ref (w 5)), .unset, .unset] [])
    refine Go.of (fun _ k => XS.iloadN X16.here hx rfl (hb hby at_13) rfl k) ?_
    show Go p e below _ T16 (mkF m 14 #[.val (.int x0), .val (.int (5 : Int32)), .val (.ref (w 5)), .unset, .unset] [(.int (5 : Int32))])
    refine Go.of (fun _ k => XS.ifNo X16.here hx rfl (hb hby at_14) rfl (XT.i0_eq_f (by decide)) k) ?_
    show Go p e below _ T16 (mkF m 17 #[.val (.int x0), .val (.int (5 : Int32)), .val (.ref (w 5)), .unset, .unset] [])
    refine Go.of (fun _ k => XS.iloadN X16.here hx rfl (hb hby at_17) rfl k) ?_
    show Go p e below _ T16 (mkF m 18 #[.val (.int x0), .val (.int (5 : Int32)), .val (.ref (w 5)), .unset, .unset] [(.int (5 : Int32))])
    refine Go.of (fun _ k => XS.iconst X16.here hx rfl (hb hby at_18) k) ?_
    show Go p e below _ T16 (mkF m 19 #[.val (.int x0), .val (.int (5 : Int32)), .val (.ref (w 5)), .unset, .unset] [(.int (1 : Int32)), (.int (5 : Int32))])
    refine Go.of (fun _ k => XS.icmpNo X16.here hx rfl (hb hby at_19) rfl (XT.ii_eq_f (by decide)) k) ?_
    show Go p e below _ T16 (mkF m 22 #[.val (.int x0), .val (.int (5 : Int32)), .val (.ref (w 5)), .unset, .unset] [])
    refine Go.of (fun _ k => XS.iloadN X16.here hx rfl (hb hby at_22) rfl k) ?_
    show Go p e below _ T16 (mkF m 23 #[.val (.int x0), .val (.int (5 : Int32)), .val (.ref (w 5)), .unset, .unset] [(.int (5 : Int32))])
    refine Go.of (fun _ k => XS.iconst X16.here hx rfl (hb hby at_23) k) ?_
    show Go p e below _ T16 (mkF m 24 #[.val (.int x0), .val (.int (5 : Int32)), .val (.ref (w 5)), .unset, .unset] [(.int (4 : Int32)), (.int (5 : Int32))])
    refine Go.of (fun _ k => XS.icmpNo X16.here hx rfl (hb hby at_24) rfl (XT.ii_eq_f (by decide)) k) ?_
    show Go p e below _ T16 (mkF m 27 #[.val (.int x0), .val (.int (5 : Int32)), .val (.ref (w 5)), .unset, .unset] [])
    refine Go.of (fun _ k => XS.iloadN X16.here hx rfl (hb hby at_27) rfl k) ?_
    show Go p e below _ T16 (mkF m 28 #[.val (.int x0), .val (.int (5 : Int32)), .val (.ref (w 5)), .unset, .unset] [(.int (5 : Int32))])
    refine Go.of (fun _ k => XS.iconst X16.here hx rfl (hb hby at_28) k) ?_
    show Go p e below _ T16 (mkF m 29 #[.val (.int x0), .val (.int (5 : Int32)), .val (.ref (w 5)), .unset, .unset] [(.int (5 : Int32)), (.int (5 : Int32))])
    refine Go.of (fun _ k => XS.icmpNo X16.here hx rfl (hb hby at_29) rfl (XT.ii_ne_f (by decide)) k) ?_
    show Go p e below _ T16 (mkF m 32 #[.val (.int x0), .val (.int (5 : Int32)), .val (.ref (w 5)), .unset, .unset] [])
    refine Go.of (fun _ k => XS.iconst X16.here hx rfl (hb hby at_32) k) ?_
    show Go p e below _ T16 (mkF m 33 #[.val (.int x0), .val (.int (5 : Int32)), .val (.ref (w 5)), .unset, .unset] [(.int (1 : Int32))])
    refine Go.of (fun _ k => XS.goto X16.here hx rfl (pc0 := 33) (pc' := 37) rfl (hb hby at_33) (by decide) (by decide) k) ?_
    show Go p e below _ T16 (mkF m 37 #[.val (.int x0), .val (.int (5 : Int32)), .val (.ref (w 5)), .unset, .unset] [(.int (1 : Int32))])
    refine Go.of (fun _ k => XS.istoreN X16.here hx rfl (hb hby at_37) rfl (l' := #[.val (.int x0), .val (.int (5 : Int32)), .val (.ref (w 5)), .val (.int (1 : Int32)), .unset]) rfl k) ?_
    show Go p e below _ T16 (mkF m 38 #[.val (.int x0), .val (.int (5 : Int32)), .val (.ref (w 5)), .val (.int (1 : Int32)), .unset] [])
    refine Go.of (fun _ k => XS.aloadN X16.here hx rfl (hb hby at_38) rfl rfl k) ?_
    show Go p e below _ T16 (mkF m 39 #[.val (.int x0), .val (.int (5 : Int32)), .val (.ref (w 5)), .val (.int (1 : Int32)), .unset] [(.ref (w 5))])
    obtain ⟨T17, X17, e17, st17⟩ := own_pure rfl rfl (own_callVQ X16 hx hZ (y := (⟨"tallyframe/journal/State", "decided", "()Z"⟩ : MethodName)) hown (hw _ (List.mem_of_getElem? (i := 8) rfl)) (hw _ (List.mem_of_getElem? (i := 9) rfl)) (hw _ (List.mem_of_getElem? (i := 11) rfl)) (hw _ (List.mem_of_getElem? (i := 11) rfl)) (hw _ (List.mem_of_getElem? (i := 10) rfl)) (hw _ (List.mem_of_getElem? (i := 12) rfl)) (hw _ (List.mem_of_getElem? (i := 6) rfl)) (by decide) (c1 l Z a0 hw w h0 D (w 5) (1 : Int32) (by simp [dcd, (own_inj Fo (i := 5) (j := 2) (by decide) (by decide) (by decide)), (own_inj Fo (i := 5) (j := 3) (by decide) (by decide) (by decide))])) (by decide) 0 (by decide) (by decide) (by decide) e16 (Ex 5 (by decide)) (g := (mkF m 39 #[.val (.int x0), .val (.int (5 : Int32)), .val (.ref (w 5)), .val (.int (1 : Int32)), .unset] [(.ref (w 5))])) rfl (by rw [hml]; rfl) [] [] (lenOf (by decide +kernel : parseMethodDescriptor "()Z" = some ⟨[], some .boolean⟩) rfl) rfl (by show 2 * 0 + _ ≤ _; exact Nat.le_of_eq rfl) rfl (hb hby at_39))
    refine Go.of st17 ?_
    show Go p e below _ T17 (mkF m 42 #[.val (.int x0), .val (.int (5 : Int32)), .val (.ref (w 5)), .val (.int (1 : Int32)), .unset] [(.int (1 : Int32))])
    refine Go.of (fun _ k => XS.istore X17.here hx rfl (hb hby at_42) rfl (l' := #[.val (.int x0), .val (.int (5 : Int32)), .val (.ref (w 5)), .val (.int (1 : Int32)), .val (.int (1 : Int32))]) rfl k) ?_
    show Go p e below _ T17 (mkF m 44 #[.val (.int x0), .val (.int (5 : Int32)), .val (.ref (w 5)), .val (.int (1 : Int32)), .val (.int (1 : Int32))] [])
    refine Go.of (fun _ k => XS.iload X17.here hx rfl (hb hby at_44) rfl k) ?_
    show Go p e below _ T17 (mkF m 46 #[.val (.int x0), .val (.int (5 : Int32)), .val (.ref (w 5)), .val (.int (1 : Int32)), .val (.int (1 : Int32))] [(.int (1 : Int32))])
    refine Go.of (fun _ k => XS.iloadN X17.here hx rfl (hb hby at_46) rfl k) ?_
    show Go p e below _ T17 (mkF m 47 #[.val (.int x0), .val (.int (5 : Int32)), .val (.ref (w 5)), .val (.int (1 : Int32)), .val (.int (1 : Int32))] [(.int (1 : Int32)), (.int (1 : Int32))])
    refine Go.of (fun _ k => XS.icmpYes X17.here hx rfl (pc0 := 47) (pc' := 52) rfl (hb hby at_47) rfl (XT.ii_eq_t (by decide)) (by decide) (by decide) k) ?_
    show Go p e below _ T17 (mkF m 52 #[.val (.int x0), .val (.int (5 : Int32)), .val (.ref (w 5)), .val (.int (1 : Int32)), .val (.int (1 : Int32))] [])
    refine Go.of (fun _ k => XS.aloadN X17.here hx rfl (hb hby at_52) rfl rfl k) ?_
    show Go p e below _ T17 (mkF m 53 #[.val (.int x0), .val (.int (5 : Int32)), .val (.ref (w 5)), .val (.int (1 : Int32)), .val (.int (1 : Int32))] [(.ref (w 5))])
    obtain ⟨T18, X18, e18, st18⟩ := own_pure rfl rfl (own_callVQ X17 hx hZ (y := (⟨"tallyframe/journal/State", "undone", "()Z"⟩ : MethodName)) hown (hw _ (List.mem_of_getElem? (i := 17) rfl)) (hw _ (List.mem_of_getElem? (i := 18) rfl)) (hw _ (List.mem_of_getElem? (i := 20) rfl)) (hw _ (List.mem_of_getElem? (i := 20) rfl)) (hw _ (List.mem_of_getElem? (i := 19) rfl)) (hw _ (List.mem_of_getElem? (i := 21) rfl)) (hw _ (List.mem_of_getElem? (i := 6) rfl)) (by decide) (c2 l Z a0 hw w h0 D (w 5) (1 : Int32) (by simp [und, (own_inj Fo (i := 5) (j := 4) (by decide) (by decide) (by decide))])) (by decide) 0 (by decide) (by decide) (by decide) e17 (Ex 5 (by decide)) (g := (mkF m 53 #[.val (.int x0), .val (.int (5 : Int32)), .val (.ref (w 5)), .val (.int (1 : Int32)), .val (.int (1 : Int32))] [(.ref (w 5))])) rfl (by rw [hml]; rfl) [] [] (lenOf (by decide +kernel : parseMethodDescriptor "()Z" = some ⟨[], some .boolean⟩) rfl) rfl (by show 2 * 0 + _ ≤ _; exact Nat.le_of_eq rfl) rfl (hb hby at_53))
    refine Go.of st18 ?_
    show Go p e below _ T18 (mkF m 56 #[.val (.int x0), .val (.int (5 : Int32)), .val (.ref (w 5)), .val (.int (1 : Int32)), .val (.int (1 : Int32))] [(.int (1 : Int32))])
    refine Go.of (fun _ k => XS.ifNo X18.here hx rfl (hb hby at_56) rfl (XT.i0_eq_f (by decide)) k) ?_
    show Go p e below _ T18 (mkF m 59 #[.val (.int x0), .val (.int (5 : Int32)), .val (.ref (w 5)), .val (.int (1 : Int32)), .val (.int (1 : Int32))] [])
    refine Go.of (fun _ k => XS.iload X18.here hx rfl (hb hby at_59) rfl k) ?_
    show Go p e below _ T18 (mkF m 61 #[.val (.int x0), .val (.int (5 : Int32)), .val (.ref (w 5)), .val (.int (1 : Int32)), .val (.int (1 : Int32))] [(.int (1 : Int32))])
    refine Go.of (fun _ k => XS.ifYes X18.here hx rfl (pc0 := 61) (pc' := 66) rfl (hb hby at_61) rfl (XT.i0_ne_t (by decide)) (by decide) (by decide) k) ?_
    show Go p e below _ T18 (mkF m 66 #[.val (.int x0), .val (.int (5 : Int32)), .val (.ref (w 5)), .val (.int (1 : Int32)), .val (.int (1 : Int32))] [])
    refine Go.of (fun _ k => XS.iconst X18.here hx rfl (hb hby at_66) k) ?_
    show Go p e below _ T18 (mkF m 67 #[.val (.int x0), .val (.int (5 : Int32)), .val (.ref (w 5)), .val (.int (1 : Int32)), .val (.int (1 : Int32))] [(.int (1 : Int32))])
    exact own_retZ (z' := (1 : Int32)) X18 hx hlk hret (hb hby at_67) rfl ⟨rfl, N0⟩ (by decide) (by decide)
set_option maxRecDepth 65536 in
set_option maxHeartbeats 40000000 in
theorem comes_1 {Post : Tables → Env → Array Value → State → Outcome → State → Prop} (hpost : ∀ tb e args s v u, (limb_1_1.after args s (.returned v) u = true ∧ limb_1_2.after args s (.returned v) u = true ∧ True) → FrameEnd s (.returned v) u (Jvm.fieldLocs frame_1_writes args s ++ Jvm.arrayLocs frame_1_arrays args s ++ Jvm.staticLocs frame_1_statics s) 0 0 → Post tb e args s (.returned v) u) :
    ArmFor flags0 classFile x code maxLocals ret World_1 tables_1 room_1 Calls_1 rest_1 Pre_1 Post := by
  intro l hfl _ _ p e ha hc hk s m args below hf hA hF happ hP
  obtain ⟨hcalls, hrest, hpre⟩ := hP
  obtain ⟨-, -, -, hnamed, -, -, -, hat⟩ := (Spec.applies_iff hf).mp happ
  obtain ⟨hg, hn⟩ := and_e (Cond.before_iff.mp (show (Jvm.Cond.and given_1 narrow_1).before args s = true from hpre))
  obtain ⟨g0, g1⟩ := and_e hg
  obtain ⟨x0, rfl⟩ : ∃ x0 : Value, args = #[x0] := by
    have hs : args.size = 1 := by simpa [Cond.value, given_1] using g0
    obtain ⟨L⟩ := args
    match L, hs with
    | [x0], _ => exact ⟨x0, rfl⟩
  have hw := fun d (hd : d ∈ tables_1) => atoms_spec (ws := Jvm.Cond.code x code maxLocals ret :: tables_1) hat d (List.mem_cons_of_mem _ hd)
  obtain ⟨i0, z0⟩ := is_v g1
  obtain rfl : x0 = (.int i0) := Option.some.inj z0
  obtain ⟨q0, r0⟩ := and_e hn
  obtain ⟨q1, r1⟩ := and_e r0
  obtain ⟨q2, r2⟩ := and_e r1
  obtain ⟨q3, r3⟩ := and_e r2
  obtain ⟨q4, r4⟩ := and_e r3
  obtain ⟨q5, r5⟩ := and_e r4
  obtain ⟨q6, r6⟩ := and_e r5
  obtain ⟨q7, r7⟩ := and_e r6
  obtain ⟨q8, r8⟩ := and_e r7
  obtain ⟨q9, r9⟩ := and_e r8
  obtain ⟨q10, r10⟩ := and_e r9
  have q11 := r10
  obtain ⟨w0, v0⟩ := exa_v q0
  have E0 := Exa.start v0 q0
  have S0 := Sta.start v0 (Or.inr ⟨(hw _ (List.mem_of_getElem? (i := 6) rfl)), (hw _ (List.mem_of_getElem? (i := 7) rfl))⟩)
  have F0 := own_fld v0 q2
  obtain ⟨w1, v1⟩ := exa_v q10
  have E1 := Exa.start v1 q10
  have S1 := Sta.start v1 (Or.inr ⟨(hw _ (List.mem_of_getElem? (i := 6) rfl)), (hw _ (List.mem_of_getElem? (i := 29) rfl))⟩)
  have F1 := own_fld v1 q11
  obtain ⟨w2, v2⟩ := exa_v q1
  have E2 := Exa.start v2 q1
  have S2 := Sta.start v2 (Or.inr ⟨(hw _ (List.mem_of_getElem? (i := 6) rfl)), (hw _ (List.mem_of_getElem? (i := 14) rfl))⟩)
  have F2 := own_fld v2 q3
  obtain ⟨w3, v3⟩ := exa_v q4
  have E3 := Exa.start v3 q4
  have S3 := Sta.start v3 (Or.inr ⟨(hw _ (List.mem_of_getElem? (i := 6) rfl)), (hw _ (List.mem_of_getElem? (i := 16) rfl))⟩)
  have F3 := own_fld v3 q5
  obtain ⟨w4, v4⟩ := exa_v q6
  have E4 := Exa.start v4 q6
  have S4 := Sta.start v4 (Or.inr ⟨(hw _ (List.mem_of_getElem? (i := 6) rfl)), (hw _ (List.mem_of_getElem? (i := 23) rfl))⟩)
  have F4 := own_fld v4 q7
  obtain ⟨w5, v5⟩ := exa_v q8
  have E5 := Exa.start v5 q8
  have S5 := Sta.start v5 (Or.inr ⟨(hw _ (List.mem_of_getElem? (i := 6) rfl)), (hw _ (List.mem_of_getElem? (i := 25) rfl))⟩)
  have F5 := own_fld v5 q9
  have D : Wd s s.heap (fun | 0 => w0 | 1 => w1 | 2 => w2 | 3 => w3 | 4 => w4 | _ => w5) := ⟨S0, S1, S2, S3, S4, S5, (fun i hi => match i, hi with | 0, _ => E0 | 1, _ => E1 | 2, _ => E2 | 3, _ => E3 | 4, _ => E4 | 5, _ => E5 | (k + 6), h => absurd h (by omega)), (fun i hi => match i, hi with | 0, _ => F0 | 1, _ => F1 | 2, _ => F2 | 3, _ => F3 | 4, _ => F4 | 5, _ => F5 | (k + 6), h => absurd h (by omega))⟩
  obtain ⟨n, o, h1, h2, h3, _, L, rfl, ⟨rfl, N⟩, hq⟩ := rm0 l s _ hw tables_1 (fun | 0 => w0 | 1 => w1 | 2 => w2 | 3 => w3 | 4 => w4 | _ => w5) s.heap s.heap.size D i0 p e ha hc hk s m _ below hf ((Spec.applies_iff_loose hf).mp happ).1 ⟨rfl, State.Warmed39.refl s, rfl⟩ trivial
  refine ⟨n, _, h1, h2, h3, hpost _ _ _ _ _ _ ⟨Cond.after_iff.mpr rfl, Cond.after_iff.mpr (eq_i res_at (Term.int_eval (1)) rfl), trivial⟩ ⟨hq.1, hq.2.1, (hq.2.2.sift fun y hy => Or.inr (N y hy)).mono (by decide) (by decide)⟩⟩
theorem main_1_1 : Claimed_1_1 := comes_1 fun _ _ _ _ _ _ h hF => ⟨h.1, hF⟩
theorem main_1_2 : Claimed_1_2 := comes_1 fun _ _ _ _ _ _ h hF => ⟨h.2.1, hF⟩
end Jvm.Pilot.@@N@@
namespace Jvm.Pilot.@@N@@
open Jvm Jvm.ClassFile Sem Op Lib Jvm.Free Jvm.Stand Jvm.Pilot.@@N@@.Jvm.D
/-! MADE BY PROGRAM (witnessworld.py) out of the Statement's table words and the real class files: 10 classes; the members and pool entries that the words name. The judged class is class 1, her method 1. -/
namespace start1
open Jvm.ClassFile
def u (s : String) : CpInfo := .utf8 (stringToUtf16 s)
/-- a pool by its gaps: so many unusable entries, then the entry; so many at the end -/
def gap : Nat → List CpInfo → List CpInfo
  | 0, r => r
  | n + 1, r => .unusable :: gap n r
def poolList (es : List (Nat × CpInfo)) (last : Nat) : List CpInfo := es.foldr (fun e r => gap e.1 (e.2 :: r)) (gap last [])
def pool (es : List (Nat × CpInfo)) (last : Nat) : Array CpInfo := ⟨poolList es last⟩
def fileOf (pool : Array CpInfo) (this : Nat) (attrs : Array Attribute := #[]) (ms : Array MethodInfo := #[]) (fl : Nat := 33) (sup : Nat := 0) (ifs : Array Nat := #[]) (fds : Array FieldInfo := #[]) : ClassFile where
  minorVersion := 0
  majorVersion := 65
  constantPool := pool
  accessFlags := fl
  thisClass := this
  superClass := sup
  interfaces := ifs
  fields := fds
  methods := ms
  attributes := attrs
def plain (name : String) (sup : Option ClassId) : Class where
  name := name
  kind := .ordinary
  loader := none
  accessFlags := 33
  super := sup
  interfaces := #[]
  cf := none
  fields := #[]
  methods := #[]
  instanceTypes := #[]
  staticTypes := #[]
  resolved := #[]
  callSites := []
  init := .initialized
  statics := none
  mirror := none

def pool0 : Array CpInfo := pool [(5, u "<init>"), (0, u "()V"), (1, .class_ 10), (1, u "java/lang/Object")] 113

def k0m0 : Method := { name := "<init>", desc := "()V", sig := { parameters := [], returnType := none }, accessFlags := 1, code := none }
/-- java/lang/Object -/
def k0 : Class := { plain "java/lang/Object" none with
  accessFlags := 33
  interfaces := #[]
  cf := some (fileOf pool0 8 #[] #[{ accessFlags := 1, nameIndex := 5, descriptorIndex := 6, attributes := #[] }] 33 0 #[] #[])
  fields := #[]
  methods := #[k0m0]
  instanceTypes := #[]
  staticTypes := #[]
  resolved := Array.replicate 124 none
  statics := none }

def pool1 : Array CpInfo := pool [(2, .class_ 4), (1, u "java/lang/Object"), (0, u "<init>"), (0, u "()V"), (0, .integer 2147483647), (0, .methodref 9 10), (0, .class_ 11), (0, .nameAndType 12 13), (0, u "tallyframe/journal/StateDecidedPinLaw"), (0, u "pick"), (0, u "(I)Ltallyframe/journal/State;"), (0, .methodref 15 16), (0, .class_ 17), (0, .nameAndType 18 19), (0, u "tallyframe/journal/State"), (0, u "decided"), (0, u "()Z"), (0, .methodref 15 21), (0, .nameAndType 22 19), (0, u "undone"), (0, .fieldref 15 24), (0, .nameAndType 25 26), (0, u "APPROVED"), (0, u "Ltallyframe/journal/State;"), (0, .fieldref 15 28), (0, .nameAndType 29 26), (0, u "DECLINED"), (0, .fieldref 15 31), (0, .nameAndType 32 26), (0, u "REFUSED"), (0, .fieldref 15 34), (0, .nameAndType 35 26), (0, u "UNKNOWN"), (0, .fieldref 15 37), (0, .nameAndType 38 26), (0, u "REVERSED"), (0, .fieldref 15 40), (0, .nameAndType 41 26), (0, u "VOIDED"), (2, u "law"), (0, u "(I)Z")] 3

def k1m0 : Method := { name := "<init>", desc := "()V", sig := { parameters := [], returnType := none }, accessFlags := 1, code := none }
def k1c1 : Code := { maxStack := 2, maxLocals := 5, code := code, exceptionTable := #[], attributes := #[] }
def k1m1 : Method := { name := "law", desc := "(I)Z", sig := { parameters := [.int], returnType := some .boolean }, accessFlags := 9, code := some k1c1 }
def k1c2 : Code := { maxStack := 2, maxLocals := 1, code := method_3_code, exceptionTable := #[], attributes := #[] }
def k1m2 : Method := { name := "pick", desc := "(I)Ltallyframe/journal/State;", sig := { parameters := [.int], returnType := some (.object "tallyframe/journal/State") }, accessFlags := 10, code := some k1c2 }
/-- tallyframe/journal/StateDecidedPinLaw -/
def k1 : Class := { plain "tallyframe/journal/StateDecidedPinLaw" (some 0) with
  accessFlags := 49
  interfaces := #[]
  cf := some (fileOf pool1 9 #[] #[{ accessFlags := 1, nameIndex := 5, descriptorIndex := 6, attributes := #[] }, { accessFlags := 9, nameIndex := 44, descriptorIndex := 45, attributes := #[] }, { accessFlags := 10, nameIndex := 12, descriptorIndex := 13, attributes := #[] }] 49 2 #[] #[])
  fields := #[]
  methods := #[k1m0, k1m1, k1m2]
  instanceTypes := #[]
  staticTypes := #[]
  resolved := Array.replicate 49 none
  statics := none }

def pool2 : Array CpInfo := pool [(1, .class_ 2), (0, u "java/lang/constant/Constable"), (0, .class_ 4), (0, u "java/lang/Object")] 6

/-- java/lang/constant/Constable -/
def k2 : Class := { plain "java/lang/constant/Constable" (some 0) with
  accessFlags := 1537
  interfaces := #[]
  cf := some (fileOf pool2 1 #[] #[] 1537 3 #[] #[])
  fields := #[]
  methods := #[]
  instanceTypes := #[]
  staticTypes := #[]
  resolved := Array.replicate 11 none
  statics := none }

def pool3 : Array CpInfo := pool [(1, .class_ 2), (0, u "java/lang/Comparable"), (0, .class_ 4), (0, u "java/lang/Object")] 7

/-- java/lang/Comparable -/
def k3 : Class := { plain "java/lang/Comparable" (some 0) with
  accessFlags := 1537
  interfaces := #[]
  cf := some (fileOf pool3 1 #[] #[] 1537 3 #[] #[])
  fields := #[]
  methods := #[]
  instanceTypes := #[]
  staticTypes := #[]
  resolved := Array.replicate 12 none
  statics := none }

def pool4 : Array CpInfo := pool [(1, .class_ 2), (0, u "java/io/Serializable"), (0, .class_ 4), (0, u "java/lang/Object")] 2

/-- java/io/Serializable -/
def k4 : Class := { plain "java/io/Serializable" (some 0) with
  accessFlags := 1537
  interfaces := #[]
  cf := some (fileOf pool4 1 #[] #[] 1537 3 #[] #[])
  fields := #[]
  methods := #[]
  instanceTypes := #[]
  staticTypes := #[]
  resolved := Array.replicate 7 none
  statics := none }

def pool5 : Array CpInfo := pool [(2, .class_ 4), (1, u "java/lang/Enum"), (0, u "name"), (0, u "Ljava/lang/String;"), (2, u "ordinal"), (0, u "I"), (1, .class_ 14), (1, u "java/lang/Object"), (4, u "hash"), (86, .class_ 108), (1, u "java/lang/Enum$EnumDesc"), (2, .class_ 112), (0, u "java/lang/constant/Constable"), (0, .class_ 114), (0, u "java/lang/Comparable"), (0, .class_ 116), (0, u "java/io/Serializable")] 87

/-- java/lang/Enum -/
def k5 : Class := { plain "java/lang/Enum" (some 0) with
  accessFlags := 1057
  interfaces := #[2, 3, 4]
  cf := some (fileOf pool5 2 #[.nestMembers #[106]] #[] 1057 12 #[111, 113, 115] #[{ accessFlags := 18, nameIndex := 5, descriptorIndex := 6, attributes := #[] }, { accessFlags := 18, nameIndex := 9, descriptorIndex := 10, attributes := #[] }, { accessFlags := 2, nameIndex := 19, descriptorIndex := 10, attributes := #[] }])
  fields := #[{ name := "name", type := (.object "java/lang/String"), accessFlags := 18, slot := 0, constantValue := 0 }, { name := "ordinal", type := .int, accessFlags := 18, slot := 1, constantValue := 0 }, { name := "hash", type := .int, accessFlags := 2, slot := 2, constantValue := 0 }]
  methods := #[]
  instanceTypes := #[(.object "java/lang/String"), .int, .int]
  staticTypes := #[]
  resolved := Array.replicate 204 none
  statics := none }

def pool6 : Array CpInfo := pool [(1, .class_ 2), (0, u "tallyframe/journal/State"), (2, u "APPROVED"), (0, u "Ltallyframe/journal/State;"), (2, u "DECLINED"), (0, .fieldref 1 11), (0, .nameAndType 12 6), (0, u "REFUSED"), (0, .fieldref 1 14), (0, .nameAndType 15 6), (0, u "UNKNOWN"), (0, .fieldref 1 17), (0, .nameAndType 18 6), (0, u "REVERSED"), (0, .fieldref 1 20), (0, .nameAndType 21 6), (0, u "VOIDED"), (2, u "$VALUES"), (0, u "[Ltallyframe/journal/State;"), (6, .class_ 34), (1, u "java/lang/Enum"), (8, u "outcome"), (0, u "Z"), (18, u "word"), (0, u "Ljava/lang/String;"), (20, u "()Z"), (0, u "decided"), (1, u "undone")] 5

def k6c0 : Code := { maxStack := 2, maxLocals := 1, code := prog_176_method_5_code, exceptionTable := #[], attributes := #[] }
def k6m0 : Method := { name := "decided", desc := "()Z", sig := { parameters := [], returnType := some .boolean }, accessFlags := 0, code := some k6c0 }
def k6c1 : Code := { maxStack := 2, maxLocals := 1, code := prog_176_method_6_code, exceptionTable := #[], attributes := #[] }
def k6m1 : Method := { name := "undone", desc := "()Z", sig := { parameters := [], returnType := some .boolean }, accessFlags := 1, code := some k6c1 }
/-- tallyframe/journal/State -/
def k6 : Class := { plain "tallyframe/journal/State" (some 5) with
  accessFlags := 16433
  interfaces := #[]
  cf := some (fileOf pool6 1 #[] #[{ accessFlags := 0, nameIndex := 86, descriptorIndex := 85, attributes := #[] }, { accessFlags := 1, nameIndex := 88, descriptorIndex := 85, attributes := #[] }] 16433 32 #[] #[{ accessFlags := 16409, nameIndex := 5, descriptorIndex := 6, attributes := #[] }, { accessFlags := 16409, nameIndex := 9, descriptorIndex := 6, attributes := #[] }, { accessFlags := 16409, nameIndex := 12, descriptorIndex := 6, attributes := #[] }, { accessFlags := 16409, nameIndex := 15, descriptorIndex := 6, attributes := #[] }, { accessFlags := 16409, nameIndex := 18, descriptorIndex := 6, attributes := #[] }, { accessFlags := 16409, nameIndex := 21, descriptorIndex := 6, attributes := #[] }, { accessFlags := 18, nameIndex := 43, descriptorIndex := 44, attributes := #[] }, { accessFlags := 18, nameIndex := 63, descriptorIndex := 64, attributes := #[] }, { accessFlags := 4122, nameIndex := 24, descriptorIndex := 25, attributes := #[] }])
  fields := #[{ name := "APPROVED", type := (.object "tallyframe/journal/State"), accessFlags := 16409, slot := 0, constantValue := 0 }, { name := "DECLINED", type := (.object "tallyframe/journal/State"), accessFlags := 16409, slot := 1, constantValue := 0 }, { name := "REFUSED", type := (.object "tallyframe/journal/State"), accessFlags := 16409, slot := 2, constantValue := 0 }, { name := "UNKNOWN", type := (.object "tallyframe/journal/State"), accessFlags := 16409, slot := 3, constantValue := 0 }, { name := "REVERSED", type := (.object "tallyframe/journal/State"), accessFlags := 16409, slot := 4, constantValue := 0 }, { name := "VOIDED", type := (.object "tallyframe/journal/State"), accessFlags := 16409, slot := 5, constantValue := 0 }, { name := "outcome", type := .boolean, accessFlags := 18, slot := 3, constantValue := 0 }, { name := "word", type := (.object "java/lang/String"), accessFlags := 18, slot := 4, constantValue := 0 }, { name := "$VALUES", type := (.array (.object "tallyframe/journal/State")), accessFlags := 4122, slot := 6, constantValue := 0 }]
  methods := #[k6m0, k6m1]
  instanceTypes := #[(.object "java/lang/String"), .int, .int, .boolean, (.object "java/lang/String")]
  staticTypes := #[(.object "tallyframe/journal/State"), (.object "tallyframe/journal/State"), (.object "tallyframe/journal/State"), (.object "tallyframe/journal/State"), (.object "tallyframe/journal/State"), (.object "tallyframe/journal/State"), (.array (.object "tallyframe/journal/State"))]
  resolved := Array.replicate 94 none
  statics := some 0 }

def pool7 : Array CpInfo := pool [(1, u "java/lang/Cloneable"), (0, .class_ 1), (0, u "java/lang/Object"), (0, .class_ 3)] 3

/-- java/lang/Cloneable -/
def k7 : Class := { plain "java/lang/Cloneable" (some 0) with
  accessFlags := 1537
  interfaces := #[]
  cf := some (fileOf pool7 2 #[] #[] 1537 4 #[] #[])
  fields := #[]
  methods := #[]
  instanceTypes := #[]
  staticTypes := #[]
  resolved := Array.replicate 8 none
  statics := none }

/-- the primitive byte -/
def k8 : Class := { plain "byte" none with kind := .primitive 'B', accessFlags := 0x411 }
/-- [B -/
def k9 : Class := { plain "[B" (some 0) with kind := .array 8 .byte, interfaces := #[7, 4], accessFlags := 1041 }

def heap : Heap := #[{ cls := 6, slots := #[.ref 1, .ref 2, .ref 3, .ref 4, .ref 5, .ref 6, .null], vm := .statics 6 },
  { cls := 6, slots := #[.null, .int 0, .int 0, .int 0, .null], vm := .none },
  { cls := 6, slots := #[.null, .int 1, .int 0, .int 0, .null], vm := .none },
  { cls := 6, slots := #[.null, .int 2, .int 0, .int 0, .null], vm := .none },
  { cls := 6, slots := #[.null, .int 3, .int 0, .int 0, .null], vm := .none },
  { cls := 6, slots := #[.null, .int 4, .int 0, .int 0, .null], vm := .none },
  { cls := 6, slots := #[.null, .int 5, .int 0, .int 0, .null], vm := .none }]
def classes : Array Class := #[k0, k1, k2, k3, k4, k5, k6, k7, k8, k9]
def interned : List (Array UInt16 × Addr) := []
def slotsUsed : Nat := 37
def theMethod : MethodId := ⟨1, 1⟩
def args0 : Array Value := #[.int 5]
def aboutOver (below : List Frame) : State where
  vm := { classes := classes, interned := interned.toArray }
  heap := heap
  slotsUsed := slotsUsed
  threads := #[{ frames := .invoking theMethod args0 :: below }]
def below0 : List Frame := [.native { method := ⟨0, 0⟩, args := #[] }]
def about1 : State := aboutOver below0
def p0 : Program := .bare "" "" ""
def e0 : Env := launch0.env 0 0 0
theorem w_frames : about1.frames = Frame.invoking theMethod args0 :: below0 := rfl
set_option maxRecDepth 65536 in
theorem w_args : argsFit about1.vm theMethod args0 = true := by decide +kernel
set_option maxRecDepth 65536 in
theorem w_heap : heapFits about1 = true := by decide +kernel
set_option maxRecDepth 65536 in
theorem w_runnable : about1.curStatus? = some .runnable := by decide +kernel
set_option maxRecDepth 65536 in
theorem w_alone : about1.alone = true := by decide +kernel
set_option maxRecDepth 65536 in
theorem w_named : about1.methodNamed? x = some theMethod := by decide +kernel
set_option maxRecDepth 65536 in
theorem w_hears : about1.hears theMethod below0 = true := by decide +kernel
set_option maxRecDepth 65536 in
theorem w_ripe : about1.ripe theMethod args0 below0 = true := by decide +kernel
theorem w_running : about1.status = .running := rfl
set_option maxRecDepth 65536 in
theorem w_room : about1.hasRoom e0.platform room_1 = true :=
  launch0.hasRoom_least _ room_1 (by decide +kernel) (by decide +kernel) (by decide +kernel) (by decide +kernel) (by decide +kernel) (by decide +kernel)
theorem allAtoms_all (ts : List Jvm.Cond) (a : Array Jvm.Value) (st : Jvm.State) : (allAtoms ts).before a st = ts.all (fun c => c.before a st) := by
  induction ts with
  | nil => rfl
  | cons c t ih =>
    show (Jvm.Cond.and c (allAtoms t)).before a st = _
    rw [Jvm.Cond.before_and, ih, List.all_cons]
def words1 : List Jvm.Cond := Jvm.Cond.code x code maxLocals ret :: tables_1
/-- a 'code' word, met by the world's own term for the bytes: nothing is compared byte by byte -/
theorem code_word {y : MethodName} {bytes : ByteArray} {mx : Nat} {rt : Option FieldType} {a : Array Value} {s : State} {m : MethodId} {meth : Method} {c : Code} (h1 : s.methodNamed? y = some m) (h2 : s.vm.method? m = some meth) (h3 : meth.code = some c) (h4 : c.code = bytes)
    (h5 : (c.maxLocals == mx && c.exceptionTable.isEmpty && decide (c.maxStack ≤ mostOperands) && decide (meth.sig.returnType = rt) && !meth.locks && decide (parseMethodDescriptor y.desc = some meth.sig)) = true) : (Jvm.Cond.code y bytes mx rt).before a s = true := by
  simp only [Bool.and_eq_true, beq_iff_eq, Bool.not_eq_true', decide_eq_true_eq] at h5
  obtain ⟨⟨⟨⟨⟨g1, g2⟩, g3⟩, g4⟩, g5⟩, g6⟩ := h5
  simp [Cond.before, Cond.holds, Cond.value, h1, h2, h3, h4, g1, g2, g3, g4, g5, g6]
def isCode : Jvm.Cond → Bool
  | .code _ _ _ _ => true
  | _ => false
theorem all_split {L : List Jvm.Cond} {P : Jvm.Cond → Bool} (h1 : L.all (fun c => isCode c || P c) = true) (h2 : ∀ c ∈ L.filter isCode, P c = true) : L.all P = true := by
  refine List.all_eq_true.mpr fun c hc => ?_
  have h := List.all_eq_true.mp h1 c hc
  rcases Bool.eq_false_or_eq_true (isCode c) with hi | hi
  · exact h2 c (List.mem_filter.mpr ⟨hc, hi⟩)
  · simpa [hi] using h
set_option maxRecDepth 65536 in
theorem w_c0 : (Jvm.Cond.code x code maxLocals ret).before args0 about1 = true := code_word (m := ⟨1, 1⟩) (meth := k1m1) (c := k1c1) (by decide +kernel) rfl rfl rfl (by decide +kernel)
set_option maxRecDepth 65536 in
theorem w_c1 : (Jvm.Cond.code ({ cls := "tallyframe/journal/StateDecidedPinLaw", name := "pick", desc := "(I)Ltallyframe/journal/State;" } : Jvm.MethodName) method_3_code (1 : Nat) (Option.some (Jvm.ClassFile.FieldType.object "tallyframe/journal/State"))).before args0 about1 = true := code_word (m := ⟨1, 2⟩) (meth := k1m2) (c := k1c2) (by decide +kernel) rfl rfl rfl (by decide +kernel)
set_option maxRecDepth 65536 in
theorem w_c2 : (Jvm.Cond.code ({ cls := "tallyframe/journal/State", name := "decided", desc := "()Z" } : Jvm.MethodName) prog_176_method_5_code (1 : Nat) (Option.some Jvm.ClassFile.FieldType.boolean)).before args0 about1 = true := code_word (m := ⟨6, 0⟩) (meth := k6m0) (c := k6c0) (by decide +kernel) rfl rfl rfl (by decide +kernel)
set_option maxRecDepth 65536 in
theorem w_c3 : (Jvm.Cond.code ({ cls := "tallyframe/journal/State", name := "undone", desc := "()Z" } : Jvm.MethodName) prog_176_method_6_code (1 : Nat) (Option.some Jvm.ClassFile.FieldType.boolean)).before args0 about1 = true := code_word (m := ⟨6, 1⟩) (meth := k6m1) (c := k6c1) (by decide +kernel) rfl rfl rfl (by decide +kernel)
def codes1 : List Jvm.Cond := [Jvm.Cond.code x code maxLocals ret, Jvm.Cond.code ({ cls := "tallyframe/journal/StateDecidedPinLaw", name := "pick", desc := "(I)Ltallyframe/journal/State;" } : Jvm.MethodName) method_3_code (1 : Nat) (Option.some (Jvm.ClassFile.FieldType.object "tallyframe/journal/State")), Jvm.Cond.code ({ cls := "tallyframe/journal/State", name := "decided", desc := "()Z" } : Jvm.MethodName) prog_176_method_5_code (1 : Nat) (Option.some Jvm.ClassFile.FieldType.boolean), Jvm.Cond.code ({ cls := "tallyframe/journal/State", name := "undone", desc := "()Z" } : Jvm.MethodName) prog_176_method_6_code (1 : Nat) (Option.some Jvm.ClassFile.FieldType.boolean)]
set_option maxRecDepth 65536 in
theorem codes_eq : words1.filter isCode = codes1 := rfl
theorem w_codes : ∀ c ∈ words1.filter isCode, c.before args0 about1 = true := by
  rw [codes_eq]
  intro c hc
  simp only [codes1, List.mem_cons, List.not_mem_nil, or_false] at hc
  rcases hc with rfl | rfl | rfl | rfl
  · exact w_c0
  · exact w_c1
  · exact w_c2
  · exact w_c3
set_option maxRecDepth 65536 in
theorem w_t1 : (words1.take 24).all (fun c => isCode c || c.before args0 about1) = true := by decide +kernel
set_option maxRecDepth 65536 in
theorem w_t2 : (words1.drop 24).all (fun c => isCode c || c.before args0 about1) = true := by decide +kernel
theorem w_tables : (allAtoms (Jvm.Cond.code x code maxLocals ret :: tables_1)).before args0 about1 = true := by
  rw [allAtoms_all]
  show words1.all (fun c => c.before args0 about1) = true
  refine all_split ?_ w_codes
  rw [← List.take_append_drop 24 words1, List.all_append, w_t1, w_t2]
  rfl
set_option maxRecDepth 65536 in
theorem w_case : (Jvm.Cond.and given_1 narrow_1).before args0 about1 = true := by decide +kernel
theorem w_applies : (headSpec (Jvm.Cond.code x code maxLocals ret :: tables_1) room_1).applies x e0.platform about1 = true :=
  (Spec.applies_iff w_frames).mpr ⟨w_running, w_runnable, w_alone, w_named, w_hears, w_ripe, w_room, w_tables⟩
theorem atStart : AtStart classFile x code maxLocals ret World_1 tables_1 room_1 Calls_1 rest_1 Pre_1 launch0 p0 e0 about1 theMethod args0 below0 :=
  ⟨lists_1, trivial, launch0.admits_env _ _ _, launch0.least_env, fairChoices_fair.cas, fairChoices_fair.clock, w_frames, w_args, w_heap, w_applies, trivial, trivial, w_case⟩
end start1
theorem witness_1 : WitnessClaimed_1 := ⟨start1.p0, start1.e0, start1.about1, start1.theMethod, start1.args0, start1.below0, start1.atStart⟩
end Jvm.Pilot.@@N@@
