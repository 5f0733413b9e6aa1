import JvmDerived
import JvmDerived.Pilot.@@N@@Statement
import JvmDerived.Pilot.@@N@@Code
set_option linter.unusedVariables false
set_option linter.unusedSimpArgs false
namespace Jvm.Pilot.@@N@@
open Jvm Jvm.ClassFile Sem Op Lib Jvm.Free Jvm.Stand Jvm.LawKit Jvm.RoadKit Bundle Jvm.Pilot.@@N@@.Jvm.D
section Own
/-- the run goes on from here and ends as E says -/
def Go (p : Program) (e : Env) (below : List Frame) (E : State → Prop) (T : State) (f : JFrame) : Prop := ∃ t, Steps p.tables e below (T.setTop f) t ∧ E t
theorem Go.of {p : Program} {e : Env} {below : List Frame} {E : State → Prop} {T T' : State} {f f' : JFrame} (st : ∀ t, Steps p.tables e below (T'.setTop f') t → Steps p.tables e below (T.setTop f) t) (h : Go p e below E T' f') : Go p e below E T f := by
  obtain ⟨t, h1, h2⟩ := h
  exact ⟨t, st t h1, h2⟩
theorem Go.cast {p : Program} {e : Env} {below : List Frame} {E : State → Prop} {T : State} {f f' : JFrame} (q : f = f') (h : Go p e below E T f') : Go p e below E T f := q ▸ h
/-- the end of an invocation: it has returned, and Q holds of what it returned, of the heap, of what it wrote -/
def Fine (s : State) (below : List Frame) (rm : Room) (Q : Option Value → Heap → List Loc → Prop) (t : State) : Prop :=
  ∃ o, t.status = .running ∧ Ended t below o ∧ ∃ v L, o = .returned v ∧ Q v t.heap L ∧ FrameEnd s o t L rm.cells rm.slots
/-- a contract -/
abbrev Ct (l : Launch) (Z : State) (y : MethodName) (bytes : ByteArray) (maxL : Nat) (rt : Option FieldType) (ws : List Jvm.Cond) (rm : Room) (as' : Array Value) (h : Heap) (Q : Option Value → Heap → List Loc → Prop) : Prop :=
  MetFree l y (head1 (Jvm.Cond.code y bytes maxL rt :: ws) rm) (fun a U => a = as' ∧ Z.Warmed39 U.vm ∧ U.heap = h) (fun _ _ _ _ _ => True) (fun _ U o U' => ∃ v L, o = .returned v ∧ Q v U'.heap L ∧ FrameEnd U o U' L rm.cells rm.slots)
/-- it returns V and leaves the heap as it was -/
def Pu (h : Heap) (V : Option Value) : Option Value → Heap → List Loc → Prop := fun v h' L => v = V ∧ L = [] ∧ h' = h
theorem own_met {l : Launch} {Z : State} {y : MethodName} {bytes : ByteArray} {maxL : Nat} {rt : Option FieldType} {ws : List Jvm.Cond} {rm : Room} {as' : Array Value} {h : Heap} {Q : Option Value → Heap → List Loc → Prop} (hpl : plainFor y = true)
    (body : ∀ (p : Program) (e : Env) (s : State) (m : MethodId) (below : List Frame) (meth : Method) (c : Code) (s₁ : State), Stand p l e rm s m as' below meth c s₁ [] 0 0 → p.tables.exec = Jvm.exec → c.code = bytes → c.maxLocals = maxL → meth.sig.returnType = rt →
      s.vm.findClass y.cls = some m.cls → meth.name = y.name → meth.locks = false → Z.Warmed39 s.vm → s₁.heap = h → Go p e below (Fine s below rm Q) s₁ (entryFrame m as' maxL)) : Ct l Z y bytes maxL rt ws rm as' h Q := by
  refine MetFree.of_bodySF hpl hisR ?_
  intro p e s m args below meth c s₁ Bd hml0 hP hK
  obtain ⟨rfl, hZ, hh⟩ := hP
  have X0 : Stand p l e rm s m _ below meth c s₁ [] 0 0 := Stand.of_body Bd
  obtain ⟨t, h1, o, h2, h3, h4⟩ := body p e s m below meth c s₁ X0 Bd.exec Bd.bytes hml0 Bd.returns (findClass_of_methodNamed Bd.named) (name_of_methodNamed Bd.named Bd.method).1 Bd.notSynchronized hZ (by rw [← hh, Bd.state]; rfl)
  exact ⟨t, o, h1, h2, h3, h4⟩
section Steps
variable {p : Program} {l : Launch} {e : Env} {R : Room} {s : State} {m : MethodId} {args : Array Value} {below : List Frame} {meth : Method} {c : Code} {T : State} {locs : List Loc} {cells slots : Nat} {Z : State} {a0 : Array Value} {h : Heap} {Q : Option Value → Heap → List Loc → Prop}
theorem own_retI (X : Stand p l e R s m args below meth c T locs cells slots) (hx : p.tables.exec = Jvm.exec) (hlk : meth.locks = false) {pc : Nat} {Ls : Array Slot} {z : Int32} {rest : List Value} (hret : meth.sig.returnType = some .int) (hd : decode c.code pc = .ok (.ireturn, 1))
    (hQ : Q (some (.int z)) T.heap locs) (hc : cells ≤ R.cells) (hs : slots ≤ R.slots) : Go p e below (Fine s below R Q) T (mkF m pc Ls (.int z :: rest)) := by
  obtain ⟨fs, hr, hrun, hended, hW, hsame⟩ := X.leave (v := some (.int z)) (fun h => by rw [hret] at h; cases h) hlk
  exact ⟨_, retOut X hx hret rfl (Or.inl ⟨rfl, Or.inl rfl, z, rfl⟩) hd hr, _, hrun, hended, _, _, rfl, hQ, ⟨_, rfl⟩, hW, hsame.mono hc hs⟩
theorem own_retZ (X : Stand p l e R s m args below meth c T locs cells slots) (hx : p.tables.exec = Jvm.exec) (hlk : meth.locks = false) {pc : Nat} {Ls : Array Slot} {z z' : Int32} {rest : List Value} (hret : meth.sig.returnType = some .boolean) (hd : decode c.code pc = .ok (.ireturn, 1)) (hz : nar .boolean z = z')
    (hQ : Q (some (.int z')) T.heap locs) (hc : cells ≤ R.cells) (hs : slots ≤ R.slots) : Go p e below (Fine s below R Q) T (mkF m pc Ls (.int z :: rest)) := by
  subst hz
  obtain ⟨fs, hr, hrun, hended, hW, hsame⟩ := X.leave (v := some (.int (nar .boolean z))) (fun h => by rw [hret] at h; cases h) hlk
  exact ⟨_, retN X hx (t := .boolean) hret (by simp) hd hr, _, hrun, hended, _, _, rfl, hQ, ⟨_, rfl⟩, hW, hsame.mono hc hs⟩
theorem own_retA (X : Stand p l e R s m args below meth c T locs cells slots) (hx : p.tables.exec = Jvm.exec) (hlk : meth.locks = false) {pc : Nat} {Ls : Array Slot} {w : Value} {t : FieldType} {rest : List Value} (hret : meth.sig.returnType = some t) (ht : t.isReference = true) (hw : w.isRef = true) (hd : decode c.code pc = .ok (.areturn, 1))
    (hQ : Q (some w) T.heap locs) (hc : cells ≤ R.cells) (hs : slots ≤ R.slots) : Go p e below (Fine s below R Q) T (mkF m pc Ls (w :: rest)) := by
  obtain ⟨fs, hr, hrun, hended, hW, hsame⟩ := X.leave (v := some w) (fun h => by rw [hret] at h; cases h) hlk
  have hn : narrow t w = w := by rcases ref_cases hw with rfl | ⟨q, rfl⟩ <;> cases t <;> first | rfl | (cases ht; done)
  exact ⟨_, retOut X hx hret hn (Or.inr (Or.inr (Or.inr (Or.inr ⟨rfl, ht, hw⟩)))) hd hr, _, hrun, hended, _, _, rfl, hQ, ⟨_, rfl⟩, hW, hsame.mono hc hs⟩
theorem own_retV (X : Stand p l e R s m args below meth c T locs cells slots) (hx : p.tables.exec = Jvm.exec) (hlk : meth.locks = false) {pc : Nat} {Ls : Array Slot} (hret : meth.sig.returnType = none) (hd : decode c.code pc = .ok (.return_, 1))
    (hQ : Q none T.heap locs) (hc : cells ≤ R.cells) (hs : slots ≤ R.slots) : Go p e below (Fine s below R Q) T (mkF m pc Ls []) := by
  obtain ⟨fs, hr, hrun, hended, hW, hsame⟩ := X.leave (v := none) (fun _ => rfl) hlk
  exact ⟨_, X.returnOut hx hret hd hr, _, hrun, hended, _, _, rfl, hQ, ⟨_, rfl⟩, hW, hsame.mono hc hs⟩
/-- a static call by a contract -/
theorem own_callSQ (X : Stand p l e R s m args below meth c T locs cells slots) (hx : p.tables.exec = Jvm.exec) (hZ : Z.Warmed39 s.vm) {own : String} {index : Nat} {y : MethodName} {bytes : ByteArray} {maxL : Nat} {rt : Option FieldType} (hown : s.vm.findClass own = some m.cls)
    (w1 : (Jvm.Cond.methodLink own index y).before a0 Z = true) (w2 : (Jvm.Cond.static y).before a0 Z = true) (w3 : (Jvm.Cond.initialized y.cls).before a0 Z = true) (w4 : (Jvm.Cond.code y bytes maxL rt).before a0 Z = true) (hy : y.cls ≠ "java/lang/invoke/MethodHandle" ∧ y.cls ≠ "java/lang/invoke/VarHandle")
    {rm : Room} {as' : Array Value} (hM : Ct l Z y bytes maxL rt [] rm as' h Q) (hf : rm.frames + 1 ≤ R.frames) (W : Nat) (hl : W + (maxL + 11) + rm.locals ≤ R.locals) (hc : cells + rm.cells ≤ R.cells) (hs : slots + rm.slots ≤ R.slots) (eT : T.heap = h)
    {g : JFrame} (hg : g.method = m) (hsize : g.locals.size = c.maxLocals) (argsL rest : List Value) (hlen : ∀ sig, parseMethodDescriptor y.desc = some sig → argsL.length = sig.parameters.length) (hstack : g.stack = argsL.reverse ++ rest) (hW : 2 * g.monitorRoom + (rest.map fun v => v.category).sum ≤ W) (has : argsL.toArray = as')
    (hd : decode c.code g.pc = .ok (.invokestatic index, 3)) : ∃ T' L v, Stand p l e R s m args below meth c T' (locs ++ L) (cells + rm.cells) (slots + rm.slots) ∧ Q v T'.heap L ∧ ∀ t, Steps p.tables e below (T'.setTop { g with pc := g.pc + 3, stack := v.toList ++ rest }) t → Steps p.tables e below (T.setTop g) t := by
  obtain ⟨v, _, ⟨T', L', k', n'⟩, -, X', ⟨L, hQ, q1, q2, q3⟩, st⟩ := Jvm.LawKit.callS X hx (y := y) hown (mvT hZ w1) (mvT hZ w2) (mvT hZ w3) (mvT hZ w4) hy (backOf (W := W) hM hZ w4 w3 hf hl) hg hsize (argsL := argsL) (rest := rest) hlen hstack hW hd (fun _ _ => ⟨has, eT, hc, hs⟩)
  dsimp only [Pt.U, Pt.locs, Pt.cells, Pt.slots] at X' q1 q2 q3 st hQ
  subst q1 q2 q3
  exact ⟨T', L, v, X', hQ, st⟩
/-- an instance call by a contract -/
theorem own_callVQ (X : Stand p l e R s m args below meth c T locs cells slots) (hx : p.tables.exec = Jvm.exec) (hZ : Z.Warmed39 s.vm) {own C : String} {index : Nat} {y z : MethodName} {bytes : ByteArray} {maxL : Nat} {rt : Option FieldType} (hown : s.vm.findClass own = some m.cls)
    (w1 : (Jvm.Cond.methodLink own index y).before a0 Z = true) (w2 : (Jvm.Cond.declares y).before a0 Z = true) (w2' : (Jvm.Cond.selects y.cls y y).before a0 Z = true) (w3 : (Jvm.Cond.selects C y z).before a0 Z = true) (w4 : (Jvm.Cond.instanceMethod z).before a0 Z = true) (w5 : (Jvm.Cond.code z bytes maxL rt).before a0 Z = true) (w6 : (Jvm.Cond.initialized z.cls).before a0 Z = true) (hy : y.cls ≠ "java/lang/invoke/MethodHandle" ∧ y.cls ≠ "java/lang/invoke/VarHandle")
    {rm : Room} {as' : Array Value} (hM : Ct l Z z bytes maxL rt [] rm as' h Q) (hf : rm.frames + 1 ≤ R.frames) (W : Nat) (hl : W + (maxL + 11) + rm.locals ≤ R.locals) (hc : cells + rm.cells ≤ R.cells) (hs : slots + rm.slots ≤ R.slots) (eT : T.heap = h) {b : Addr} (hE : Exa Z h b C)
    {g : JFrame} (hg : g.method = m) (hsize : g.locals.size = c.maxLocals) (argsL rest : List Value) (hlen : ∀ sig, parseMethodDescriptor y.desc = some sig → argsL.length = sig.parameters.length) (hstack : g.stack = argsL.reverse ++ .ref b :: rest) (hW : 2 * g.monitorRoom + (rest.map fun v => v.category).sum ≤ W) (has : (.ref b :: argsL).toArray = as')
    (hd : decode c.code g.pc = .ok (.invokevirtual index, 3)) : ∃ T' L v, Stand p l e R s m args below meth c T' (locs ++ L) (cells + rm.cells) (slots + rm.slots) ∧ Q v T'.heap L ∧ ∀ t, Steps p.tables e below (T'.setTop { g with pc := g.pc + 3, stack := v.toList ++ rest }) t → Steps p.tables e below (T.setTop g) t := by
  obtain ⟨cq, kq, qa, qb, qc⟩ := isOf (s := s) hZ eT hE
  obtain ⟨v, _, ⟨T', L', k', n'⟩, -, X', ⟨L, hQ, q1, q2, q3⟩, st⟩ := X.virtualBack hx (y := y) (z := z) hown (mvT hZ w1) (mvT hZ w2) (notFace_of_selects (args := #[]) (mvT hZ w2')) (mvT hZ w3) (mvT hZ w4) hy (backOf (W := W) hM hZ w5 w6 hf hl) qa qc hg hsize (Steps.refl _) (argsL := argsL) (rest := rest) hlen hstack hW hd (fun _ _ => ⟨has, eT, hc, hs⟩)
  dsimp only [Pt.U, Pt.locs, Pt.cells, Pt.slots] at X' q1 q2 q3 st hQ
  subst q1 q2 q3
  exact ⟨T', L, v, X', hQ, fun t k => st.trans k⟩
/-- an instance call of a method that a class above declares -/
theorem own_callUQ (X : Stand p l e R s m args below meth c T locs cells slots) (hx : p.tables.exec = Jvm.exec) (hZ : Z.Warmed39 s.vm) {own C owner : String} {index : Nat} {y z : MethodName} {bytes : ByteArray} {maxL : Nat} {rt : Option FieldType} (hown : s.vm.findClass own = some m.cls)
    (w1 : (Jvm.Cond.methodLink own index y).before a0 Z = true) (w2 : (Jvm.Cond.sameMethod y.cls owner y.name y.desc).before a0 Z = true) (w2' : (Jvm.Cond.declares ⟨owner, y.name, y.desc⟩).before a0 Z = true) (hy : owner ≠ "java/lang/invoke/MethodHandle" ∧ owner ≠ "java/lang/invoke/VarHandle") (w3 : (Jvm.Cond.selects C y z).before a0 Z = true) (w4 : (Jvm.Cond.instanceMethod z).before a0 Z = true) (w5 : (Jvm.Cond.code z bytes maxL rt).before a0 Z = true) (w6 : (Jvm.Cond.initialized z.cls).before a0 Z = true)
    {rm : Room} {as' : Array Value} (hM : Ct l Z z bytes maxL rt [] rm as' h Q) (hf : rm.frames + 1 ≤ R.frames) (W : Nat) (hl : W + (maxL + 11) + rm.locals ≤ R.locals) (hc : cells + rm.cells ≤ R.cells) (hs : slots + rm.slots ≤ R.slots) (eT : T.heap = h) {b : Addr} (hE : Exa Z h b C)
    {g : JFrame} (hg : g.method = m) (hsize : g.locals.size = c.maxLocals) (argsL rest : List Value) (hlen : ∀ sig, parseMethodDescriptor y.desc = some sig → argsL.length = sig.parameters.length) (hstack : g.stack = argsL.reverse ++ .ref b :: rest) (hW : 2 * g.monitorRoom + (rest.map fun v => v.category).sum ≤ W) (has : (.ref b :: argsL).toArray = as')
    (hd : decode c.code g.pc = .ok (.invokevirtual index, 3)) : ∃ T' L v, Stand p l e R s m args below meth c T' (locs ++ L) (cells + rm.cells) (slots + rm.slots) ∧ Q v T'.heap L ∧ ∀ t, Steps p.tables e below (T'.setTop { g with pc := g.pc + 3, stack := v.toList ++ rest }) t → Steps p.tables e below (T.setTop g) t := by
  obtain ⟨cq, kq, qa, qb, qc⟩ := isOf (s := s) hZ eT hE
  obtain ⟨v, _, ⟨T', L', k', n'⟩, -, X', ⟨L, hQ, q1, q2, q3⟩, st⟩ := X.virtualBackUp hx (x := y) (y := z) hown (mvT hZ w1) (mvT hZ w2) (mvT hZ w2') hy (mvT hZ w3) (mvT hZ w4) (backOf (W := W) hM hZ w5 w6 hf hl) qa qc hg hsize (Steps.refl _) (argsL := argsL) (rest := rest) hlen hstack hW hd (fun _ _ => ⟨has, eT, hc, hs⟩)
  dsimp only [Pt.U, Pt.locs, Pt.cells, Pt.slots] at X' q1 q2 q3 st hQ
  subst q1 q2 q3
  exact ⟨T', L, v, X', hQ, fun t k => st.trans k⟩
/-- a constructor by a contract -/
theorem own_callCQ (X : Stand p l e R s m args below meth c T locs cells slots) (hx : p.tables.exec = Jvm.exec) (hZ : Z.Warmed39 s.vm) {own : String} {index : Nat} {y : MethodName} {bytes : ByteArray} {maxL : Nat} (hy1 : y.name = "<init>") (hown : s.vm.findClass own = some m.cls)
    (w1 : (Jvm.Cond.methodLink own index y).before a0 Z = true) (w2 : (Jvm.Cond.instanceMethod y).before a0 Z = true) (w5 : (Jvm.Cond.code y bytes maxL none).before a0 Z = true) (w6 : (Jvm.Cond.initialized y.cls).before a0 Z = true) (hy : y.cls ≠ "java/lang/invoke/MethodHandle" ∧ y.cls ≠ "java/lang/invoke/VarHandle")
    {rm : Room} {as' : Array Value} (hM : Ct l Z y bytes maxL none [] rm as' h Q) (hf : rm.frames + 1 ≤ R.frames) (W : Nat) (hl : W + (maxL + 11) + rm.locals ≤ R.locals) (hc : cells + rm.cells ≤ R.cells) (hs : slots + rm.slots ≤ R.slots) (eT : T.heap = h) {b : Addr}
    {g : JFrame} (hg : g.method = m) (hsize : g.locals.size = c.maxLocals) (argsL rest : List Value) (hlen : ∀ sig, parseMethodDescriptor y.desc = some sig → argsL.length = sig.parameters.length) (hstack : g.stack = argsL.reverse ++ .ref b :: rest) (hW : 2 * g.monitorRoom + (rest.map fun v => v.category).sum ≤ W) (has : (.ref b :: argsL).toArray = as')
    (hd : decode c.code g.pc = .ok (.invokespecial index, 3)) : ∃ T' L v, Stand p l e R s m args below meth c T' (locs ++ L) (cells + rm.cells) (slots + rm.slots) ∧ Q v T'.heap L ∧ ∀ t, Steps p.tables e below (T'.setTop { g with pc := g.pc + 3, stack := v.toList ++ rest }) t → Steps p.tables e below (T.setTop g) t := by
  obtain ⟨v, _, ⟨T', L', k', n'⟩, -, X', ⟨L, hQ, q1, q2, q3⟩, st⟩ := X.specialBack hx (y := y) hy1 hown (mvT hZ w1) (mvT hZ w2) (mvT hZ w5) hy (backOf (W := W) hM hZ w5 w6 hf hl) hg hsize (Steps.refl _) (a := b) (argsL := argsL) (rest := rest) hlen hstack hW hd (fun _ _ => ⟨has, eT, hc, hs⟩)
  dsimp only [Pt.U, Pt.locs, Pt.cells, Pt.slots] at X' q1 q2 q3 st hQ
  subst q1 q2 q3
  exact ⟨T', L, v, X', hQ, fun t k => st.trans k⟩
/-- behind a call whose contract is 'Pu': nothing has moved -/
theorem own_pure {g : JFrame} {rest : List Value} {V : Value} {rc rs : Nat} (h1 : rc = 0) (h2 : rs = 0)
    (q : ∃ T' L v, Stand p l e R s m args below meth c T' (locs ++ L) (cells + rc) (slots + rs) ∧ Pu h (some V) v T'.heap L ∧ ∀ t, Steps p.tables e below (T'.setTop { g with pc := g.pc + 3, stack := v.toList ++ rest }) t → Steps p.tables e below (T.setTop g) t) :
    ∃ T', Stand p l e R s m args below meth c T' locs cells slots ∧ T'.heap = h ∧ ∀ t, Steps p.tables e below (T'.setTop { g with pc := g.pc + 3, stack := V :: rest }) t → Steps p.tables e below (T.setTop g) t := by
  subst h1 h2
  obtain ⟨T', L, v, X', ⟨rfl, rfl, e'⟩, st⟩ := q
  rw [List.append_nil] at X'
  exact ⟨T', X', e', st⟩
/-- the same for a call that returns nothing -/
theorem own_pureN {g : JFrame} {rest : List Value} {rc rs : Nat} (h1 : rc = 0) (h2 : rs = 0)
    (q : ∃ T' L v, Stand p l e R s m args below meth c T' (locs ++ L) (cells + rc) (slots + rs) ∧ Pu h none v T'.heap L ∧ ∀ t, Steps p.tables e below (T'.setTop { g with pc := g.pc + 3, stack := v.toList ++ rest }) t → Steps p.tables e below (T.setTop g) t) :
    ∃ T', Stand p l e R s m args below meth c T' locs cells slots ∧ T'.heap = h ∧ ∀ t, Steps p.tables e below (T'.setTop { g with pc := g.pc + 3, stack := rest }) t → Steps p.tables e below (T.setTop g) t := by
  subst h1 h2
  obtain ⟨T', L, v, X', ⟨rfl, rfl, e'⟩, st⟩ := q
  rw [List.append_nil] at X'
  exact ⟨T', X', e', st⟩
end Steps
/-- the same Stand at another state -/
def Same {p : Program} {l : Launch} {e : Env} {R : Room} {s : State} {m : MethodId} {args : Array Value} {below : List Frame} {meth : Method} {c : Code} {T : State} {locs : List Loc} {cells slots : Nat} (X : Stand p l e R s m args below meth c T locs cells slots) (T' : State) : Prop := Stand p l e R s m args below meth c T' locs cells slots
theorem Same.out {p : Program} {l : Launch} {e : Env} {R : Room} {s : State} {m : MethodId} {args : Array Value} {below : List Frame} {meth : Method} {c : Code} {T : State} {locs : List Loc} {cells slots : Nat} {X : Stand p l e R s m args below meth c T locs cells slots} {T' : State} (h : Same X T') : Stand p l e R s m args below meth c T' locs cells slots := h
theorem Same.mk {p : Program} {l : Launch} {e : Env} {R : Room} {s : State} {m : MethodId} {args : Array Value} {below : List Frame} {meth : Method} {c : Code} {T : State} {locs : List Loc} {cells slots : Nat} {X : Stand p l e R s m args below meth c T locs cells slots} {T' : State} (h : Stand p l e R s m args below meth c T' locs cells slots) : Same X T' := h
/-! heaps that keep the old cells -/
theorem own_ext0 (h : Heap) : Ext h h := ⟨Nat.le_refl _, fun _ _ q => q⟩
theorem own_extT {h1 h2 h3 : Heap} (a : Ext h1 h2) (b : Ext h2 h3) : Ext h1 h3 := ⟨Nat.le_trans a.1 b.1, fun x c q => b.2 x c (a.2 x c q)⟩
theorem own_extW {h0 h h' : Heap} {a : Addr} {sl : Nat} {v : Value} (x : Ext h0 h) (W : Wr h h' a sl v) (ha : h0.size ≤ a) : Ext h0 h' := by
  refine ⟨by rw [W.size]; exact x.1, fun b c q => ?_⟩
  obtain ⟨c', e1, -, -, -, e5, -⟩ := wr_at W (x.2 b c q)
  have hb : b < h0.size := (Array.getElem?_eq_some_iff.mp q).1
  rw [e1, e5 (fun z => absurd ha (by rw [← z]; exact Nat.not_le.mpr hb))]
/-- an array of references: just these values -/
def Al (Z : State) (h : Heap) (a : Addr) (k : ClassId) (C : String) (vs : List Value) : Prop := ∃ c : Cell, Arr Z h a c (.object C) ∧ c.cls = k ∧ c.slots = vs.toArray
theorem own_newA {Z : State} {h : Heap} {a : Addr} {k : ClassId} {C : String} {n : Int32} {vs : List Value} (A : Arr Z h a (newA k (.object C) n) (.object C)) (hv : List.replicate n.toNatClampNeg .null = vs) : Al Z h a k C vs := by
  subst hv
  exact ⟨_, A, rfl, by simp [newA, defaultValue]⟩
theorem Al.ext {Z : State} {h h' : Heap} {a : Addr} {k : ClassId} {C : String} {vs : List Value} (F : Al Z h a k C vs) (x : Ext h h') : Al Z h' a k C vs := by
  obtain ⟨c, A, q⟩ := F
  exact ⟨c, A.ext x, q⟩
theorem own_stA {p : Program} {l : Launch} {e : Env} {R : Room} {s : State} {m : MethodId} {args : Array Value} {below : List Frame} {meth : Method} {c : Code} {T : State} {locs : List Loc} {cells slots : Nat} {Z : State} {h : Heap} (X : Stand p l e R s m args below meth c T locs cells slots) (hx : p.tables.exec = Jvm.exec) (hZ : Z.Warmed39 s.vm) (eT : T.heap = h)
    {a : Addr} {k : ClassId} {C : String} {vs : List Value} (A : Al Z h a k C vs) (O : Ovr Z k C) {j : Int32} {v : Value} (hj : ¬ j < 0) (hl : j.toNatClampNeg < vs.length) (F : v = .null ∨ ∃ y, v = .ref y ∧ Exa Z h y C) {vs' : List Value} (hv : vs.set j.toNatClampNeg v = vs')
    {g : JFrame} (hg : g.method = m) {rest : List Value} (hs : g.stack = v :: .int j :: .ref a :: rest) (hd : decode c.code g.pc = .ok (.aastore, 1)) :
    ∃ T' h', Stand p l e R s m args below meth c T' (locs ++ [⟨a, j.toNatClampNeg⟩]) cells slots ∧ T'.heap = h' ∧ Wr h h' a j.toNatClampNeg v ∧ Al Z h' a k C vs' ∧ ∀ target, Steps p.tables e below (T'.setTop { g with pc := g.pc + 1, stack := rest }) target → Steps p.tables e below (T.setTop g) target := by
  obtain ⟨cl, A1, q1, q2⟩ := A
  subst hv
  have S : Sto Z h a v := by
    rcases F with rfl | ⟨y, rfl, E⟩
    · exact Or.inl rfl
    · exact Sto.ofV A1 q1 O (Ins.self E)
  obtain ⟨T', h', X', e', W, st⟩ := stR X hx hZ eT A1 (j := j) (fun q => q.elim hj (fun z => by rw [q2] at z; simp at z; omega)) rfl S hg hs hd
  exact ⟨T', h', X', e', W, ⟨_, Arr.same W A1, q1, by simp [Cell.setSlot, q2]⟩, st⟩
/-! from a case's words to facts of the heap -/
section Words
variable {Z : State} {args : Array Value}
theorem own_fld {t : Term} {C n d : String} {a : Addr} {k : Int32} (ev : t.eval args Z none [] Z = some (.ref a)) (h : (Jvm.Cond.eq (.field t C n d) (.int k)).value args Z none Z [] = some true) : Fld Z Z.heap a C n d (.int k) := by
  obtain ⟨x, y, h1, h2, -, h4⟩ := cmp_v (Or.inl h)
  cases h2
  obtain ⟨z, rfl⟩ := h4
  have h3 := h1
  rw [fld_at ev] at h3
  have e2 : (Term.int k).eval args Z none [] Z = some (.int k) := rfl
  have : z = k := by simpa [Jvm.Cond.value, h1, e2] using h
  subst this
  exact Fld.start h3
theorem own_ne {Z : State} {h : Heap} {a b : Addr} {C n d : String} {v w : Value} (F : Fld Z h a C n d v) (G : Fld Z h b C n d w) (hn : v ≠ w) : a ≠ b := fun q => by
  subst q
  obtain ⟨c1, _, _, _, f1, h1, h2, -, -, -, -, h7⟩ := F
  obtain ⟨c2, _, _, _, f2, g1, g2, -, -, -, -, g7⟩ := G
  cases h1.symm.trans g1
  cases h2.symm.trans g2
  exact hn (Option.some.inj (h7.symm.trans g7))
end Words
end Own
def Wd (Z : State) (h : Heap) (w : Nat → Addr) : Prop := Sta Z h "com/example/upright_meter/uprightmeter/Kind" "REGULAR_FILE" "Lcom/example/upright_meter/uprightmeter/Kind;" (.ref (w 0)) ∧ Sta Z h "com/example/upright_meter/uprightmeter/Kind" "DIRECTORY" "Lcom/example/upright_meter/uprightmeter/Kind;" (.ref (w 1)) ∧ Sta Z h "com/example/upright_meter/uprightmeter/Kind" "SYMLINK" "Lcom/example/upright_meter/uprightmeter/Kind;" (.ref (w 2)) ∧ Sta Z h "com/example/upright_meter/uprightmeter/Kind" "FIFO" "Lcom/example/upright_meter/uprightmeter/Kind;" (.ref (w 3)) ∧ Sta Z h "com/example/upright_meter/uprightmeter/Kind" "SOCKET" "Lcom/example/upright_meter/uprightmeter/Kind;" (.ref (w 4)) ∧ Sta Z h "com/example/upright_meter/uprightmeter/Kind" "CHARACTER_DEVICE" "Lcom/example/upright_meter/uprightmeter/Kind;" (.ref (w 5)) ∧ Sta Z h "com/example/upright_meter/uprightmeter/Kind" "BLOCK_DEVICE" "Lcom/example/upright_meter/uprightmeter/Kind;" (.ref (w 6)) ∧ Sta Z h "com/example/upright_meter/uprightmeter/Kind" "UNKNOWN" "Lcom/example/upright_meter/uprightmeter/Kind;" (.ref (w 7)) ∧ (∀ i, i < 8 → Exa Z h (w i) "com/example/upright_meter/uprightmeter/Kind") ∧ (∀ i, i < 8 → Fld Z h (w i) "java/lang/Enum" "ordinal" "I" (.int (Int32.ofNat i)))
theorem own_inj {Z : State} {h : Heap} {w : Nat → Addr} (F : ∀ i, i < 8 → Fld Z h (w i) "java/lang/Enum" "ordinal" "I" (.int (Int32.ofNat i))) {i j : Nat} (hi : i < 8) (hj : j < 8) (hn : Int32.ofNat i ≠ Int32.ofNat j) : ¬ w i = w j := own_ne (F i hi) (F j hj) (fun q => hn (Value.int.inj q))
theorem Wd.ext {Z : State} {h h' : Heap} {w : Nat → Addr} (D : Wd Z h w) (x : Ext h h') : Wd Z h' w := by
  obtain ⟨S0, S1, S2, S3, S4, S5, S6, S7, Ex, Fo⟩ := D
  exact ⟨(S0.ext x), (S1.ext x), (S2.ext x), (S3.ext x), (S4.ext x), (S5.ext x), (S6.ext x), (S7.ext x), (fun i hi => (Ex i hi).ext x), (fun i hi => (Fo i hi).ext x)⟩
theorem own_ofNat {i j : Nat} (hi : i < 8) (hj : j < 8) (hn : i ≠ j) : Int32.ofNat i ≠ Int32.ofNat j := fun q => hn (by
  have h := congrArg Int32.toInt q
  rw [Int32.toInt_ofNat_small (by omega), Int32.toInt_ofNat_small (by omega)] at h
  omega)
theorem own_c8 {i : Int32} (h : 0 ≤ i.toInt ∧ i.toInt < 8) : i = 0 ∨ i = 1 ∨ i = 2 ∨ i = 3 ∨ i = 4 ∨ i = 5 ∨ i = 6 ∨ i = 7 := by
  simp only [← Int32.toInt_inj, (by decide : (0 : Int32).toInt = 0), (by decide : (1 : Int32).toInt = 1), (by decide : (2 : Int32).toInt = 2), (by decide : (3 : Int32).toInt = 3), (by decide : (4 : Int32).toInt = 4), (by decide : (5 : Int32).toInt = 5), (by decide : (6 : Int32).toInt = 6), (by decide : (7 : Int32).toInt = 7)]
  omega
theorem own_c7 {i : Int32} (h : 0 ≤ i.toInt ∧ i.toInt < 7) : i = 0 ∨ i = 1 ∨ i = 2 ∨ i = 3 ∨ i = 4 ∨ i = 5 ∨ i = 6 := by
  simp only [← Int32.toInt_inj, (by decide : (0 : Int32).toInt = 0), (by decide : (1 : Int32).toInt = 1), (by decide : (2 : Int32).toInt = 2), (by decide : (3 : Int32).toInt = 3), (by decide : (4 : Int32).toInt = 4), (by decide : (5 : Int32).toInt = 5), (by decide : (6 : Int32).toInt = 6)]
  omega
def kdN (i : Int32) : Nat := if i = 0 then 0 else if i = 1 then 1 else if i = 2 then 2 else if i = 3 then 3 else if i = 4 then 4 else if i = 5 then 5 else if i = 6 then 6 else 7
def smo (da db na nb : Int64) (qa qb : Addr) : Int32 := if da = db then (if na = nb then (if qa = qb then 1 else 0) else 0) else 0
theorem own_ne_xor (a m : Int64) (h : ¬ m = 0) : ¬ a ^^^ m = a := fun q => h (by
  have h1 := congrArg (fun z => a ^^^ z) q
  simpa [← Int64.xor_assoc] using h1)
theorem own_and7 (x : Int32) : 0 ≤ (x &&& 7).toInt ∧ (x &&& 7).toInt < 8 := by
  have := c_and x 7 (by decide)
  rw [(by decide : (7 : Int32).toInt = 7)] at this
  omega
theorem own_add7 {k o : Int32} (hk : 0 ≤ k.toInt ∧ k.toInt < 8) (ho : 0 ≤ o.toInt ∧ o.toInt < 7) : ¬ ((k + (o + 1)) &&& 7) = k := by
  rcases own_c8 hk with rfl | rfl | rfl | rfl | rfl | rfl | rfl | rfl <;> rcases own_c7 ho with rfl | rfl | rfl | rfl | rfl | rfl | rfl <;> decide
theorem own_off (x : Int32) : 0 ≤ (XT.ushr x 6 % 7).toInt ∧ (XT.ushr x 6 % 7).toInt < 7 := by
  have h0 : 0 ≤ (XT.ushr x 6).toInt := by
    have e : (XT.ushr x 6).toBitVec = x.toBitVec >>> 6 := by
      show (x.toUInt32 >>> ((6 : Int32) &&& 31).toUInt32).toInt32.toBitVec = _
      rfl
    show 0 ≤ (XT.ushr x 6).toBitVec.toInt
    rw [e, BitVec.toInt_eq_toNat_cond, BitVec.toNat_ushiftRight, Nat.shiftRight_eq_div_pow]
    have := x.toBitVec.isLt
    split <;> omega
  have h2 := (c_iremV (XT.ushr x 6) 7).1 h0 (by decide)
  rw [(by decide : (7 : Int32).toInt = 7)] at h2
  exact ⟨h2.1, h2.2.1⟩
theorem kdN_lt (k : Int32) : kdN k < 8 := by
  unfold kdN
  repeat' split
  all_goals decide
theorem kdN_inj {j k : Int32} (hj : 0 ≤ j.toInt ∧ j.toInt < 8) (hk : 0 ≤ k.toInt ∧ k.toInt < 8) (h : ¬ j = k) : kdN j ≠ kdN k := by
  rcases own_c8 hj with rfl | rfl | rfl | rfl | rfl | rfl | rfl | rfl <;> rcases own_c8 hk with rfl | rfl | rfl | rfl | rfl | rfl | rfl | rfl <;> first | exact absurd rfl h | decide
theorem dc1_0 : decode jdk_30_method_1_code 0 = .ok (.aload_n 0, 1) := by decide +kernel
theorem dc1_1 : decode jdk_30_method_1_code 1 = .ok (.invokespecial 1, 3) := by decide +kernel
theorem dc1_4 : decode jdk_30_method_1_code 4 = .ok (.return_, 1) := by decide +kernel
theorem pn_c1 : plainFor (⟨"java/lang/Record", "<init>", "()V"⟩ : MethodName) = true := by first | (refine plainFor_of_name ?_; simp [plainName, overriddenIn]; done) | (refine plainFor_of_name ?_; decide +kernel) | decide +kernel
theorem ef_c1 (m : MethodId) (a : Addr) : entryFrame m #[(.ref a)] 1 = mkF m 0 #[.val (.ref a)] [] := by first | (simp [entryFrame, mkF, argsToLocals, Value.category]; done) | rfl
set_option maxRecDepth 65536 in
set_option maxHeartbeats 40000000 in
theorem c1 (l : Launch) (Z : State) (a0 : Array Value) (hw : ∀ d ∈ tables_1, d.before a0 Z = true) (h0 : Heap) (a : Addr) :
    Ct l Z (⟨"java/lang/Record", "<init>", "()V"⟩ : MethodName) jdk_30_method_1_code 1 none [] ({ frames := 1, cells := 0, slots := 0, locals := 12 } : Room) #[(.ref a)] h0 (Pu h0 none) := by
  refine own_met pn_c1 ?_
  intro p e s m below meth c s₁ X0 hx hby hml hret hown hnm hlk hZ e0
  refine Go.cast (ef_c1 m a) ?_
  show Go p e below _ s₁ (mkF m 0 #[.val (.ref a)] [])
  refine Go.of (fun _ k => XS.aloadN X0.here hx rfl (hb hby dc1_0) rfl rfl k) ?_
  show Go p e below _ s₁ (mkF m 1 #[.val (.ref a)] [(.ref a)])
  obtain ⟨T1, X1, e1, st1⟩ := initO X0 hx hZ hown (hw _ (List.mem_of_getElem? (i := 20) rfl)) (hw _ (List.mem_of_getElem? (i := 21) rfl)) (hw _ (List.mem_of_getElem? (i := 22) rfl)) e0 (g := (mkF m 1 #[.val (.ref a)] [(.ref a)])) rfl (by rw [hml]; rfl) rfl (hb hby dc1_1) (by decide) (W := 0) (by show 2 * 0 + _ ≤ _; exact Nat.le_of_eq rfl) (by decide)
  refine Go.of st1 ?_
  show Go p e below _ T1 (mkF m 4 #[.val (.ref a)] [])
  exact own_retV X1 hx hlk hret (hb hby dc1_4) ⟨rfl, rfl, e1⟩ (by decide) (by decide)
theorem dc2_0 : decode prog_32_method_1_code 0 = .ok (.aload_n 0, 1) := by decide +kernel
theorem dc2_1 : decode prog_32_method_1_code 1 = .ok (.invokespecial 3, 3) := by decide +kernel
theorem dc2_4 : decode prog_32_method_1_code 4 = .ok (.aload_n 0, 1) := by decide +kernel
theorem dc2_5 : decode prog_32_method_1_code 5 = .ok (.aload_n 1, 1) := by decide +kernel
theorem dc2_6 : decode prog_32_method_1_code 6 = .ok (.putfield 9, 3) := by decide +kernel
theorem dc2_9 : decode prog_32_method_1_code 9 = .ok (.aload_n 0, 1) := by decide +kernel
theorem dc2_10 : decode prog_32_method_1_code 10 = .ok (.lload_n 2, 1) := by decide +kernel
theorem dc2_11 : decode prog_32_method_1_code 11 = .ok (.putfield 15, 3) := by decide +kernel
theorem dc2_14 : decode prog_32_method_1_code 14 = .ok (.aload_n 0, 1) := by decide +kernel
theorem dc2_15 : decode prog_32_method_1_code 15 = .ok (.lload 4, 2) := by decide +kernel
theorem dc2_17 : decode prog_32_method_1_code 17 = .ok (.putfield 19, 3) := by decide +kernel
theorem dc2_20 : decode prog_32_method_1_code 20 = .ok (.aload_n 0, 1) := by decide +kernel
theorem dc2_21 : decode prog_32_method_1_code 21 = .ok (.lload 6, 2) := by decide +kernel
theorem dc2_23 : decode prog_32_method_1_code 23 = .ok (.putfield 22, 3) := by decide +kernel
theorem dc2_26 : decode prog_32_method_1_code 26 = .ok (.aload_n 0, 1) := by decide +kernel
theorem dc2_27 : decode prog_32_method_1_code 27 = .ok (.lload 8, 2) := by decide +kernel
theorem dc2_29 : decode prog_32_method_1_code 29 = .ok (.putfield 25, 3) := by decide +kernel
theorem dc2_32 : decode prog_32_method_1_code 32 = .ok (.aload_n 0, 1) := by decide +kernel
theorem dc2_33 : decode prog_32_method_1_code 33 = .ok (.lload 10, 2) := by decide +kernel
theorem dc2_35 : decode prog_32_method_1_code 35 = .ok (.putfield 28, 3) := by decide +kernel
theorem dc2_38 : decode prog_32_method_1_code 38 = .ok (.aload_n 0, 1) := by decide +kernel
theorem dc2_39 : decode prog_32_method_1_code 39 = .ok (.lload 12, 2) := by decide +kernel
theorem dc2_41 : decode prog_32_method_1_code 41 = .ok (.putfield 31, 3) := by decide +kernel
theorem dc2_44 : decode prog_32_method_1_code 44 = .ok (.aload_n 0, 1) := by decide +kernel
theorem dc2_45 : decode prog_32_method_1_code 45 = .ok (.iload 14, 2) := by decide +kernel
theorem dc2_47 : decode prog_32_method_1_code 47 = .ok (.putfield 34, 3) := by decide +kernel
theorem dc2_50 : decode prog_32_method_1_code 50 = .ok (.return_, 1) := by decide +kernel
theorem pn_c2 : plainFor (⟨"com/example/upright_meter/uprightmeter/ObjectStat", "<init>", "(Lcom/example/upright_meter/uprightmeter/Kind;JJJJJJI)V"⟩ : MethodName) = true := by first | (refine plainFor_of_name ?_; simp [plainName, overriddenIn]; done) | (refine plainFor_of_name ?_; decide +kernel) | decide +kernel
theorem ef_c2 (m : MethodId) (a : Addr) (q : Addr) (y1 : Int64) (y2 : Int64) (y3 : Int64) (dv : Int64) (nd : Int64) (y6 : Int64) (y7 : Int32) : entryFrame m #[(.ref a), (.ref q), (.long y1), (.long y2), (.long y3), (.long dv), (.long nd), (.long y6), (.int y7)] 15 = mkF m 0 #[.val (.ref a), .val (.ref q), .val (.long y1), .second, .val (.long y2), .second, .val (.long y3), .second, .val (.long dv), .second, .val (.long nd), .second, .val (.long y6), .second, .val (.int y7)] [] := by first | (simp [entryFrame, mkF, argsToLocals, Value.category]; done) | rfl
set_option maxRecDepth 65536 in
set_option maxHeartbeats 40000000 in
theorem c2 (l : Launch) (Z : State) (a0 : Array Value) (hw : ∀ d ∈ tables_1, d.before a0 Z = true) (h0 hB : Heap) (n0 : Nat) (a q : Addr) (y1 y2 y3 dv nd y6 : Int64) (y7 : Int32) (xb : Ext hB h0) (ga : hB.size ≤ a) (ga' : n0 ≤ a) (E0 : Exa Z h0 a "com/example/upright_meter/uprightmeter/ObjectStat") (F_kind : Fld Z h0 a "com/example/upright_meter/uprightmeter/ObjectStat" "kind" "Lcom/example/upright_meter/uprightmeter/Kind;" .null) (F_size : Fld Z h0 a "com/example/upright_meter/uprightmeter/ObjectStat" "size" "J" (.long (0 : Int64))) (F_allocatedBytes : Fld Z h0 a "com/example/upright_meter/uprightmeter/ObjectStat" "allocatedBytes" "J" (.long (0 : Int64))) (F_links : Fld Z h0 a "com/example/upright_meter/uprightmeter/ObjectStat" "links" "J" (.long (0 : Int64))) (F_device : Fld Z h0 a "com/example/upright_meter/uprightmeter/ObjectStat" "device" "J" (.long (0 : Int64))) (F_inode : Fld Z h0 a "com/example/upright_meter/uprightmeter/ObjectStat" "inode" "J" (.long (0 : Int64))) (F_accessSeconds : Fld Z h0 a "com/example/upright_meter/uprightmeter/ObjectStat" "accessSeconds" "J" (.long (0 : Int64))) (F_accessNanos : Fld Z h0 a "com/example/upright_meter/uprightmeter/ObjectStat" "accessNanos" "I" (.int (0 : Int32))) :
    Ct l Z (⟨"com/example/upright_meter/uprightmeter/ObjectStat", "<init>", "(Lcom/example/upright_meter/uprightmeter/Kind;JJJJJJI)V"⟩ : MethodName) prog_32_method_1_code 15 none [] ({ frames := 2, cells := 0, slots := 0, locals := 24 } : Room) #[(.ref a), (.ref q), (.long y1), (.long y2), (.long y3), (.long dv), (.long nd), (.long y6), (.int y7)] h0 (fun v h L => v = none ∧ Fr n0 L ∧ Ext hB h ∧ Exa Z h a "com/example/upright_meter/uprightmeter/ObjectStat" ∧ Fld Z h a "com/example/upright_meter/uprightmeter/ObjectStat" "kind" "Lcom/example/upright_meter/uprightmeter/Kind;" (.ref q) ∧ Fld Z h a "com/example/upright_meter/uprightmeter/ObjectStat" "device" "J" (.long dv) ∧ Fld Z h a "com/example/upright_meter/uprightmeter/ObjectStat" "inode" "J" (.long nd)) := by
  refine own_met pn_c2 ?_
  intro p e s m below meth c s₁ X0 hx hby hml hret hown hnm hlk hZ e0
  have N0 := Fr.nil n0
  refine Go.cast (ef_c2 m a q y1 y2 y3 dv nd y6 y7) ?_
  show Go p e below _ s₁ (mkF m 0 #[.val (.ref a), .val (.ref q), .val (.long y1), .second, .val (.long y2), .second, .val (.long y3), .second, .val (.long dv), .second, .val (.long nd), .second, .val (.long y6), .second, .val (.int y7)] [])
  refine Go.of (fun _ k => XS.aloadN X0.here hx rfl (hb hby dc2_0) rfl rfl k) ?_
  show Go p e below _ s₁ (mkF m 1 #[.val (.ref a), .val (.ref q), .val (.long y1), .second, .val (.long y2), .second, .val (.long y3), .second, .val (.long dv), .second, .val (.long nd), .second, .val (.long y6), .second, .val (.int y7)] [(.ref a)])
  obtain ⟨T1, X1, e1, st1⟩ := own_pureN rfl rfl (own_callCQ X0 hx hZ (y := (⟨"java/lang/Record", "<init>", "()V"⟩ : MethodName)) rfl hown (hw _ (List.mem_of_getElem? (i := 15) rfl)) (hw _ (List.mem_of_getElem? (i := 16) rfl)) (hw _ (List.mem_of_getElem? (i := 19) rfl)) (hw _ (List.mem_of_getElem? (i := 18) rfl)) (by decide) (c1 l Z a0 hw h0 a) (by decide) 0 (by decide) (by decide) (by decide) e0 (b := a) (g := (mkF m 1 #[.val (.ref a), .val (.ref q), .val (.long y1), .second, .val (.long y2), .second, .val (.long y3), .second, .val (.long dv), .second, .val (.long nd), .second, .val (.long y6), .second, .val (.int y7)] [(.ref a)])) rfl (by rw [hml]; rfl) [] [] (lenOf (by decide +kernel : parseMethodDescriptor "()V" = some ⟨[], none⟩) rfl) rfl (by show 2 * 0 + _ ≤ _; exact Nat.le_of_eq rfl) rfl (hb hby dc2_1))
  refine Go.of st1 ?_
  show Go p e below _ T1 (mkF m 4 #[.val (.ref a), .val (.ref q), .val (.long y1), .second, .val (.long y2), .second, .val (.long y3), .second, .val (.long dv), .second, .val (.long nd), .second, .val (.long y6), .second, .val (.int y7)] [])
  refine Go.of (fun _ k => XS.aloadN X1.here hx rfl (hb hby dc2_4) rfl rfl k) ?_
  show Go p e below _ T1 (mkF m 5 #[.val (.ref a), .val (.ref q), .val (.long y1), .second, .val (.long y2), .second, .val (.long y3), .second, .val (.long dv), .second, .val (.long nd), .second, .val (.long y6), .second, .val (.int y7)] [(.ref a)])
  refine Go.of (fun _ k => XS.aloadN X1.here hx rfl (hb hby dc2_5) rfl rfl k) ?_
  show Go p e below _ T1 (mkF m 6 #[.val (.ref a), .val (.ref q), .val (.long y1), .second, .val (.long y2), .second, .val (.long y3), .second, .val (.long dv), .second, .val (.long nd), .second, .val (.long y6), .second, .val (.int y7)] [(.ref q), (.ref a)])
  obtain ⟨T2, h2, X2, e2, W2, st2⟩ := putF X1 hx hZ hown (host := "") (Or.inl (hw _ (List.mem_of_getElem? (i := 23) rfl))) Via.refl e1 F_kind E0 (Or.inr ⟨(hw _ (List.mem_of_getElem? (i := 24) rfl)), rfl, hnm⟩) (hw _ (List.mem_of_getElem? (i := 3) rfl)) (ty := (.object "com/example/upright_meter/uprightmeter/Kind")) (by decide +kernel) rfl rfl (g := (mkF m 6 #[.val (.ref a), .val (.ref q), .val (.long y1), .second, .val (.long y2), .second, .val (.long y3), .second, .val (.long dv), .second, .val (.long nd), .second, .val (.long y6), .second, .val (.int y7)] [(.ref q), (.ref a)])) rfl rfl (hb hby dc2_6)
  have N2 := Fr.snoc X2 N0 ga'
  have E2 := E0.wr W2
  have x2_hB := own_extW xb W2 ga
  have F2_kind := F_kind.same W2
  have F2_size := F_size.other W2 (Or.inr (slot_ne (t := .long) (t' := (.object "com/example/upright_meter/uprightmeter/Kind")) (Or.inr (hw _ (List.mem_of_getElem? (i := 26) rfl))) (Or.inr (hw _ (List.mem_of_getElem? (i := 24) rfl))) (by decide) (by decide +kernel) (by decide +kernel)))
  have F2_allocatedBytes := F_allocatedBytes.other W2 (Or.inr (slot_ne (t := .long) (t' := (.object "com/example/upright_meter/uprightmeter/Kind")) (Or.inr (hw _ (List.mem_of_getElem? (i := 28) rfl))) (Or.inr (hw _ (List.mem_of_getElem? (i := 24) rfl))) (by decide) (by decide +kernel) (by decide +kernel)))
  have F2_links := F_links.other W2 (Or.inr (slot_ne (t := .long) (t' := (.object "com/example/upright_meter/uprightmeter/Kind")) (Or.inr (hw _ (List.mem_of_getElem? (i := 30) rfl))) (Or.inr (hw _ (List.mem_of_getElem? (i := 24) rfl))) (by decide) (by decide +kernel) (by decide +kernel)))
  have F2_device := F_device.other W2 (Or.inr (slot_ne (t := .long) (t' := (.object "com/example/upright_meter/uprightmeter/Kind")) (Or.inr (hw _ (List.mem_of_getElem? (i := 32) rfl))) (Or.inr (hw _ (List.mem_of_getElem? (i := 24) rfl))) (by decide) (by decide +kernel) (by decide +kernel)))
  have F2_inode := F_inode.other W2 (Or.inr (slot_ne (t := .long) (t' := (.object "com/example/upright_meter/uprightmeter/Kind")) (Or.inr (hw _ (List.mem_of_getElem? (i := 34) rfl))) (Or.inr (hw _ (List.mem_of_getElem? (i := 24) rfl))) (by decide) (by decide +kernel) (by decide +kernel)))
  have F2_accessSeconds := F_accessSeconds.other W2 (Or.inr (slot_ne (t := .long) (t' := (.object "com/example/upright_meter/uprightmeter/Kind")) (Or.inr (hw _ (List.mem_of_getElem? (i := 36) rfl))) (Or.inr (hw _ (List.mem_of_getElem? (i := 24) rfl))) (by decide) (by decide +kernel) (by decide +kernel)))
  have F2_accessNanos := F_accessNanos.other W2 (Or.inr (slot_ne (t := .int) (t' := (.object "com/example/upright_meter/uprightmeter/Kind")) (Or.inr (hw _ (List.mem_of_getElem? (i := 38) rfl))) (Or.inr (hw _ (List.mem_of_getElem? (i := 24) rfl))) (by decide) (by decide +kernel) (by decide +kernel)))
  refine Go.of st2 ?_
  show Go p e below _ T2 (mkF m 9 #[.val (.ref a), .val (.ref q), .val (.long y1), .second, .val (.long y2), .second, .val (.long y3), .second, .val (.long dv), .second, .val (.long nd), .second, .val (.long y6), .second, .val (.int y7)] [])
  refine Go.of (fun _ k => XS.aloadN X2.here hx rfl (hb hby dc2_9) rfl rfl k) ?_
  show Go p e below _ T2 (mkF m 10 #[.val (.ref a), .val (.ref q), .val (.long y1), .second, .val (.long y2), .second, .val (.long y3), .second, .val (.long dv), .second, .val (.long nd), .second, .val (.long y6), .second, .val (.int y7)] [(.ref a)])
  refine Go.of (fun _ k => XT.lloadN X2.here hx rfl (hb hby dc2_10) rfl k) ?_
  show Go p e below _ T2 (mkF m 11 #[.val (.ref a), .val (.ref q), .val (.long y1), .second, .val (.long y2), .second, .val (.long y3), .second, .val (.long dv), .second, .val (.long nd), .second, .val (.long y6), .second, .val (.int y7)] [(.long y1), (.ref a)])
  obtain ⟨T3, h3, X3, e3, W3, st3⟩ := putF X2 hx hZ hown (host := "") (Or.inl (hw _ (List.mem_of_getElem? (i := 25) rfl))) Via.refl e2 F2_size E2 (Or.inr ⟨(hw _ (List.mem_of_getElem? (i := 26) rfl)), rfl, hnm⟩) (hw _ (List.mem_of_getElem? (i := 3) rfl)) (ty := .long) (by decide +kernel) rfl rfl (g := (mkF m 11 #[.val (.ref a), .val (.ref q), .val (.long y1), .second, .val (.long y2), .second, .val (.long y3), .second, .val (.long dv), .second, .val (.long nd), .second, .val (.long y6), .second, .val (.int y7)] [(.long y1), (.ref a)])) rfl rfl (hb hby dc2_11)
  have N3 := Fr.snoc X3 N2 ga'
  have E3 := E2.wr W3
  have x3_hB := own_extW x2_hB W3 ga
  have F3_kind := F2_kind.other W3 (Or.inr (slot_ne (t := (.object "com/example/upright_meter/uprightmeter/Kind")) (t' := .long) (Or.inr (hw _ (List.mem_of_getElem? (i := 24) rfl))) (Or.inr (hw _ (List.mem_of_getElem? (i := 26) rfl))) (by decide) (by decide +kernel) (by decide +kernel)))
  have F3_size := F2_size.same W3
  have F3_allocatedBytes := F2_allocatedBytes.other W3 (Or.inr (slot_ne (t := .long) (t' := .long) (Or.inr (hw _ (List.mem_of_getElem? (i := 28) rfl))) (Or.inr (hw _ (List.mem_of_getElem? (i := 26) rfl))) (by decide) (by decide +kernel) (by decide +kernel)))
  have F3_links := F2_links.other W3 (Or.inr (slot_ne (t := .long) (t' := .long) (Or.inr (hw _ (List.mem_of_getElem? (i := 30) rfl))) (Or.inr (hw _ (List.mem_of_getElem? (i := 26) rfl))) (by decide) (by decide +kernel) (by decide +kernel)))
  have F3_device := F2_device.other W3 (Or.inr (slot_ne (t := .long) (t' := .long) (Or.inr (hw _ (List.mem_of_getElem? (i := 32) rfl))) (Or.inr (hw _ (List.mem_of_getElem? (i := 26) rfl))) (by decide) (by decide +kernel) (by decide +kernel)))
  have F3_inode := F2_inode.other W3 (Or.inr (slot_ne (t := .long) (t' := .long) (Or.inr (hw _ (List.mem_of_getElem? (i := 34) rfl))) (Or.inr (hw _ (List.mem_of_getElem? (i := 26) rfl))) (by decide) (by decide +kernel) (by decide +kernel)))
  have F3_accessSeconds := F2_accessSeconds.other W3 (Or.inr (slot_ne (t := .long) (t' := .long) (Or.inr (hw _ (List.mem_of_getElem? (i := 36) rfl))) (Or.inr (hw _ (List.mem_of_getElem? (i := 26) rfl))) (by decide) (by decide +kernel) (by decide +kernel)))
  have F3_accessNanos := F2_accessNanos.other W3 (Or.inr (slot_ne (t := .int) (t' := .long) (Or.inr (hw _ (List.mem_of_getElem? (i := 38) rfl))) (Or.inr (hw _ (List.mem_of_getElem? (i := 26) rfl))) (by decide) (by decide +kernel) (by decide +kernel)))
  refine Go.of st3 ?_
  show Go p e below _ T3 (mkF m 14 #[.val (.ref a), .val (.ref q), .val (.long y1), .second, .val (.long y2), .second, .val (.long y3), .second, .val (.long dv), .second, .val (.long nd), .second, .val (.long y6), .second, .val (.int y7)] [])
  refine Go.of (fun _ k => XS.aloadN X3.here hx rfl (hb hby dc2_14) rfl rfl k) ?_
  show Go p e below _ T3 (mkF m 15 #[.val (.ref a), .val (.ref q), .val (.long y1), .second, .val (.long y2), .second, .val (.long y3), .second, .val (.long dv), .second, .val (.long nd), .second, .val (.long y6), .second, .val (.int y7)] [(.ref a)])
  refine Go.of (fun _ k => XT.lload X3.here hx rfl (hb hby dc2_15) rfl k) ?_
  show Go p e below _ T3 (mkF m 17 #[.val (.ref a), .val (.ref q), .val (.long y1), .second, .val (.long y2), .second, .val (.long y3), .second, .val (.long dv), .second, .val (.long nd), .second, .val (.long y6), .second, .val (.int y7)] [(.long y2), (.ref a)])
  obtain ⟨T4, h4, X4, e4, W4, st4⟩ := putF X3 hx hZ hown (host := "") (Or.inl (hw _ (List.mem_of_getElem? (i := 27) rfl))) Via.refl e3 F3_allocatedBytes E3 (Or.inr ⟨(hw _ (List.mem_of_getElem? (i := 28) rfl)), rfl, hnm⟩) (hw _ (List.mem_of_getElem? (i := 3) rfl)) (ty := .long) (by decide +kernel) rfl rfl (g := (mkF m 17 #[.val (.ref a), .val (.ref q), .val (.long y1), .second, .val (.long y2), .second, .val (.long y3), .second, .val (.long dv), .second, .val (.long nd), .second, .val (.long y6), .second, .val (.int y7)] [(.long y2), (.ref a)])) rfl rfl (hb hby dc2_17)
  have N4 := Fr.snoc X4 N3 ga'
  have E4 := E3.wr W4
  have x4_hB := own_extW x3_hB W4 ga
  have F4_kind := F3_kind.other W4 (Or.inr (slot_ne (t := (.object "com/example/upright_meter/uprightmeter/Kind")) (t' := .long) (Or.inr (hw _ (List.mem_of_getElem? (i := 24) rfl))) (Or.inr (hw _ (List.mem_of_getElem? (i := 28) rfl))) (by decide) (by decide +kernel) (by decide +kernel)))
  have F4_allocatedBytes := F3_allocatedBytes.same W4
  have F4_links := F3_links.other W4 (Or.inr (slot_ne (t := .long) (t' := .long) (Or.inr (hw _ (List.mem_of_getElem? (i := 30) rfl))) (Or.inr (hw _ (List.mem_of_getElem? (i := 28) rfl))) (by decide) (by decide +kernel) (by decide +kernel)))
  have F4_device := F3_device.other W4 (Or.inr (slot_ne (t := .long) (t' := .long) (Or.inr (hw _ (List.mem_of_getElem? (i := 32) rfl))) (Or.inr (hw _ (List.mem_of_getElem? (i := 28) rfl))) (by decide) (by decide +kernel) (by decide +kernel)))
  have F4_inode := F3_inode.other W4 (Or.inr (slot_ne (t := .long) (t' := .long) (Or.inr (hw _ (List.mem_of_getElem? (i := 34) rfl))) (Or.inr (hw _ (List.mem_of_getElem? (i := 28) rfl))) (by decide) (by decide +kernel) (by decide +kernel)))
  have F4_accessSeconds := F3_accessSeconds.other W4 (Or.inr (slot_ne (t := .long) (t' := .long) (Or.inr (hw _ (List.mem_of_getElem? (i := 36) rfl))) (Or.inr (hw _ (List.mem_of_getElem? (i := 28) rfl))) (by decide) (by decide +kernel) (by decide +kernel)))
  have F4_accessNanos := F3_accessNanos.other W4 (Or.inr (slot_ne (t := .int) (t' := .long) (Or.inr (hw _ (List.mem_of_getElem? (i := 38) rfl))) (Or.inr (hw _ (List.mem_of_getElem? (i := 28) rfl))) (by decide) (by decide +kernel) (by decide +kernel)))
  refine Go.of st4 ?_
  show Go p e below _ T4 (mkF m 20 #[.val (.ref a), .val (.ref q), .val (.long y1), .second, .val (.long y2), .second, .val (.long y3), .second, .val (.long dv), .second, .val (.long nd), .second, .val (.long y6), .second, .val (.int y7)] [])
  refine Go.of (fun _ k => XS.aloadN X4.here hx rfl (hb hby dc2_20) rfl rfl k) ?_
  show Go p e below _ T4 (mkF m 21 #[.val (.ref a), .val (.ref q), .val (.long y1), .second, .val (.long y2), .second, .val (.long y3), .second, .val (.long dv), .second, .val (.long nd), .second, .val (.long y6), .second, .val (.int y7)] [(.ref a)])
  refine Go.of (fun _ k => XT.lload X4.here hx rfl (hb hby dc2_21) rfl k) ?_
  show Go p e below _ T4 (mkF m 23 #[.val (.ref a), .val (.ref q), .val (.long y1), .second, .val (.long y2), .second, .val (.long y3), .second, .val (.long dv), .second, .val (.long nd), .second, .val (.long y6), .second, .val (.int y7)] [(.long y3), (.ref a)])
  obtain ⟨T5, h5, X5, e5, W5, st5⟩ := putF X4 hx hZ hown (host := "") (Or.inl (hw _ (List.mem_of_getElem? (i := 29) rfl))) Via.refl e4 F4_links E4 (Or.inr ⟨(hw _ (List.mem_of_getElem? (i := 30) rfl)), rfl, hnm⟩) (hw _ (List.mem_of_getElem? (i := 3) rfl)) (ty := .long) (by decide +kernel) rfl rfl (g := (mkF m 23 #[.val (.ref a), .val (.ref q), .val (.long y1), .second, .val (.long y2), .second, .val (.long y3), .second, .val (.long dv), .second, .val (.long nd), .second, .val (.long y6), .second, .val (.int y7)] [(.long y3), (.ref a)])) rfl rfl (hb hby dc2_23)
  have N5 := Fr.snoc X5 N4 ga'
  have E5 := E4.wr W5
  have x5_hB := own_extW x4_hB W5 ga
  have F5_kind := F4_kind.other W5 (Or.inr (slot_ne (t := (.object "com/example/upright_meter/uprightmeter/Kind")) (t' := .long) (Or.inr (hw _ (List.mem_of_getElem? (i := 24) rfl))) (Or.inr (hw _ (List.mem_of_getElem? (i := 30) rfl))) (by decide) (by decide +kernel) (by decide +kernel)))
  have F5_links := F4_links.same W5
  have F5_device := F4_device.other W5 (Or.inr (slot_ne (t := .long) (t' := .long) (Or.inr (hw _ (List.mem_of_getElem? (i := 32) rfl))) (Or.inr (hw _ (List.mem_of_getElem? (i := 30) rfl))) (by decide) (by decide +kernel) (by decide +kernel)))
  have F5_inode := F4_inode.other W5 (Or.inr (slot_ne (t := .long) (t' := .long) (Or.inr (hw _ (List.mem_of_getElem? (i := 34) rfl))) (Or.inr (hw _ (List.mem_of_getElem? (i := 30) rfl))) (by decide) (by decide +kernel) (by decide +kernel)))
  have F5_accessSeconds := F4_accessSeconds.other W5 (Or.inr (slot_ne (t := .long) (t' := .long) (Or.inr (hw _ (List.mem_of_getElem? (i := 36) rfl))) (Or.inr (hw _ (List.mem_of_getElem? (i := 30) rfl))) (by decide) (by decide +kernel) (by decide +kernel)))
  have F5_accessNanos := F4_accessNanos.other W5 (Or.inr (slot_ne (t := .int) (t' := .long) (Or.inr (hw _ (List.mem_of_getElem? (i := 38) rfl))) (Or.inr (hw _ (List.mem_of_getElem? (i := 30) rfl))) (by decide) (by decide +kernel) (by decide +kernel)))
  refine Go.of st5 ?_
  show Go p e below _ T5 (mkF m 26 #[.val (.ref a), .val (.ref q), .val (.long y1), .second, .val (.long y2), .second, .val (.long y3), .second, .val (.long dv), .second, .val (.long nd), .second, .val (.long y6), .second, .val (.int y7)] [])
  refine Go.of (fun _ k => XS.aloadN X5.here hx rfl (hb hby dc2_26) rfl rfl k) ?_
  show Go p e below _ T5 (mkF m 27 #[.val (.ref a), .val (.ref q), .val (.long y1), .second, .val (.long y2), .second, .val (.long y3), .second, .val (.long dv), .second, .val (.long nd), .second, .val (.long y6), .second, .val (.int y7)] [(.ref a)])
  refine Go.of (fun _ k => XT.lload X5.here hx rfl (hb hby dc2_27) rfl k) ?_
  show Go p e below _ T5 (mkF m 29 #[.val (.ref a), .val (.ref q), .val (.long y1), .second, .val (.long y2), .second, .val (.long y3), .second, .val (.long dv), .second, .val (.long nd), .second, .val (.long y6), .second, .val (.int y7)] [(.long dv), (.ref a)])
  obtain ⟨T6, h6, X6, e6, W6, st6⟩ := putF X5 hx hZ hown (host := "") (Or.inl (hw _ (List.mem_of_getElem? (i := 31) rfl))) Via.refl e5 F5_device E5 (Or.inr ⟨(hw _ (List.mem_of_getElem? (i := 32) rfl)), rfl, hnm⟩) (hw _ (List.mem_of_getElem? (i := 3) rfl)) (ty := .long) (by decide +kernel) rfl rfl (g := (mkF m 29 #[.val (.ref a), .val (.ref q), .val (.long y1), .second, .val (.long y2), .second, .val (.long y3), .second, .val (.long dv), .second, .val (.long nd), .second, .val (.long y6), .second, .val (.int y7)] [(.long dv), (.ref a)])) rfl rfl (hb hby dc2_29)
  have N6 := Fr.snoc X6 N5 ga'
  have E6 := E5.wr W6
  have x6_hB := own_extW x5_hB W6 ga
  have F6_kind := F5_kind.other W6 (Or.inr (slot_ne (t := (.object "com/example/upright_meter/uprightmeter/Kind")) (t' := .long) (Or.inr (hw _ (List.mem_of_getElem? (i := 24) rfl))) (Or.inr (hw _ (List.mem_of_getElem? (i := 32) rfl))) (by decide) (by decide +kernel) (by decide +kernel)))
  have F6_device := F5_device.same W6
  have F6_inode := F5_inode.other W6 (Or.inr (slot_ne (t := .long) (t' := .long) (Or.inr (hw _ (List.mem_of_getElem? (i := 34) rfl))) (Or.inr (hw _ (List.mem_of_getElem? (i := 32) rfl))) (by decide) (by decide +kernel) (by decide +kernel)))
  have F6_accessSeconds := F5_accessSeconds.other W6 (Or.inr (slot_ne (t := .long) (t' := .long) (Or.inr (hw _ (List.mem_of_getElem? (i := 36) rfl))) (Or.inr (hw _ (List.mem_of_getElem? (i := 32) rfl))) (by decide) (by decide +kernel) (by decide +kernel)))
  have F6_accessNanos := F5_accessNanos.other W6 (Or.inr (slot_ne (t := .int) (t' := .long) (Or.inr (hw _ (List.mem_of_getElem? (i := 38) rfl))) (Or.inr (hw _ (List.mem_of_getElem? (i := 32) rfl))) (by decide) (by decide +kernel) (by decide +kernel)))
  refine Go.of st6 ?_
  show Go p e below _ T6 (mkF m 32 #[.val (.ref a), .val (.ref q), .val (.long y1), .second, .val (.long y2), .second, .val (.long y3), .second, .val (.long dv), .second, .val (.long nd), .second, .val (.long y6), .second, .val (.int y7)] [])
  refine Go.of (fun _ k => XS.aloadN X6.here hx rfl (hb hby dc2_32) rfl rfl k) ?_
  show Go p e below _ T6 (mkF m 33 #[.val (.ref a), .val (.ref q), .val (.long y1), .second, .val (.long y2), .second, .val (.long y3), .second, .val (.long dv), .second, .val (.long nd), .second, .val (.long y6), .second, .val (.int y7)] [(.ref a)])
  refine Go.of (fun _ k => XT.lload X6.here hx rfl (hb hby dc2_33) rfl k) ?_
  show Go p e below _ T6 (mkF m 35 #[.val (.ref a), .val (.ref q), .val (.long y1), .second, .val (.long y2), .second, .val (.long y3), .second, .val (.long dv), .second, .val (.long nd), .second, .val (.long y6), .second, .val (.int y7)] [(.long nd), (.ref a)])
  obtain ⟨T7, h7, X7, e7, W7, st7⟩ := putF X6 hx hZ hown (host := "") (Or.inl (hw _ (List.mem_of_getElem? (i := 33) rfl))) Via.refl e6 F6_inode E6 (Or.inr ⟨(hw _ (List.mem_of_getElem? (i := 34) rfl)), rfl, hnm⟩) (hw _ (List.mem_of_getElem? (i := 3) rfl)) (ty := .long) (by decide +kernel) rfl rfl (g := (mkF m 35 #[.val (.ref a), .val (.ref q), .val (.long y1), .second, .val (.long y2), .second, .val (.long y3), .second, .val (.long dv), .second, .val (.long nd), .second, .val (.long y6), .second, .val (.int y7)] [(.long nd), (.ref a)])) rfl rfl (hb hby dc2_35)
  have N7 := Fr.snoc X7 N6 ga'
  have E7 := E6.wr W7
  have x7_hB := own_extW x6_hB W7 ga
  have F7_kind := F6_kind.other W7 (Or.inr (slot_ne (t := (.object "com/example/upright_meter/uprightmeter/Kind")) (t' := .long) (Or.inr (hw _ (List.mem_of_getElem? (i := 24) rfl))) (Or.inr (hw _ (List.mem_of_getElem? (i := 34) rfl))) (by decide) (by decide +kernel) (by decide +kernel)))
  have F7_device := F6_device.other W7 (Or.inr (slot_ne (t := .long) (t' := .long) (Or.inr (hw _ (List.mem_of_getElem? (i := 32) rfl))) (Or.inr (hw _ (List.mem_of_getElem? (i := 34) rfl))) (by decide) (by decide +kernel) (by decide +kernel)))
  have F7_inode := F6_inode.same W7
  have F7_accessSeconds := F6_accessSeconds.other W7 (Or.inr (slot_ne (t := .long) (t' := .long) (Or.inr (hw _ (List.mem_of_getElem? (i := 36) rfl))) (Or.inr (hw _ (List.mem_of_getElem? (i := 34) rfl))) (by decide) (by decide +kernel) (by decide +kernel)))
  have F7_accessNanos := F6_accessNanos.other W7 (Or.inr (slot_ne (t := .int) (t' := .long) (Or.inr (hw _ (List.mem_of_getElem? (i := 38) rfl))) (Or.inr (hw _ (List.mem_of_getElem? (i := 34) rfl))) (by decide) (by decide +kernel) (by decide +kernel)))
  refine Go.of st7 ?_
  show Go p e below _ T7 (mkF m 38 #[.val (.ref a), .val (.ref q), .val (.long y1), .second, .val (.long y2), .second, .val (.long y3), .second, .val (.long dv), .second, .val (.long nd), .second, .val (.long y6), .second, .val (.int y7)] [])
  refine Go.of (fun _ k => XS.aloadN X7.here hx rfl (hb hby dc2_38) rfl rfl k) ?_
  show Go p e below _ T7 (mkF m 39 #[.val (.ref a), .val (.ref q), .val (.long y1), .second, .val (.long y2), .second, .val (.long y3), .second, .val (.long dv), .second, .val (.long nd), .second, .val (.long y6), .second, .val (.int y7)] [(.ref a)])
  refine Go.of (fun _ k => XT.lload X7.here hx rfl (hb hby dc2_39) rfl k) ?_
  show Go p e below _ T7 (mkF m 41 #[.val (.ref a), .val (.ref q), .val (.long y1), .second, .val (.long y2), .second, .val (.long y3), .second, .val (.long dv), .second, .val (.long nd), .second, .val (.long y6), .second, .val (.int y7)] [(.long y6), (.ref a)])
  obtain ⟨T8, h8, X8, e8, W8, st8⟩ := putF X7 hx hZ hown (host := "") (Or.inl (hw _ (List.mem_of_getElem? (i := 35) rfl))) Via.refl e7 F7_accessSeconds E7 (Or.inr ⟨(hw _ (List.mem_of_getElem? (i := 36) rfl)), rfl, hnm⟩) (hw _ (List.mem_of_getElem? (i := 3) rfl)) (ty := .long) (by decide +kernel) rfl rfl (g := (mkF m 41 #[.val (.ref a), .val (.ref q), .val (.long y1), .second, .val (.long y2), .second, .val (.long y3), .second, .val (.long dv), .second, .val (.long nd), .second, .val (.long y6), .second, .val (.int y7)] [(.long y6), (.ref a)])) rfl rfl (hb hby dc2_41)
  have N8 := Fr.snoc X8 N7 ga'
  have E8 := E7.wr W8
  have x8_hB := own_extW x7_hB W8 ga
  have F8_kind := F7_kind.other W8 (Or.inr (slot_ne (t := (.object "com/example/upright_meter/uprightmeter/Kind")) (t' := .long) (Or.inr (hw _ (List.mem_of_getElem? (i := 24) rfl))) (Or.inr (hw _ (List.mem_of_getElem? (i := 36) rfl))) (by decide) (by decide +kernel) (by decide +kernel)))
  have F8_device := F7_device.other W8 (Or.inr (slot_ne (t := .long) (t' := .long) (Or.inr (hw _ (List.mem_of_getElem? (i := 32) rfl))) (Or.inr (hw _ (List.mem_of_getElem? (i := 36) rfl))) (by decide) (by decide +kernel) (by decide +kernel)))
  have F8_inode := F7_inode.other W8 (Or.inr (slot_ne (t := .long) (t' := .long) (Or.inr (hw _ (List.mem_of_getElem? (i := 34) rfl))) (Or.inr (hw _ (List.mem_of_getElem? (i := 36) rfl))) (by decide) (by decide +kernel) (by decide +kernel)))
  have F8_accessSeconds := F7_accessSeconds.same W8
  have F8_accessNanos := F7_accessNanos.other W8 (Or.inr (slot_ne (t := .int) (t' := .long) (Or.inr (hw _ (List.mem_of_getElem? (i := 38) rfl))) (Or.inr (hw _ (List.mem_of_getElem? (i := 36) rfl))) (by decide) (by decide +kernel) (by decide +kernel)))
  refine Go.of st8 ?_
  show Go p e below _ T8 (mkF m 44 #[.val (.ref a), .val (.ref q), .val (.long y1), .second, .val (.long y2), .second, .val (.long y3), .second, .val (.long dv), .second, .val (.long nd), .second, .val (.long y6), .second, .val (.int y7)] [])
  refine Go.of (fun _ k => XS.aloadN X8.here hx rfl (hb hby dc2_44) rfl rfl k) ?_
  show Go p e below _ T8 (mkF m 45 #[.val (.ref a), .val (.ref q), .val (.long y1), .second, .val (.long y2), .second, .val (.long y3), .second, .val (.long dv), .second, .val (.long nd), .second, .val (.long y6), .second, .val (.int y7)] [(.ref a)])
  refine Go.of (fun _ k => XS.iload X8.here hx rfl (hb hby dc2_45) rfl k) ?_
  show Go p e below _ T8 (mkF m 47 #[.val (.ref a), .val (.ref q), .val (.long y1), .second, .val (.long y2), .second, .val (.long y3), .second, .val (.long dv), .second, .val (.long nd), .second, .val (.long y6), .second, .val (.int y7)] [(.int y7), (.ref a)])
  obtain ⟨T9, h9, X9, e9, W9, st9⟩ := putF X8 hx hZ hown (host := "") (Or.inl (hw _ (List.mem_of_getElem? (i := 37) rfl))) Via.refl e8 F8_accessNanos E8 (Or.inr ⟨(hw _ (List.mem_of_getElem? (i := 38) rfl)), rfl, hnm⟩) (hw _ (List.mem_of_getElem? (i := 3) rfl)) (ty := .int) (by decide +kernel) rfl rfl (g := (mkF m 47 #[.val (.ref a), .val (.ref q), .val (.long y1), .second, .val (.long y2), .second, .val (.long y3), .second, .val (.long dv), .second, .val (.long nd), .second, .val (.long y6), .second, .val (.int y7)] [(.int y7), (.ref a)])) rfl rfl (hb hby dc2_47)
  have N9 := Fr.snoc X9 N8 ga'
  have E9 := E8.wr W9
  have x9_hB := own_extW x8_hB W9 ga
  have F9_kind := F8_kind.other W9 (Or.inr (slot_ne (t := (.object "com/example/upright_meter/uprightmeter/Kind")) (t' := .int) (Or.inr (hw _ (List.mem_of_getElem? (i := 24) rfl))) (Or.inr (hw _ (List.mem_of_getElem? (i := 38) rfl))) (by decide) (by decide +kernel) (by decide +kernel)))
  have F9_device := F8_device.other W9 (Or.inr (slot_ne (t := .long) (t' := .int) (Or.inr (hw _ (List.mem_of_getElem? (i := 32) rfl))) (Or.inr (hw _ (List.mem_of_getElem? (i := 38) rfl))) (by decide) (by decide +kernel) (by decide +kernel)))
  have F9_inode := F8_inode.other W9 (Or.inr (slot_ne (t := .long) (t' := .int) (Or.inr (hw _ (List.mem_of_getElem? (i := 34) rfl))) (Or.inr (hw _ (List.mem_of_getElem? (i := 38) rfl))) (by decide) (by decide +kernel) (by decide +kernel)))
  have F9_accessNanos := F8_accessNanos.same W9
  refine Go.of st9 ?_
  show Go p e below _ T9 (mkF m 50 #[.val (.ref a), .val (.ref q), .val (.long y1), .second, .val (.long y2), .second, .val (.long y3), .second, .val (.long dv), .second, .val (.long nd), .second, .val (.long y6), .second, .val (.int y7)] [])
  exact own_retV X9 hx hlk hret (hb hby dc2_50) (by rw [e9]; exact ⟨rfl, N9, x9_hB, E9, F9_kind, F9_device, F9_inode⟩) (by decide) (by decide)
theorem dc3_0 : decode prog_32_method_3_code 0 = .ok (.aload_n 0, 1) := by decide +kernel
theorem dc3_1 : decode prog_32_method_3_code 1 = .ok (.getfield 25, 3) := by decide +kernel
theorem dc3_4 : decode prog_32_method_3_code 4 = .ok (.aload_n 1, 1) := by decide +kernel
theorem dc3_5 : decode prog_32_method_3_code 5 = .ok (.getfield 25, 3) := by decide +kernel
theorem dc3_8 : decode prog_32_method_3_code 8 = .ok (.lcmp, 1) := by decide +kernel
theorem dc3_9 : decode prog_32_method_3_code 9 = .ok (.ifCond .ne 30, 3) := by decide +kernel
theorem dc3_12 : decode prog_32_method_3_code 12 = .ok (.aload_n 0, 1) := by decide +kernel
theorem dc3_13 : decode prog_32_method_3_code 13 = .ok (.getfield 28, 3) := by decide +kernel
theorem dc3_16 : decode prog_32_method_3_code 16 = .ok (.aload_n 1, 1) := by decide +kernel
theorem dc3_17 : decode prog_32_method_3_code 17 = .ok (.getfield 28, 3) := by decide +kernel
theorem dc3_20 : decode prog_32_method_3_code 20 = .ok (.lcmp, 1) := by decide +kernel
theorem dc3_21 : decode prog_32_method_3_code 21 = .ok (.ifCond .ne 18, 3) := by decide +kernel
theorem dc3_24 : decode prog_32_method_3_code 24 = .ok (.aload_n 0, 1) := by decide +kernel
theorem dc3_25 : decode prog_32_method_3_code 25 = .ok (.getfield 9, 3) := by decide +kernel
theorem dc3_28 : decode prog_32_method_3_code 28 = .ok (.aload_n 1, 1) := by decide +kernel
theorem dc3_29 : decode prog_32_method_3_code 29 = .ok (.getfield 9, 3) := by decide +kernel
theorem dc3_32 : decode prog_32_method_3_code 32 = .ok (.if_acmp .ne 7, 3) := by decide +kernel
theorem dc3_35 : decode prog_32_method_3_code 35 = .ok (.iconst 1, 1) := by decide +kernel
theorem dc3_36 : decode prog_32_method_3_code 36 = .ok (.goto 4, 3) := by decide +kernel
theorem dc3_39 : decode prog_32_method_3_code 39 = .ok (.iconst 0, 1) := by decide +kernel
theorem dc3_40 : decode prog_32_method_3_code 40 = .ok (.ireturn, 1) := by decide +kernel
theorem pn_c3 : plainFor (⟨"com/example/upright_meter/uprightmeter/ObjectStat", "isSameObjectAs", "(Lcom/example/upright_meter/uprightmeter/ObjectStat;)Z"⟩ : MethodName) = true := by first | (refine plainFor_of_name ?_; simp [plainName, overriddenIn]; done) | (refine plainFor_of_name ?_; decide +kernel) | decide +kernel
theorem ef_c3 (m : MethodId) (a : Addr) (b : Addr) : entryFrame m #[(.ref a), (.ref b)] 2 = mkF m 0 #[.val (.ref a), .val (.ref b)] [] := by first | (simp [entryFrame, mkF, argsToLocals, Value.category]; done) | rfl
set_option maxRecDepth 65536 in
set_option maxHeartbeats 40000000 in
theorem c3 (l : Launch) (Z : State) (a0 : Array Value) (hw : ∀ d ∈ tables_1, d.before a0 Z = true) (h0 : Heap) (a b qa qb : Addr) (da db na nb : Int64) (Fa_device : Fld Z h0 a "com/example/upright_meter/uprightmeter/ObjectStat" "device" "J" (.long da)) (Fa_inode : Fld Z h0 a "com/example/upright_meter/uprightmeter/ObjectStat" "inode" "J" (.long na)) (Fa_kind : Fld Z h0 a "com/example/upright_meter/uprightmeter/ObjectStat" "kind" "Lcom/example/upright_meter/uprightmeter/Kind;" (.ref qa)) (Fb_device : Fld Z h0 b "com/example/upright_meter/uprightmeter/ObjectStat" "device" "J" (.long db)) (Fb_inode : Fld Z h0 b "com/example/upright_meter/uprightmeter/ObjectStat" "inode" "J" (.long nb)) (Fb_kind : Fld Z h0 b "com/example/upright_meter/uprightmeter/ObjectStat" "kind" "Lcom/example/upright_meter/uprightmeter/Kind;" (.ref qb)) (r : Int32) (hr : smo da db na nb qa qb = r) :
    Ct l Z (⟨"com/example/upright_meter/uprightmeter/ObjectStat", "isSameObjectAs", "(Lcom/example/upright_meter/uprightmeter/ObjectStat;)Z"⟩ : MethodName) prog_32_method_3_code 2 (some .boolean) [] ({ frames := 0, cells := 0, slots := 0, locals := 0 } : Room) #[(.ref a), (.ref b)] h0 (Pu h0 (some (.int r))) := by
  refine own_met pn_c3 ?_
  intro p e s m below meth c s₁ X0 hx hby hml hret hown hnm hlk hZ e0
  subst hr
  refine Go.cast (ef_c3 m a b) ?_
  show Go p e below _ s₁ (mkF m 0 #[.val (.ref a), .val (.ref b)] [])
  refine Go.of (fun _ k => XS.aloadN X0.here hx rfl (hb hby dc3_0) rfl rfl k) ?_
  show Go p e below _ s₁ (mkF m 1 #[.val (.ref a), .val (.ref b)] [(.ref a)])
  obtain ⟨T1, X1, e1, st1⟩ := getF X0 hx hZ hown (host := "") (Or.inl (hw _ (List.mem_of_getElem? (i := 31) rfl))) Via.refl e0 Fa_device (g := (mkF m 1 #[.val (.ref a), .val (.ref b)] [(.ref a)])) rfl rfl (hb hby dc3_1)
  refine Go.of st1 ?_
  show Go p e below _ T1 (mkF m 4 #[.val (.ref a), .val (.ref b)] [(.long da)])
  refine Go.of (fun _ k => XS.aloadN X1.here hx rfl (hb hby dc3_4) rfl rfl k) ?_
  show Go p e below _ T1 (mkF m 5 #[.val (.ref a), .val (.ref b)] [(.ref b), (.long da)])
  obtain ⟨T2, X2, e2, st2⟩ := getF X1 hx hZ hown (host := "") (Or.inl (hw _ (List.mem_of_getElem? (i := 31) rfl))) Via.refl e1 Fb_device (g := (mkF m 5 #[.val (.ref a), .val (.ref b)] [(.ref b), (.long da)])) rfl rfl (hb hby dc3_5)
  refine Go.of st2 ?_
  show Go p e below _ T2 (mkF m 8 #[.val (.ref a), .val (.ref b)] [(.long db), (.long da)])
  refine Go.of (fun _ k => XT.lcmp X2.here hx rfl (hb hby dc3_8) rfl k) ?_
  show Go p e below _ T2 (mkF m 9 #[.val (.ref a), .val (.ref b)] [(.int (XT.cmpL da db))])
  by_cases hc9_3 : da = db
  ·
    refine Go.of (fun _ k => XS.ifNo X2.here hx rfl (hb hby dc3_9) rfl (XT.ll_ne_f hc9_3) k) ?_
    show Go p e below _ T2 (mkF m 12 #[.val (.ref a), .val (.ref b)] [])
    refine Go.of (fun _ k => XS.aloadN X2.here hx rfl (hb hby dc3_12) rfl rfl k) ?_
    show Go p e below _ T2 (mkF m 13 #[.val (.ref a), .val (.ref b)] [(.ref a)])
    obtain ⟨T4, X4, e4, st4⟩ := getF X2 hx hZ hown (host := "") (Or.inl (hw _ (List.mem_of_getElem? (i := 33) rfl))) Via.refl e2 Fa_inode (g := (mkF m 13 #[.val (.ref a), .val (.ref b)] [(.ref a)])) rfl rfl (hb hby dc3_13)
    refine Go.of st4 ?_
    show Go p e below _ T4 (mkF m 16 #[.val (.ref a), .val (.ref b)] [(.long na)])
    refine Go.of (fun _ k => XS.aloadN X4.here hx rfl (hb hby dc3_16) rfl rfl k) ?_
    show Go p e below _ T4 (mkF m 17 #[.val (.ref a), .val (.ref b)] [(.ref b), (.long na)])
    obtain ⟨T5, X5, e5, st5⟩ := getF X4 hx hZ hown (host := "") (Or.inl (hw _ (List.mem_of_getElem? (i := 33) rfl))) Via.refl e4 Fb_inode (g := (mkF m 17 #[.val (.ref a), .val (.ref b)] [(.ref b), (.long na)])) rfl rfl (hb hby dc3_17)
    refine Go.of st5 ?_
    show Go p e below _ T5 (mkF m 20 #[.val (.ref a), .val (.ref b)] [(.long nb), (.long na)])
    refine Go.of (fun _ k => XT.lcmp X5.here hx rfl (hb hby dc3_20) rfl k) ?_
    show Go p e below _ T5 (mkF m 21 #[.val (.ref a), .val (.ref b)] [(.int (XT.cmpL na nb))])
    by_cases hc21_6 : na = nb
    ·
      refine Go.of (fun _ k => XS.ifNo X5.here hx rfl (hb hby dc3_21) rfl (XT.ll_ne_f hc21_6) k) ?_
      show Go p e below _ T5 (mkF m 24 #[.val (.ref a), .val (.ref b)] [])
      refine Go.of (fun _ k => XS.aloadN X5.here hx rfl (hb hby dc3_24) rfl rfl k) ?_
      show Go p e below _ T5 (mkF m 25 #[.val (.ref a), .val (.ref b)] [(.ref a)])
      obtain ⟨T7, X7, e7, st7⟩ := getF X5 hx hZ hown (host := "") (Or.inl (hw _ (List.mem_of_getElem? (i := 23) rfl))) Via.refl e5 Fa_kind (g := (mkF m 25 #[.val (.ref a), .val (.ref b)] [(.ref a)])) rfl rfl (hb hby dc3_25)
      refine Go.of st7 ?_
      show Go p e below _ T7 (mkF m 28 #[.val (.ref a), .val (.ref b)] [(.ref qa)])
      refine Go.of (fun _ k => XS.aloadN X7.here hx rfl (hb hby dc3_28) rfl rfl k) ?_
      show Go p e below _ T7 (mkF m 29 #[.val (.ref a), .val (.ref b)] [(.ref b), (.ref qa)])
      obtain ⟨T8, X8, e8, st8⟩ := getF X7 hx hZ hown (host := "") (Or.inl (hw _ (List.mem_of_getElem? (i := 23) rfl))) Via.refl e7 Fb_kind (g := (mkF m 29 #[.val (.ref a), .val (.ref b)] [(.ref b), (.ref qa)])) rfl rfl (hb hby dc3_29)
      refine Go.of st8 ?_
      show Go p e below _ T8 (mkF m 32 #[.val (.ref a), .val (.ref b)] [(.ref qb), (.ref qa)])
      by_cases hc32_9 : qa = qb
      ·
        refine Go.of (fun _ k => XT.acmpNo X8.here hx rfl (hb hby dc3_32) rfl rfl rfl (XT.aa_ne_f (congrArg Value.ref hc32_9)) k) ?_
        show Go p e below _ T8 (mkF m 35 #[.val (.ref a), .val (.ref b)] [])
        refine Go.of (fun _ k => XS.iconst X8.here hx rfl (hb hby dc3_35) k) ?_
        show Go p e below _ T8 (mkF m 36 #[.val (.ref a), .val (.ref b)] [(.int (1 : Int32))])
        refine Go.of (fun _ k => XS.goto X8.here hx rfl (pc0 := 36) (pc' := 40) rfl (hb hby dc3_36) (by decide) (by decide) k) ?_
        show Go p e below _ T8 (mkF m 40 #[.val (.ref a), .val (.ref b)] [(.int (1 : Int32))])
        exact own_retZ (z' := (1 : Int32)) X8 hx hlk hret (hb hby dc3_40) rfl ⟨by rw [smo, if_pos hc9_3, if_pos hc21_6, if_pos hc32_9], rfl, e8⟩ (by decide) (by decide)
      ·
        refine Go.of (fun _ k => XT.acmpYes X8.here hx rfl (pc0 := 32) (pc' := 39) rfl (hb hby dc3_32) rfl rfl rfl (XT.aa_ne_t (fun q => hc32_9 (Value.ref.inj q))) (by decide) (by decide) k) ?_
        show Go p e below _ T8 (mkF m 39 #[.val (.ref a), .val (.ref b)] [])
        refine Go.of (fun _ k => XS.iconst X8.here hx rfl (hb hby dc3_39) k) ?_
        show Go p e below _ T8 (mkF m 40 #[.val (.ref a), .val (.ref b)] [(.int (0 : Int32))])
        exact own_retZ (z' := (0 : Int32)) X8 hx hlk hret (hb hby dc3_40) rfl ⟨by rw [smo, if_pos hc9_3, if_pos hc21_6, if_neg hc32_9], rfl, e8⟩ (by decide) (by decide)
    ·
      refine Go.of (fun _ k => XS.ifYes X5.here hx rfl (pc0 := 21) (pc' := 39) rfl (hb hby dc3_21) rfl (XT.ll_ne_t hc21_6) (by decide) (by decide) k) ?_
      show Go p e below _ T5 (mkF m 39 #[.val (.ref a), .val (.ref b)] [])
      refine Go.of (fun _ k => XS.iconst X5.here hx rfl (hb hby dc3_39) k) ?_
      show Go p e below _ T5 (mkF m 40 #[.val (.ref a), .val (.ref b)] [(.int (0 : Int32))])
      exact own_retZ (z' := (0 : Int32)) X5 hx hlk hret (hb hby dc3_40) rfl ⟨by rw [smo, if_pos hc9_3, if_neg hc21_6], rfl, e5⟩ (by decide) (by decide)
  ·
    refine Go.of (fun _ k => XS.ifYes X2.here hx rfl (pc0 := 9) (pc' := 39) rfl (hb hby dc3_9) rfl (XT.ll_ne_t hc9_3) (by decide) (by decide) k) ?_
    show Go p e below _ T2 (mkF m 39 #[.val (.ref a), .val (.ref b)] [])
    refine Go.of (fun _ k => XS.iconst X2.here hx rfl (hb hby dc3_39) k) ?_
    show Go p e below _ T2 (mkF m 40 #[.val (.ref a), .val (.ref b)] [(.int (0 : Int32))])
    exact own_retZ (z' := (0 : Int32)) X2 hx hlk hret (hb hby dc3_40) rfl ⟨by rw [smo, if_neg hc9_3], rfl, e2⟩ (by decide) (by decide)
theorem dc4_0 : decode method_2_code 0 = .ok (.iload_n 0, 1) := by decide +kernel
theorem dc4_1 : decode method_2_code 1 = .ok (.ifCond .ne 7, 3) := by decide +kernel
theorem dc4_4 : decode method_2_code 4 = .ok (.getstatic 7, 3) := by decide +kernel
theorem dc4_7 : decode method_2_code 7 = .ok (.areturn, 1) := by decide +kernel
theorem dc4_8 : decode method_2_code 8 = .ok (.iload_n 0, 1) := by decide +kernel
theorem dc4_9 : decode method_2_code 9 = .ok (.iconst 1, 1) := by decide +kernel
theorem dc4_10 : decode method_2_code 10 = .ok (.if_icmp .ne 7, 3) := by decide +kernel
theorem dc4_13 : decode method_2_code 13 = .ok (.getstatic 13, 3) := by decide +kernel
theorem dc4_16 : decode method_2_code 16 = .ok (.areturn, 1) := by decide +kernel
theorem dc4_17 : decode method_2_code 17 = .ok (.iload_n 0, 1) := by decide +kernel
theorem dc4_18 : decode method_2_code 18 = .ok (.iconst 2, 1) := by decide +kernel
theorem dc4_19 : decode method_2_code 19 = .ok (.if_icmp .ne 7, 3) := by decide +kernel
theorem dc4_22 : decode method_2_code 22 = .ok (.getstatic 16, 3) := by decide +kernel
theorem dc4_25 : decode method_2_code 25 = .ok (.areturn, 1) := by decide +kernel
theorem dc4_26 : decode method_2_code 26 = .ok (.iload_n 0, 1) := by decide +kernel
theorem dc4_27 : decode method_2_code 27 = .ok (.iconst 3, 1) := by decide +kernel
theorem dc4_28 : decode method_2_code 28 = .ok (.if_icmp .ne 7, 3) := by decide +kernel
theorem dc4_31 : decode method_2_code 31 = .ok (.getstatic 19, 3) := by decide +kernel
theorem dc4_34 : decode method_2_code 34 = .ok (.areturn, 1) := by decide +kernel
theorem dc4_35 : decode method_2_code 35 = .ok (.iload_n 0, 1) := by decide +kernel
theorem dc4_36 : decode method_2_code 36 = .ok (.iconst 4, 1) := by decide +kernel
theorem dc4_37 : decode method_2_code 37 = .ok (.if_icmp .ne 7, 3) := by decide +kernel
theorem dc4_40 : decode method_2_code 40 = .ok (.getstatic 22, 3) := by decide +kernel
theorem dc4_43 : decode method_2_code 43 = .ok (.areturn, 1) := by decide +kernel
theorem dc4_44 : decode method_2_code 44 = .ok (.iload_n 0, 1) := by decide +kernel
theorem dc4_45 : decode method_2_code 45 = .ok (.iconst 5, 1) := by decide +kernel
theorem dc4_46 : decode method_2_code 46 = .ok (.if_icmp .ne 7, 3) := by decide +kernel
theorem dc4_49 : decode method_2_code 49 = .ok (.getstatic 25, 3) := by decide +kernel
theorem dc4_52 : decode method_2_code 52 = .ok (.areturn, 1) := by decide +kernel
theorem dc4_53 : decode method_2_code 53 = .ok (.iload_n 0, 1) := by decide +kernel
theorem dc4_54 : decode method_2_code 54 = .ok (.bipush 6, 2) := by decide +kernel
theorem dc4_56 : decode method_2_code 56 = .ok (.if_icmp .ne 7, 3) := by decide +kernel
theorem dc4_59 : decode method_2_code 59 = .ok (.getstatic 28, 3) := by decide +kernel
theorem dc4_62 : decode method_2_code 62 = .ok (.areturn, 1) := by decide +kernel
theorem dc4_63 : decode method_2_code 63 = .ok (.getstatic 31, 3) := by decide +kernel
theorem dc4_66 : decode method_2_code 66 = .ok (.areturn, 1) := by decide +kernel
theorem pn_c4 : plainFor (⟨"com/example/upright_meter/uprightmeter/ObjectStatIsSameObjectAsPinLaw", "kindOf", "(I)Lcom/example/upright_meter/uprightmeter/Kind;"⟩ : MethodName) = true := by first | (refine plainFor_of_name ?_; simp [plainName, overriddenIn]; done) | (refine plainFor_of_name ?_; decide +kernel) | decide +kernel
theorem ef_c4 (m : MethodId) (i : Int32) : entryFrame m #[(.int i)] 1 = mkF m 0 #[.val (.int i)] [] := by first | (simp [entryFrame, mkF, argsToLocals, Value.category]; done) | rfl
set_option maxRecDepth 65536 in
set_option maxHeartbeats 40000000 in
theorem c4 (l : Launch) (Z : State) (a0 : Array Value) (hw : ∀ d ∈ tables_1, d.before a0 Z = true) (w : Nat → Addr) (h0 : Heap) (D : Wd Z h0 w) (i : Int32) (r : Nat) (hr : kdN i = r) :
    Ct l Z (⟨"com/example/upright_meter/uprightmeter/ObjectStatIsSameObjectAsPinLaw", "kindOf", "(I)Lcom/example/upright_meter/uprightmeter/Kind;"⟩ : MethodName) method_2_code 1 (some (.object "com/example/upright_meter/uprightmeter/Kind")) [] ({ frames := 0, cells := 0, slots := 0, locals := 0 } : Room) #[(.int i)] h0 (Pu h0 (some (.ref (w r)))) := by
  refine own_met pn_c4 ?_
  intro p e s m below meth c s₁ X0 hx hby hml hret hown hnm hlk hZ e0
  subst hr
  obtain ⟨S0, S1, S2, S3, S4, S5, S6, S7, Ex, Fo⟩ := D
  refine Go.cast (ef_c4 m i) ?_
  show Go p e below _ s₁ (mkF m 0 #[.val (.int i)] [])
  refine Go.of (fun _ k => XS.iloadN X0.here hx rfl (hb hby dc4_0) rfl k) ?_
  show Go p e below _ s₁ (mkF m 1 #[.val (.int i)] [(.int i)])
  by_cases hc1_1 : i = (0 : Int32)
  ·
    refine Go.of (fun _ k => XS.ifNo X0.here hx rfl (hb hby dc4_1) rfl (XT.i0_ne_f hc1_1) k) ?_
    show Go p e below _ s₁ (mkF m 4 #[.val (.int i)] [])
    obtain ⟨T2, X2, e2, st2⟩ := getS2 X0 hx hZ hown (host := "") (Or.inl (hw _ (List.mem_of_getElem? (i := 9) rfl))) Via.refl e0 S0 (g := (mkF m 4 #[.val (.int i)] [])) rfl (hb hby dc4_4)
    refine Go.of st2 ?_
    show Go p e below _ T2 (mkF m 7 #[.val (.int i)] [(.ref (w 0))])
    exact own_retA X2 hx hlk hret rfl rfl (hb hby dc4_7) ⟨by rw [kdN, if_pos hc1_1], rfl, e2⟩ (by decide) (by decide)
  ·
    refine Go.of (fun _ k => XS.ifYes X0.here hx rfl (pc0 := 1) (pc' := 8) rfl (hb hby dc4_1) rfl (XT.i0_ne_t hc1_1) (by decide) (by decide) k) ?_
    show Go p e below _ s₁ (mkF m 8 #[.val (.int i)] [])
    refine Go.of (fun _ k => XS.iloadN X0.here hx rfl (hb hby dc4_8) rfl k) ?_
    show Go p e below _ s₁ (mkF m 9 #[.val (.int i)] [(.int i)])
    refine Go.of (fun _ k => XS.iconst X0.here hx rfl (hb hby dc4_9) k) ?_
    show Go p e below _ s₁ (mkF m 10 #[.val (.int i)] [(.int (1 : Int32)), (.int i)])
    by_cases hc10_3 : i = (1 : Int32)
    ·
      refine Go.of (fun _ k => XS.icmpNo X0.here hx rfl (hb hby dc4_10) rfl (XT.ii_ne_f hc10_3) k) ?_
      show Go p e below _ s₁ (mkF m 13 #[.val (.int i)] [])
      obtain ⟨T4, X4, e4, st4⟩ := getS2 X0 hx hZ hown (host := "") (Or.inl (hw _ (List.mem_of_getElem? (i := 39) rfl))) Via.refl e0 S1 (g := (mkF m 13 #[.val (.int i)] [])) rfl (hb hby dc4_13)
      refine Go.of st4 ?_
      show Go p e below _ T4 (mkF m 16 #[.val (.int i)] [(.ref (w 1))])
      exact own_retA X4 hx hlk hret rfl rfl (hb hby dc4_16) ⟨by rw [kdN, if_neg hc1_1, if_pos hc10_3], rfl, e4⟩ (by decide) (by decide)
    ·
      refine Go.of (fun _ k => XS.icmpYes X0.here hx rfl (pc0 := 10) (pc' := 17) rfl (hb hby dc4_10) rfl (XT.ii_ne_t hc10_3) (by decide) (by decide) k) ?_
      show Go p e below _ s₁ (mkF m 17 #[.val (.int i)] [])
      refine Go.of (fun _ k => XS.iloadN X0.here hx rfl (hb hby dc4_17) rfl k) ?_
      show Go p e below _ s₁ (mkF m 18 #[.val (.int i)] [(.int i)])
      refine Go.of (fun _ k => XS.iconst X0.here hx rfl (hb hby dc4_18) k) ?_
      show Go p e below _ s₁ (mkF m 19 #[.val (.int i)] [(.int (2 : Int32)), (.int i)])
      by_cases hc19_5 : i = (2 : Int32)
      ·
        refine Go.of (fun _ k => XS.icmpNo X0.here hx rfl (hb hby dc4_19) rfl (XT.ii_ne_f hc19_5) k) ?_
        show Go p e below _ s₁ (mkF m 22 #[.val (.int i)] [])
        obtain ⟨T6, X6, e6, st6⟩ := getS2 X0 hx hZ hown (host := "") (Or.inl (hw _ (List.mem_of_getElem? (i := 51) rfl))) Via.refl e0 S2 (g := (mkF m 22 #[.val (.int i)] [])) rfl (hb hby dc4_22)
        refine Go.of st6 ?_
        show Go p e below _ T6 (mkF m 25 #[.val (.int i)] [(.ref (w 2))])
        exact own_retA X6 hx hlk hret rfl rfl (hb hby dc4_25) ⟨by rw [kdN, if_neg hc1_1, if_neg hc10_3, if_pos hc19_5], rfl, e6⟩ (by decide) (by decide)
      ·
        refine Go.of (fun _ k => XS.icmpYes X0.here hx rfl (pc0 := 19) (pc' := 26) rfl (hb hby dc4_19) rfl (XT.ii_ne_t hc19_5) (by decide) (by decide) k) ?_
        show Go p e below _ s₁ (mkF m 26 #[.val (.int i)] [])
        refine Go.of (fun _ k => XS.iloadN X0.here hx rfl (hb hby dc4_26) rfl k) ?_
        show Go p e below _ s₁ (mkF m 27 #[.val (.int i)] [(.int i)])
        refine Go.of (fun _ k => XS.iconst X0.here hx rfl (hb hby dc4_27) k) ?_
        show Go p e below _ s₁ (mkF m 28 #[.val (.int i)] [(.int (3 : Int32)), (.int i)])
        by_cases hc28_7 : i = (3 : Int32)
        ·
          refine Go.of (fun _ k => XS.icmpNo X0.here hx rfl (hb hby dc4_28) rfl (XT.ii_ne_f hc28_7) k) ?_
          show Go p e below _ s₁ (mkF m 31 #[.val (.int i)] [])
          obtain ⟨T8, X8, e8, st8⟩ := getS2 X0 hx hZ hown (host := "") (Or.inl (hw _ (List.mem_of_getElem? (i := 53) rfl))) Via.refl e0 S3 (g := (mkF m 31 #[.val (.int i)] [])) rfl (hb hby dc4_31)
          refine Go.of st8 ?_
          show Go p e below _ T8 (mkF m 34 #[.val (.int i)] [(.ref (w 3))])
          exact own_retA X8 hx hlk hret rfl rfl (hb hby dc4_34) ⟨by rw [kdN, if_neg hc1_1, if_neg hc10_3, if_neg hc19_5, if_pos hc28_7], rfl, e8⟩ (by decide) (by decide)
        ·
          refine Go.of (fun _ k => XS.icmpYes X0.here hx rfl (pc0 := 28) (pc' := 35) rfl (hb hby dc4_28) rfl (XT.ii_ne_t hc28_7) (by decide) (by decide) k) ?_
          show Go p e below _ s₁ (mkF m 35 #[.val (.int i)] [])
          refine Go.of (fun _ k => XS.iloadN X0.here hx rfl (hb hby dc4_35) rfl k) ?_
          show Go p e below _ s₁ (mkF m 36 #[.val (.int i)] [(.int i)])
          refine Go.of (fun _ k => XS.iconst X0.here hx rfl (hb hby dc4_36) k) ?_
          show Go p e below _ s₁ (mkF m 37 #[.val (.int i)] [(.int (4 : Int32)), (.int i)])
          by_cases hc37_9 : i = (4 : Int32)
          ·
            refine Go.of (fun _ k => XS.icmpNo X0.here hx rfl (hb hby dc4_37) rfl (XT.ii_ne_f hc37_9) k) ?_
            show Go p e below _ s₁ (mkF m 40 #[.val (.int i)] [])
            obtain ⟨T10, X10, e10, st10⟩ := getS2 X0 hx hZ hown (host := "") (Or.inl (hw _ (List.mem_of_getElem? (i := 47) rfl))) Via.refl e0 S4 (g := (mkF m 40 #[.val (.int i)] [])) rfl (hb hby dc4_40)
            refine Go.of st10 ?_
            show Go p e below _ T10 (mkF m 43 #[.val (.int i)] [(.ref (w 4))])
            exact own_retA X10 hx hlk hret rfl rfl (hb hby dc4_43) ⟨by rw [kdN, if_neg hc1_1, if_neg hc10_3, if_neg hc19_5, if_neg hc28_7, if_pos hc37_9], rfl, e10⟩ (by decide) (by decide)
          ·
            refine Go.of (fun _ k => XS.icmpYes X0.here hx rfl (pc0 := 37) (pc' := 44) rfl (hb hby dc4_37) rfl (XT.ii_ne_t hc37_9) (by decide) (by decide) k) ?_
            show Go p e below _ s₁ (mkF m 44 #[.val (.int i)] [])
            refine Go.of (fun _ k => XS.iloadN X0.here hx rfl (hb hby dc4_44) rfl k) ?_
            show Go p e below _ s₁ (mkF m 45 #[.val (.int i)] [(.int i)])
            refine Go.of (fun _ k => XS.iconst X0.here hx rfl (hb hby dc4_45) k) ?_
            show Go p e below _ s₁ (mkF m 46 #[.val (.int i)] [(.int (5 : Int32)), (.int i)])
            by_cases hc46_11 : i = (5 : Int32)
            ·
              refine Go.of (fun _ k => XS.icmpNo X0.here hx rfl (hb hby dc4_46) rfl (XT.ii_ne_f hc46_11) k) ?_
              show Go p e below _ s₁ (mkF m 49 #[.val (.int i)] [])
              obtain ⟨T12, X12, e12, st12⟩ := getS2 X0 hx hZ hown (host := "") (Or.inl (hw _ (List.mem_of_getElem? (i := 55) rfl))) Via.refl e0 S5 (g := (mkF m 49 #[.val (.int i)] [])) rfl (hb hby dc4_49)
              refine Go.of st12 ?_
              show Go p e below _ T12 (mkF m 52 #[.val (.int i)] [(.ref (w 5))])
              exact own_retA X12 hx hlk hret rfl rfl (hb hby dc4_52) ⟨by rw [kdN, if_neg hc1_1, if_neg hc10_3, if_neg hc19_5, if_neg hc28_7, if_neg hc37_9, if_pos hc46_11], rfl, e12⟩ (by decide) (by decide)
            ·
              refine Go.of (fun _ k => XS.icmpYes X0.here hx rfl (pc0 := 46) (pc' := 53) rfl (hb hby dc4_46) rfl (XT.ii_ne_t hc46_11) (by decide) (by decide) k) ?_
              show Go p e below _ s₁ (mkF m 53 #[.val (.int i)] [])
              refine Go.of (fun _ k => XS.iloadN X0.here hx rfl (hb hby dc4_53) rfl k) ?_
              show Go p e below _ s₁ (mkF m 54 #[.val (.int i)] [(.int i)])
              refine Go.of (fun _ k => XS.bipush X0.here hx rfl (hb hby dc4_54) k) ?_
              show Go p e below _ s₁ (mkF m 56 #[.val (.int i)] [(.int (6 : Int32)), (.int i)])
              by_cases hc56_13 : i = (6 : Int32)
              ·
                refine Go.of (fun _ k => XS.icmpNo X0.here hx rfl (hb hby dc4_56) rfl (XT.ii_ne_f hc56_13) k) ?_
                show Go p e below _ s₁ (mkF m 59 #[.val (.int i)] [])
                obtain ⟨T14, X14, e14, st14⟩ := getS2 X0 hx hZ hown (host := "") (Or.inl (hw _ (List.mem_of_getElem? (i := 57) rfl))) Via.refl e0 S6 (g := (mkF m 59 #[.val (.int i)] [])) rfl (hb hby dc4_59)
                refine Go.of st14 ?_
                show Go p e below _ T14 (mkF m 62 #[.val (.int i)] [(.ref (w 6))])
                exact own_retA X14 hx hlk hret rfl rfl (hb hby dc4_62) ⟨by rw [kdN, if_neg hc1_1, if_neg hc10_3, if_neg hc19_5, if_neg hc28_7, if_neg hc37_9, if_neg hc46_11, if_pos hc56_13], rfl, e14⟩ (by decide) (by decide)
              ·
                refine Go.of (fun _ k => XS.icmpYes X0.here hx rfl (pc0 := 56) (pc' := 63) rfl (hb hby dc4_56) rfl (XT.ii_ne_t hc56_13) (by decide) (by decide) k) ?_
                show Go p e below _ s₁ (mkF m 63 #[.val (.int i)] [])
                obtain ⟨T15, X15, e15, st15⟩ := getS2 X0 hx hZ hown (host := "") (Or.inl (hw _ (List.mem_of_getElem? (i := 49) rfl))) Via.refl e0 S7 (g := (mkF m 63 #[.val (.int i)] [])) rfl (hb hby dc4_63)
                refine Go.of st15 ?_
                show Go p e below _ T15 (mkF m 66 #[.val (.int i)] [(.ref (w 7))])
                exact own_retA X15 hx hlk hret rfl rfl (hb hby dc4_66) ⟨by rw [kdN, if_neg hc1_1, if_neg hc10_3, if_neg hc19_5, if_neg hc28_7, if_neg hc37_9, if_neg hc46_11, if_neg hc56_13], rfl, e15⟩ (by decide) (by decide)
theorem pn_law : plainFor x = true := by first | (refine plainFor_of_name ?_; simp [plainName, overriddenIn, x]; done) | (refine plainFor_of_name ?_; decide +kernel) | decide +kernel
theorem ef_law (m : MethodId) (x0 : Int64) (x1 : Int64) (x2 : Int32) (x3 : Int64) (x4 : Int64) (x5 : Int32) : entryFrame m #[(.long x0), (.long x1), (.int x2), (.long x3), (.long x4), (.int x5)] maxLocals = mkF m 0 #[.val (.long x0), .second, .val (.long x1), .second, .val (.int x2), .val (.long x3), .second, .val (.long x4), .second, .val (.int x5), .unset, .unset, .unset, .unset, .unset, .unset, .unset, .unset, .unset, .unset, .unset, .unset, .unset, .unset, .unset, .unset, .unset, .unset, .unset, .unset, .unset, .unset] [] := by first | (simp [entryFrame, mkF, argsToLocals, Value.category, maxLocals]; done) | rfl
set_option maxRecDepth 65536 in
set_option maxHeartbeats 40000000 in
theorem rm0 (l : Launch) (Z : State) (a0 : Array Value) (hw : ∀ d ∈ tables_1, d.before a0 Z = true) (ws : List Jvm.Cond) (w : Nat → Addr) (h0 : Heap) (n0 : Nat) (Z0 : n0 ≤ h0.size) (D : Wd Z h0 w) (x0 x1 : Int64) (x2 : Int32) (x3 x4 : Int64) (x5 : Int32) :
    Ct l Z x code maxLocals ret ws room_1 #[(.long x0), (.long x1), (.int x2), (.long x3), (.long x4), (.int x5)] h0 (fun v h L => v = some (.int 1) ∧ Fr n0 L) := by
  refine own_met pn_law ?_
  intro p e s m below meth c s₁ X0 hx hby hml0 hret hown hnm hlk hZ e0
  have hml : c.maxLocals = 32 := hml0
  have N0 := Fr.nil n0
  have D' := D
  obtain ⟨S0, S1, S2, S3, S4, S5, S6, S7, Ex, Fo⟩ := D'
  have hI : ∀ i j, i < 8 → j < 8 → i ≠ j → ¬ w i = w j := fun i j hi hj hn => own_inj Fo hi hj (own_ofNat hi hj hn)
  have x0_h0 := own_ext0 h0
  refine Go.cast (ef_law m x0 x1 x2 x3 x4 x5) ?_
  show Go p e below _ s₁ (mkF m 0 #[.val (.long x0), .second, .val (.long x1), .second, .val (.int x2), .val (.long x3), .second, .val (.long x4), .second, .val (.int x5), .unset, .unset, .unset, .unset, .unset, .unset, .unset, .unset, .unset, .unset, .unset, .unset, .unset, .unset, .unset, .unset, .unset, .unset, .unset, .unset, .unset, .unset] [])
  have J12 : ∀ sd : Int32, Go p e below (Fine s below room_1 (fun v h L => v = some (.int 1) ∧ Fr n0 L)) s₁ (mkF m 12 #[.val (.long x0), .second, .val (.long x1), .second, .val (.int x2), .val (.long x3), .second, .val (.long x4), .second, .val (.int x5), .unset, .unset, .unset, .unset, .unset, .unset, .unset, .unset, .unset, .unset, .unset, .unset, .unset, .unset, .unset, .unset, .unset, .unset, .unset, .unset, .unset, .unset] [(.int sd)]) := by
    intro sd
    show Go p e below _ s₁ (mkF m 12 #[.val (.long x0), .second, .val (.long x1), .second, .val (.int x2), .val (.long x3), .second, .val (.long x4), .second, .val (.int x5), .unset, .unset, .unset, .unset, .unset, .unset, .unset, .unset, .unset, .unset, .unset, .unset, .unset, .unset, .unset, .unset, .unset, .unset, .unset, .unset, .unset, .unset] [(.int sd)])
    refine Go.of (fun _ k => XS.istore X0.here hx rfl (hb hby at_12) rfl (l' := #[.val (.long x0), .second, .val (.long x1), .second, .val (.int x2), .val (.long x3), .second, .val (.long x4), .second, .val (.int x5), .val (.int sd), .unset, .unset, .unset, .unset, .unset, .unset, .unset, .unset, .unset, .unset, .unset, .unset, .unset, .unset, .unset, .unset, .unset, .unset, .unset, .unset, .unset]) rfl k) ?_
    show Go p e below _ s₁ (mkF m 14 #[.val (.long x0), .second, .val (.long x1), .second, .val (.int x2), .val (.long x3), .second, .val (.long x4), .second, .val (.int x5), .val (.int sd), .unset, .unset, .unset, .unset, .unset, .unset, .unset, .unset, .unset, .unset, .unset, .unset, .unset, .unset, .unset, .unset, .unset, .unset, .unset, .unset, .unset] [])
    have J26 : ∀ si : Int32, Go p e below (Fine s below room_1 (fun v h L => v = some (.int 1) ∧ Fr n0 L)) s₁ (mkF m 26 #[.val (.long x0), .second, .val (.long x1), .second, .val (.int x2), .val (.long x3), .second, .val (.long x4), .second, .val (.int x5), .val (.int sd), .unset, .unset, .unset, .unset, .unset, .unset, .unset, .unset, .unset, .unset, .unset, .unset, .unset, .unset, .unset, .unset, .unset, .unset, .unset, .unset, .unset] [(.int si)]) := by
      intro si
      show Go p e below _ s₁ (mkF m 26 #[.val (.long x0), .second, .val (.long x1), .second, .val (.int x2), .val (.long x3), .second, .val (.long x4), .second, .val (.int x5), .val (.int sd), .unset, .unset, .unset, .unset, .unset, .unset, .unset, .unset, .unset, .unset, .unset, .unset, .unset, .unset, .unset, .unset, .unset, .unset, .unset, .unset, .unset] [(.int si)])
      refine Go.of (fun _ k => XS.istore X0.here hx rfl (hb hby at_26) rfl (l' := #[.val (.long x0), .second, .val (.long x1), .second, .val (.int x2), .val (.long x3), .second, .val (.long x4), .second, .val (.int x5), .val (.int sd), .val (.int si), .unset, .unset, .unset, .unset, .unset, .unset, .unset, .unset, .unset, .unset, .unset, .unset, .unset, .unset, .unset, .unset, .unset, .unset, .unset, .unset]) rfl k) ?_
      show Go p e below _ s₁ (mkF m 28 #[.val (.long x0), .second, .val (.long x1), .second, .val (.int x2), .val (.long x3), .second, .val (.long x4), .second, .val (.int x5), .val (.int sd), .val (.int si), .unset, .unset, .unset, .unset, .unset, .unset, .unset, .unset, .unset, .unset, .unset, .unset, .unset, .unset, .unset, .unset, .unset, .unset, .unset, .unset] [])
      have J40 : ∀ sk : Int32, Go p e below (Fine s below room_1 (fun v h L => v = some (.int 1) ∧ Fr n0 L)) s₁ (mkF m 40 #[.val (.long x0), .second, .val (.long x1), .second, .val (.int x2), .val (.long x3), .second, .val (.long x4), .second, .val (.int x5), .val (.int sd), .val (.int si), .unset, .unset, .unset, .unset, .unset, .unset, .unset, .unset, .unset, .unset, .unset, .unset, .unset, .unset, .unset, .unset, .unset, .unset, .unset, .unset] [(.int sk)]) := by
        intro sk
        show Go p e below _ s₁ (mkF m 40 #[.val (.long x0), .second, .val (.long x1), .second, .val (.int x2), .val (.long x3), .second, .val (.long x4), .second, .val (.int x5), .val (.int sd), .val (.int si), .unset, .unset, .unset, .unset, .unset, .unset, .unset, .unset, .unset, .unset, .unset, .unset, .unset, .unset, .unset, .unset, .unset, .unset, .unset, .unset] [(.int sk)])
        refine Go.of (fun _ k => XS.istore X0.here hx rfl (hb hby at_40) rfl (l' := #[.val (.long x0), .second, .val (.long x1), .second, .val (.int x2), .val (.long x3), .second, .val (.long x4), .second, .val (.int x5), .val (.int sd), .val (.int si), .val (.int sk), .unset, .unset, .unset, .unset, .unset, .unset, .unset, .unset, .unset, .unset, .unset, .unset, .unset, .unset, .unset, .unset, .unset, .unset, .unset]) rfl k) ?_
        show Go p e below _ s₁ (mkF m 42 #[.val (.long x0), .second, .val (.long x1), .second, .val (.int x2), .val (.long x3), .second, .val (.long x4), .second, .val (.int x5), .val (.int sd), .val (.int si), .val (.int sk), .unset, .unset, .unset, .unset, .unset, .unset, .unset, .unset, .unset, .unset, .unset, .unset, .unset, .unset, .unset, .unset, .unset, .unset, .unset] [])
        refine Go.of (fun _ k => XS.iload X0.here hx rfl (hb hby at_42) rfl k) ?_
        show Go p e below _ s₁ (mkF m 44 #[.val (.long x0), .second, .val (.long x1), .second, .val (.int x2), .val (.long x3), .second, .val (.long x4), .second, .val (.int x5), .val (.int sd), .val (.int si), .val (.int sk), .unset, .unset, .unset, .unset, .unset, .unset, .unset, .unset, .unset, .unset, .unset, .unset, .unset, .unset, .unset, .unset, .unset, .unset, .unset] [(.int x2)])
        refine Go.of (fun _ k => XS.iconst X0.here hx rfl (hb hby at_44) k) ?_
        show Go p e below _ s₁ (mkF m 45 #[.val (.long x0), .second, .val (.long x1), .second, .val (.int x2), .val (.long x3), .second, .val (.long x4), .second, .val (.int x5), .val (.int sd), .val (.int si), .val (.int sk), .unset, .unset, .unset, .unset, .unset, .unset, .unset, .unset, .unset, .unset, .unset, .unset, .unset, .unset, .unset, .unset, .unset, .unset, .unset] [(.int (3 : Int32)), (.int x2)])
        refine Go.of (fun _ k => XT.iushr X0.here hx rfl (hb hby at_45) rfl k) ?_
        show Go p e below _ s₁ (mkF m 46 #[.val (.long x0), .second, .val (.long x1), .second, .val (.int x2), .val (.long x3), .second, .val (.long x4), .second, .val (.int x5), .val (.int sd), .val (.int si), .val (.int sk), .unset, .unset, .unset, .unset, .unset, .unset, .unset, .unset, .unset, .unset, .unset, .unset, .unset, .unset, .unset, .unset, .unset, .unset, .unset] [(.int (XT.ushr x2 (3 : Int32)))])
        refine Go.of (fun _ k => XS.bipush X0.here hx rfl (hb hby at_46) k) ?_
        show Go p e below _ s₁ (mkF m 48 #[.val (.long x0), .second, .val (.long x1), .second, .val (.int x2), .val (.long x3), .second, .val (.long x4), .second, .val (.int x5), .val (.int sd), .val (.int si), .val (.int sk), .unset, .unset, .unset, .unset, .unset, .unset, .unset, .unset, .unset, .unset, .unset, .unset, .unset, .unset, .unset, .unset, .unset, .unset, .unset] [(.int (7 : Int32)), (.int (XT.ushr x2 (3 : Int32)))])
        refine Go.of (fun _ k => XS.iand X0.here hx rfl (hb hby at_48) rfl k) ?_
        show Go p e below _ s₁ (mkF m 49 #[.val (.long x0), .second, .val (.long x1), .second, .val (.int x2), .val (.long x3), .second, .val (.long x4), .second, .val (.int x5), .val (.int sd), .val (.int si), .val (.int sk), .unset, .unset, .unset, .unset, .unset, .unset, .unset, .unset, .unset, .unset, .unset, .unset, .unset, .unset, .unset, .unset, .unset, .unset, .unset] [(.int ((XT.ushr x2 (3 : Int32)) &&& (7 : Int32)))])
        generalize hk1 : ((XT.ushr x2 (3 : Int32)) &&& (7 : Int32)) = k1
        show Go p e below _ s₁ (mkF m 49 #[.val (.long x0), .second, .val (.long x1), .second, .val (.int x2), .val (.long x3), .second, .val (.long x4), .second, .val (.int x5), .val (.int sd), .val (.int si), .val (.int sk), .unset, .unset, .unset, .unset, .unset, .unset, .unset, .unset, .unset, .unset, .unset, .unset, .unset, .unset, .unset, .unset, .unset, .unset, .unset] [(.int k1)])
        have Rk1 : 0 ≤ k1.toInt ∧ k1.toInt < 8 := by rw [← hk1]; exact own_and7 _
        refine Go.of (fun _ k => XS.istore X0.here hx rfl (hb hby at_49) rfl (l' := #[.val (.long x0), .second, .val (.long x1), .second, .val (.int x2), .val (.long x3), .second, .val (.long x4), .second, .val (.int x5), .val (.int sd), .val (.int si), .val (.int sk), .val (.int k1), .unset, .unset, .unset, .unset, .unset, .unset, .unset, .unset, .unset, .unset, .unset, .unset, .unset, .unset, .unset, .unset, .unset, .unset]) rfl k) ?_
        show Go p e below _ s₁ (mkF m 51 #[.val (.long x0), .second, .val (.long x1), .second, .val (.int x2), .val (.long x3), .second, .val (.long x4), .second, .val (.int x5), .val (.int sd), .val (.int si), .val (.int sk), .val (.int k1), .unset, .unset, .unset, .unset, .unset, .unset, .unset, .unset, .unset, .unset, .unset, .unset, .unset, .unset, .unset, .unset, .unset, .unset] [])
        refine Go.of (fun _ k => XS.iload X0.here hx rfl (hb hby at_51) rfl k) ?_
        show Go p e below _ s₁ (mkF m 53 #[.val (.long x0), .second, .val (.long x1), .second, .val (.int x2), .val (.long x3), .second, .val (.long x4), .second, .val (.int x5), .val (.int sd), .val (.int si), .val (.int sk), .val (.int k1), .unset, .unset, .unset, .unset, .unset, .unset, .unset, .unset, .unset, .unset, .unset, .unset, .unset, .unset, .unset, .unset, .unset, .unset] [(.int x2)])
        refine Go.of (fun _ k => XS.bipush X0.here hx rfl (hb hby at_53) k) ?_
        show Go p e below _ s₁ (mkF m 55 #[.val (.long x0), .second, .val (.long x1), .second, .val (.int x2), .val (.long x3), .second, .val (.long x4), .second, .val (.int x5), .val (.int sd), .val (.int si), .val (.int sk), .val (.int k1), .unset, .unset, .unset, .unset, .unset, .unset, .unset, .unset, .unset, .unset, .unset, .unset, .unset, .unset, .unset, .unset, .unset, .unset] [(.int (6 : Int32)), (.int x2)])
        refine Go.of (fun _ k => XT.iushr X0.here hx rfl (hb hby at_55) rfl k) ?_
        show Go p e below _ s₁ (mkF m 56 #[.val (.long x0), .second, .val (.long x1), .second, .val (.int x2), .val (.long x3), .second, .val (.long x4), .second, .val (.int x5), .val (.int sd), .val (.int si), .val (.int sk), .val (.int k1), .unset, .unset, .unset, .unset, .unset, .unset, .unset, .unset, .unset, .unset, .unset, .unset, .unset, .unset, .unset, .unset, .unset, .unset] [(.int (XT.ushr x2 (6 : Int32)))])
        refine Go.of (fun _ k => XS.bipush X0.here hx rfl (hb hby at_56) k) ?_
        show Go p e below _ s₁ (mkF m 58 #[.val (.long x0), .second, .val (.long x1), .second, .val (.int x2), .val (.long x3), .second, .val (.long x4), .second, .val (.int x5), .val (.int sd), .val (.int si), .val (.int sk), .val (.int k1), .unset, .unset, .unset, .unset, .unset, .unset, .unset, .unset, .unset, .unset, .unset, .unset, .unset, .unset, .unset, .unset, .unset, .unset] [(.int (7 : Int32)), (.int (XT.ushr x2 (6 : Int32)))])
        refine Go.of (fun _ k => iremM X0 hx rfl (hb hby at_58) rfl (by decide) k) ?_
        show Go p e below _ s₁ (mkF m 59 #[.val (.long x0), .second, .val (.long x1), .second, .val (.int x2), .val (.long x3), .second, .val (.long x4), .second, .val (.int x5), .val (.int sd), .val (.int si), .val (.int sk), .val (.int k1), .unset, .unset, .unset, .unset, .unset, .unset, .unset, .unset, .unset, .unset, .unset, .unset, .unset, .unset, .unset, .unset, .unset, .unset] [(.int ((XT.ushr x2 (6 : Int32)) % (7 : Int32)))])
        generalize hof : ((XT.ushr x2 (6 : Int32)) % (7 : Int32)) = oo
        show Go p e below _ s₁ (mkF m 59 #[.val (.long x0), .second, .val (.long x1), .second, .val (.int x2), .val (.long x3), .second, .val (.long x4), .second, .val (.int x5), .val (.int sd), .val (.int si), .val (.int sk), .val (.int k1), .unset, .unset, .unset, .unset, .unset, .unset, .unset, .unset, .unset, .unset, .unset, .unset, .unset, .unset, .unset, .unset, .unset, .unset] [(.int oo)])
        have Ro : 0 ≤ oo.toInt ∧ oo.toInt < 7 := by rw [← hof]; exact own_off x2
        refine Go.of (fun _ k => XS.iconst X0.here hx rfl (hb hby at_59) k) ?_
        show Go p e below _ s₁ (mkF m 60 #[.val (.long x0), .second, .val (.long x1), .second, .val (.int x2), .val (.long x3), .second, .val (.long x4), .second, .val (.int x5), .val (.int sd), .val (.int si), .val (.int sk), .val (.int k1), .unset, .unset, .unset, .unset, .unset, .unset, .unset, .unset, .unset, .unset, .unset, .unset, .unset, .unset, .unset, .unset, .unset, .unset] [(.int (1 : Int32)), (.int oo)])
        refine Go.of (fun _ k => XS.iadd X0.here hx rfl (hb hby at_60) rfl k) ?_
        show Go p e below _ s₁ (mkF m 61 #[.val (.long x0), .second, .val (.long x1), .second, .val (.int x2), .val (.long x3), .second, .val (.long x4), .second, .val (.int x5), .val (.int sd), .val (.int si), .val (.int sk), .val (.int k1), .unset, .unset, .unset, .unset, .unset, .unset, .unset, .unset, .unset, .unset, .unset, .unset, .unset, .unset, .unset, .unset, .unset, .unset] [(.int (oo + (1 : Int32)))])
        refine Go.of (fun _ k => XS.istore X0.here hx rfl (hb hby at_61) rfl (l' := #[.val (.long x0), .second, .val (.long x1), .second, .val (.int x2), .val (.long x3), .second, .val (.long x4), .second, .val (.int x5), .val (.int sd), .val (.int si), .val (.int sk), .val (.int k1), .val (.int (oo + (1 : Int32))), .unset, .unset, .unset, .unset, .unset, .unset, .unset, .unset, .unset, .unset, .unset, .unset, .unset, .unset, .unset, .unset, .unset]) rfl k) ?_
        show Go p e below _ s₁ (mkF m 63 #[.val (.long x0), .second, .val (.long x1), .second, .val (.int x2), .val (.long x3), .second, .val (.long x4), .second, .val (.int x5), .val (.int sd), .val (.int si), .val (.int sk), .val (.int k1), .val (.int (oo + (1 : Int32))), .unset, .unset, .unset, .unset, .unset, .unset, .unset, .unset, .unset, .unset, .unset, .unset, .unset, .unset, .unset, .unset, .unset] [])
        have J81 : ∀ k2 : Int32, (sk = 0 → ¬ k2 = k1) ∧ (¬ sk = 0 → k2 = k1) ∧ (0 ≤ k2.toInt ∧ k2.toInt < 8) → Go p e below (Fine s below room_1 (fun v h L => v = some (.int 1) ∧ Fr n0 L)) s₁ (mkF m 81 #[.val (.long x0), .second, .val (.long x1), .second, .val (.int x2), .val (.long x3), .second, .val (.long x4), .second, .val (.int x5), .val (.int sd), .val (.int si), .val (.int sk), .val (.int k1), .val (.int (oo + (1 : Int32))), .unset, .unset, .unset, .unset, .unset, .unset, .unset, .unset, .unset, .unset, .unset, .unset, .unset, .unset, .unset, .unset, .unset] [(.int k2)]) := by
          intro k2 hk2
          show Go p e below _ s₁ (mkF m 81 #[.val (.long x0), .second, .val (.long x1), .second, .val (.int x2), .val (.long x3), .second, .val (.long x4), .second, .val (.int x5), .val (.int sd), .val (.int si), .val (.int sk), .val (.int k1), .val (.int (oo + (1 : Int32))), .unset, .unset, .unset, .unset, .unset, .unset, .unset, .unset, .unset, .unset, .unset, .unset, .unset, .unset, .unset, .unset, .unset] [(.int k2)])
          refine Go.of (fun _ k => XS.istore X0.here hx rfl (hb hby at_81) rfl (l' := #[.val (.long x0), .second, .val (.long x1), .second, .val (.int x2), .val (.long x3), .second, .val (.long x4), .second, .val (.int x5), .val (.int sd), .val (.int si), .val (.int sk), .val (.int k1), .val (.int (oo + (1 : Int32))), .val (.int k2), .unset, .unset, .unset, .unset, .unset, .unset, .unset, .unset, .unset, .unset, .unset, .unset, .unset, .unset, .unset, .unset]) rfl k) ?_
          show Go p e below _ s₁ (mkF m 83 #[.val (.long x0), .second, .val (.long x1), .second, .val (.int x2), .val (.long x3), .second, .val (.long x4), .second, .val (.int x5), .val (.int sd), .val (.int si), .val (.int sk), .val (.int k1), .val (.int (oo + (1 : Int32))), .val (.int k2), .unset, .unset, .unset, .unset, .unset, .unset, .unset, .unset, .unset, .unset, .unset, .unset, .unset, .unset, .unset, .unset] [])
          have J96 : ∀ dm : Int64, ¬ dm = 0 → Go p e below (Fine s below room_1 (fun v h L => v = some (.int 1) ∧ Fr n0 L)) s₁ (mkF m 96 #[.val (.long x0), .second, .val (.long x1), .second, .val (.int x2), .val (.long x3), .second, .val (.long x4), .second, .val (.int x5), .val (.int sd), .val (.int si), .val (.int sk), .val (.int k1), .val (.int (oo + (1 : Int32))), .val (.int k2), .unset, .unset, .unset, .unset, .unset, .unset, .unset, .unset, .unset, .unset, .unset, .unset, .unset, .unset, .unset, .unset] [(.long dm)]) := by
            intro dm hdm
            show Go p e below _ s₁ (mkF m 96 #[.val (.long x0), .second, .val (.long x1), .second, .val (.int x2), .val (.long x3), .second, .val (.long x4), .second, .val (.int x5), .val (.int sd), .val (.int si), .val (.int sk), .val (.int k1), .val (.int (oo + (1 : Int32))), .val (.int k2), .unset, .unset, .unset, .unset, .unset, .unset, .unset, .unset, .unset, .unset, .unset, .unset, .unset, .unset, .unset, .unset] [(.long dm)])
            refine Go.of (fun _ k => XT.lstore X0.here hx rfl (hb hby at_96) rfl (l' := #[.val (.long x0), .second, .val (.long x1), .second, .val (.int x2), .val (.long x3), .second, .val (.long x4), .second, .val (.int x5), .val (.int sd), .val (.int si), .val (.int sk), .val (.int k1), .val (.int (oo + (1 : Int32))), .val (.int k2), .val (.long dm), .second, .unset, .unset, .unset, .unset, .unset, .unset, .unset, .unset, .unset, .unset, .unset, .unset, .unset, .unset]) rfl k) ?_
            show Go p e below _ s₁ (mkF m 98 #[.val (.long x0), .second, .val (.long x1), .second, .val (.int x2), .val (.long x3), .second, .val (.long x4), .second, .val (.int x5), .val (.int sd), .val (.int si), .val (.int sk), .val (.int k1), .val (.int (oo + (1 : Int32))), .val (.int k2), .val (.long dm), .second, .unset, .unset, .unset, .unset, .unset, .unset, .unset, .unset, .unset, .unset, .unset, .unset, .unset, .unset] [])
            have J111 : ∀ im : Int64, ¬ im = 0 → Go p e below (Fine s below room_1 (fun v h L => v = some (.int 1) ∧ Fr n0 L)) s₁ (mkF m 111 #[.val (.long x0), .second, .val (.long x1), .second, .val (.int x2), .val (.long x3), .second, .val (.long x4), .second, .val (.int x5), .val (.int sd), .val (.int si), .val (.int sk), .val (.int k1), .val (.int (oo + (1 : Int32))), .val (.int k2), .val (.long dm), .second, .unset, .unset, .unset, .unset, .unset, .unset, .unset, .unset, .unset, .unset, .unset, .unset, .unset, .unset] [(.long im)]) := by
              intro im him
              show Go p e below _ s₁ (mkF m 111 #[.val (.long x0), .second, .val (.long x1), .second, .val (.int x2), .val (.long x3), .second, .val (.long x4), .second, .val (.int x5), .val (.int sd), .val (.int si), .val (.int sk), .val (.int k1), .val (.int (oo + (1 : Int32))), .val (.int k2), .val (.long dm), .second, .unset, .unset, .unset, .unset, .unset, .unset, .unset, .unset, .unset, .unset, .unset, .unset, .unset, .unset] [(.long im)])
              refine Go.of (fun _ k => XT.lstore X0.here hx rfl (hb hby at_111) rfl (l' := #[.val (.long x0), .second, .val (.long x1), .second, .val (.int x2), .val (.long x3), .second, .val (.long x4), .second, .val (.int x5), .val (.int sd), .val (.int si), .val (.int sk), .val (.int k1), .val (.int (oo + (1 : Int32))), .val (.int k2), .val (.long dm), .second, .val (.long im), .second, .unset, .unset, .unset, .unset, .unset, .unset, .unset, .unset, .unset, .unset, .unset, .unset]) rfl k) ?_
              show Go p e below _ s₁ (mkF m 113 #[.val (.long x0), .second, .val (.long x1), .second, .val (.int x2), .val (.long x3), .second, .val (.long x4), .second, .val (.int x5), .val (.int sd), .val (.int si), .val (.int sk), .val (.int k1), .val (.int (oo + (1 : Int32))), .val (.int k2), .val (.long dm), .second, .val (.long im), .second, .unset, .unset, .unset, .unset, .unset, .unset, .unset, .unset, .unset, .unset, .unset, .unset] [])
              have J126 : ∀ d2 : Int64, (sd = 0 → ¬ d2 = x0) ∧ (¬ sd = 0 → d2 = x0) → Go p e below (Fine s below room_1 (fun v h L => v = some (.int 1) ∧ Fr n0 L)) s₁ (mkF m 126 #[.val (.long x0), .second, .val (.long x1), .second, .val (.int x2), .val (.long x3), .second, .val (.long x4), .second, .val (.int x5), .val (.int sd), .val (.int si), .val (.int sk), .val (.int k1), .val (.int (oo + (1 : Int32))), .val (.int k2), .val (.long dm), .second, .val (.long im), .second, .unset, .unset, .unset, .unset, .unset, .unset, .unset, .unset, .unset, .unset, .unset, .unset] [(.long d2)]) := by
                intro d2 hd2
                show Go p e below _ s₁ (mkF m 126 #[.val (.long x0), .second, .val (.long x1), .second, .val (.int x2), .val (.long x3), .second, .val (.long x4), .second, .val (.int x5), .val (.int sd), .val (.int si), .val (.int sk), .val (.int k1), .val (.int (oo + (1 : Int32))), .val (.int k2), .val (.long dm), .second, .val (.long im), .second, .unset, .unset, .unset, .unset, .unset, .unset, .unset, .unset, .unset, .unset, .unset, .unset] [(.long d2)])
                refine Go.of (fun _ k => XT.lstore X0.here hx rfl (hb hby at_126) rfl (l' := #[.val (.long x0), .second, .val (.long x1), .second, .val (.int x2), .val (.long x3), .second, .val (.long x4), .second, .val (.int x5), .val (.int sd), .val (.int si), .val (.int sk), .val (.int k1), .val (.int (oo + (1 : Int32))), .val (.int k2), .val (.long dm), .second, .val (.long im), .second, .val (.long d2), .second, .unset, .unset, .unset, .unset, .unset, .unset, .unset, .unset, .unset, .unset]) rfl k) ?_
                show Go p e below _ s₁ (mkF m 128 #[.val (.long x0), .second, .val (.long x1), .second, .val (.int x2), .val (.long x3), .second, .val (.long x4), .second, .val (.int x5), .val (.int sd), .val (.int si), .val (.int sk), .val (.int k1), .val (.int (oo + (1 : Int32))), .val (.int k2), .val (.long dm), .second, .val (.long im), .second, .val (.long d2), .second, .unset, .unset, .unset, .unset, .unset, .unset, .unset, .unset, .unset, .unset] [])
                have J141 : ∀ i2 : Int64, (si = 0 → ¬ i2 = x1) ∧ (¬ si = 0 → i2 = x1) → Go p e below (Fine s below room_1 (fun v h L => v = some (.int 1) ∧ Fr n0 L)) s₁ (mkF m 141 #[.val (.long x0), .second, .val (.long x1), .second, .val (.int x2), .val (.long x3), .second, .val (.long x4), .second, .val (.int x5), .val (.int sd), .val (.int si), .val (.int sk), .val (.int k1), .val (.int (oo + (1 : Int32))), .val (.int k2), .val (.long dm), .second, .val (.long im), .second, .val (.long d2), .second, .unset, .unset, .unset, .unset, .unset, .unset, .unset, .unset, .unset, .unset] [(.long i2)]) := by
                  intro i2 hi2
                  show Go p e below _ s₁ (mkF m 141 #[.val (.long x0), .second, .val (.long x1), .second, .val (.int x2), .val (.long x3), .second, .val (.long x4), .second, .val (.int x5), .val (.int sd), .val (.int si), .val (.int sk), .val (.int k1), .val (.int (oo + (1 : Int32))), .val (.int k2), .val (.long dm), .second, .val (.long im), .second, .val (.long d2), .second, .unset, .unset, .unset, .unset, .unset, .unset, .unset, .unset, .unset, .unset] [(.long i2)])
                  refine Go.of (fun _ k => XT.lstore X0.here hx rfl (hb hby at_141) rfl (l' := #[.val (.long x0), .second, .val (.long x1), .second, .val (.int x2), .val (.long x3), .second, .val (.long x4), .second, .val (.int x5), .val (.int sd), .val (.int si), .val (.int sk), .val (.int k1), .val (.int (oo + (1 : Int32))), .val (.int k2), .val (.long dm), .second, .val (.long im), .second, .val (.long d2), .second, .val (.long i2), .second, .unset, .unset, .unset, .unset, .unset, .unset, .unset, .unset]) rfl k) ?_
                  show Go p e below _ s₁ (mkF m 143 #[.val (.long x0), .second, .val (.long x1), .second, .val (.int x2), .val (.long x3), .second, .val (.long x4), .second, .val (.int x5), .val (.int sd), .val (.int si), .val (.int sk), .val (.int k1), .val (.int (oo + (1 : Int32))), .val (.int k2), .val (.long dm), .second, .val (.long im), .second, .val (.long d2), .second, .val (.long i2), .second, .unset, .unset, .unset, .unset, .unset, .unset, .unset, .unset] [])
                  refine Go.of (fun _ k => XS.iload X0.here hx rfl (hb hby at_143) rfl k) ?_
                  show Go p e below _ s₁ (mkF m 145 #[.val (.long x0), .second, .val (.long x1), .second, .val (.int x2), .val (.long x3), .second, .val (.long x4), .second, .val (.int x5), .val (.int sd), .val (.int si), .val (.int sk), .val (.int k1), .val (.int (oo + (1 : Int32))), .val (.int k2), .val (.long dm), .second, .val (.long im), .second, .val (.long d2), .second, .val (.long i2), .second, .unset, .unset, .unset, .unset, .unset, .unset, .unset, .unset] [(.int x5)])
                  refine Go.of (fun _ k => X0.ldcI hx hown (mvT hZ (hw _ (List.mem_of_getElem? (i := 0) rfl))) rfl (hb hby at_145) k) ?_
                  show Go p e below _ s₁ (mkF m 147 #[.val (.long x0), .second, .val (.long x1), .second, .val (.int x2), .val (.long x3), .second, .val (.long x4), .second, .val (.int x5), .val (.int sd), .val (.int si), .val (.int sk), .val (.int k1), .val (.int (oo + (1 : Int32))), .val (.int k2), .val (.long dm), .second, .val (.long im), .second, .val (.long d2), .second, .val (.long i2), .second, .unset, .unset, .unset, .unset, .unset, .unset, .unset, .unset] [(.int (2147483647 : Int32)), (.int x5)])
                  refine Go.of (fun _ k => XS.iand X0.here hx rfl (hb hby at_147) rfl k) ?_
                  show Go p e below _ s₁ (mkF m 148 #[.val (.long x0), .second, .val (.long x1), .second, .val (.int x2), .val (.long x3), .second, .val (.long x4), .second, .val (.int x5), .val (.int sd), .val (.int si), .val (.int sk), .val (.int k1), .val (.int (oo + (1 : Int32))), .val (.int k2), .val (.long dm), .second, .val (.long im), .second, .val (.long d2), .second, .val (.long i2), .second, .unset, .unset, .unset, .unset, .unset, .unset, .unset, .unset] [(.int (x5 &&& (2147483647 : Int32)))])
                  refine Go.of (fun _ k => X0.ldcI hx hown (mvT hZ (hw _ (List.mem_of_getElem? (i := 1) rfl))) rfl (hb hby at_148) k) ?_
                  show Go p e below _ s₁ (mkF m 150 #[.val (.long x0), .second, .val (.long x1), .second, .val (.int x2), .val (.long x3), .second, .val (.long x4), .second, .val (.int x5), .val (.int sd), .val (.int si), .val (.int sk), .val (.int k1), .val (.int (oo + (1 : Int32))), .val (.int k2), .val (.long dm), .second, .val (.long im), .second, .val (.long d2), .second, .val (.long i2), .second, .unset, .unset, .unset, .unset, .unset, .unset, .unset, .unset] [(.int (1000000000 : Int32)), (.int (x5 &&& (2147483647 : Int32)))])
                  refine Go.of (fun _ k => iremM X0 hx rfl (hb hby at_150) rfl (by decide) k) ?_
                  show Go p e below _ s₁ (mkF m 151 #[.val (.long x0), .second, .val (.long x1), .second, .val (.int x2), .val (.long x3), .second, .val (.long x4), .second, .val (.int x5), .val (.int sd), .val (.int si), .val (.int sk), .val (.int k1), .val (.int (oo + (1 : Int32))), .val (.int k2), .val (.long dm), .second, .val (.long im), .second, .val (.long d2), .second, .val (.long i2), .second, .unset, .unset, .unset, .unset, .unset, .unset, .unset, .unset] [(.int ((x5 &&& (2147483647 : Int32)) % (1000000000 : Int32)))])
                  generalize hn1 : ((x5 &&& (2147483647 : Int32)) % (1000000000 : Int32)) = n1
                  show Go p e below _ s₁ (mkF m 151 #[.val (.long x0), .second, .val (.long x1), .second, .val (.int x2), .val (.long x3), .second, .val (.long x4), .second, .val (.int x5), .val (.int sd), .val (.int si), .val (.int sk), .val (.int k1), .val (.int (oo + (1 : Int32))), .val (.int k2), .val (.long dm), .second, .val (.long im), .second, .val (.long d2), .second, .val (.long i2), .second, .unset, .unset, .unset, .unset, .unset, .unset, .unset, .unset] [(.int n1)])
                  refine Go.of (fun _ k => XS.istore X0.here hx rfl (hb hby at_151) rfl (l' := #[.val (.long x0), .second, .val (.long x1), .second, .val (.int x2), .val (.long x3), .second, .val (.long x4), .second, .val (.int x5), .val (.int sd), .val (.int si), .val (.int sk), .val (.int k1), .val (.int (oo + (1 : Int32))), .val (.int k2), .val (.long dm), .second, .val (.long im), .second, .val (.long d2), .second, .val (.long i2), .second, .val (.int n1), .unset, .unset, .unset, .unset, .unset, .unset, .unset]) rfl k) ?_
                  show Go p e below _ s₁ (mkF m 153 #[.val (.long x0), .second, .val (.long x1), .second, .val (.int x2), .val (.long x3), .second, .val (.long x4), .second, .val (.int x5), .val (.int sd), .val (.int si), .val (.int sk), .val (.int k1), .val (.int (oo + (1 : Int32))), .val (.int k2), .val (.long dm), .second, .val (.long im), .second, .val (.long d2), .second, .val (.long i2), .second, .val (.int n1), .unset, .unset, .unset, .unset, .unset, .unset, .unset] [])
                  refine Go.of (fun _ k => XS.iload X0.here hx rfl (hb hby at_153) rfl k) ?_
                  show Go p e below _ s₁ (mkF m 155 #[.val (.long x0), .second, .val (.long x1), .second, .val (.int x2), .val (.long x3), .second, .val (.long x4), .second, .val (.int x5), .val (.int sd), .val (.int si), .val (.int sk), .val (.int k1), .val (.int (oo + (1 : Int32))), .val (.int k2), .val (.long dm), .second, .val (.long im), .second, .val (.long d2), .second, .val (.long i2), .second, .val (.int n1), .unset, .unset, .unset, .unset, .unset, .unset, .unset] [(.int x5)])
                  refine Go.of (fun _ k => XS.iconst X0.here hx rfl (hb hby at_155) k) ?_
                  show Go p e below _ s₁ (mkF m 156 #[.val (.long x0), .second, .val (.long x1), .second, .val (.int x2), .val (.long x3), .second, .val (.long x4), .second, .val (.int x5), .val (.int sd), .val (.int si), .val (.int sk), .val (.int k1), .val (.int (oo + (1 : Int32))), .val (.int k2), .val (.long dm), .second, .val (.long im), .second, .val (.long d2), .second, .val (.long i2), .second, .val (.int n1), .unset, .unset, .unset, .unset, .unset, .unset, .unset] [(.int (-1 : Int32)), (.int x5)])
                  refine Go.of (fun _ k => XT.ixor X0.here hx rfl (hb hby at_156) rfl k) ?_
                  show Go p e below _ s₁ (mkF m 157 #[.val (.long x0), .second, .val (.long x1), .second, .val (.int x2), .val (.long x3), .second, .val (.long x4), .second, .val (.int x5), .val (.int sd), .val (.int si), .val (.int sk), .val (.int k1), .val (.int (oo + (1 : Int32))), .val (.int k2), .val (.long dm), .second, .val (.long im), .second, .val (.long d2), .second, .val (.long i2), .second, .val (.int n1), .unset, .unset, .unset, .unset, .unset, .unset, .unset] [(.int (x5 ^^^ (-1 : Int32)))])
                  refine Go.of (fun _ k => X0.ldcI hx hown (mvT hZ (hw _ (List.mem_of_getElem? (i := 0) rfl))) rfl (hb hby at_157) k) ?_
                  show Go p e below _ s₁ (mkF m 159 #[.val (.long x0), .second, .val (.long x1), .second, .val (.int x2), .val (.long x3), .second, .val (.long x4), .second, .val (.int x5), .val (.int sd), .val (.int si), .val (.int sk), .val (.int k1), .val (.int (oo + (1 : Int32))), .val (.int k2), .val (.long dm), .second, .val (.long im), .second, .val (.long d2), .second, .val (.long i2), .second, .val (.int n1), .unset, .unset, .unset, .unset, .unset, .unset, .unset] [(.int (2147483647 : Int32)), (.int (x5 ^^^ (-1 : Int32)))])
                  refine Go.of (fun _ k => XS.iand X0.here hx rfl (hb hby at_159) rfl k) ?_
                  show Go p e below _ s₁ (mkF m 160 #[.val (.long x0), .second, .val (.long x1), .second, .val (.int x2), .val (.long x3), .second, .val (.long x4), .second, .val (.int x5), .val (.int sd), .val (.int si), .val (.int sk), .val (.int k1), .val (.int (oo + (1 : Int32))), .val (.int k2), .val (.long dm), .second, .val (.long im), .second, .val (.long d2), .second, .val (.long i2), .second, .val (.int n1), .unset, .unset, .unset, .unset, .unset, .unset, .unset] [(.int ((x5 ^^^ (-1 : Int32)) &&& (2147483647 : Int32)))])
                  refine Go.of (fun _ k => X0.ldcI hx hown (mvT hZ (hw _ (List.mem_of_getElem? (i := 1) rfl))) rfl (hb hby at_160) k) ?_
                  show Go p e below _ s₁ (mkF m 162 #[.val (.long x0), .second, .val (.long x1), .second, .val (.int x2), .val (.long x3), .second, .val (.long x4), .second, .val (.int x5), .val (.int sd), .val (.int si), .val (.int sk), .val (.int k1), .val (.int (oo + (1 : Int32))), .val (.int k2), .val (.long dm), .second, .val (.long im), .second, .val (.long d2), .second, .val (.long i2), .second, .val (.int n1), .unset, .unset, .unset, .unset, .unset, .unset, .unset] [(.int (1000000000 : Int32)), (.int ((x5 ^^^ (-1 : Int32)) &&& (2147483647 : Int32)))])
                  refine Go.of (fun _ k => iremM X0 hx rfl (hb hby at_162) rfl (by decide) k) ?_
                  show Go p e below _ s₁ (mkF m 163 #[.val (.long x0), .second, .val (.long x1), .second, .val (.int x2), .val (.long x3), .second, .val (.long x4), .second, .val (.int x5), .val (.int sd), .val (.int si), .val (.int sk), .val (.int k1), .val (.int (oo + (1 : Int32))), .val (.int k2), .val (.long dm), .second, .val (.long im), .second, .val (.long d2), .second, .val (.long i2), .second, .val (.int n1), .unset, .unset, .unset, .unset, .unset, .unset, .unset] [(.int (((x5 ^^^ (-1 : Int32)) &&& (2147483647 : Int32)) % (1000000000 : Int32)))])
                  generalize hn2 : (((x5 ^^^ (-1 : Int32)) &&& (2147483647 : Int32)) % (1000000000 : Int32)) = n2
                  show Go p e below _ s₁ (mkF m 163 #[.val (.long x0), .second, .val (.long x1), .second, .val (.int x2), .val (.long x3), .second, .val (.long x4), .second, .val (.int x5), .val (.int sd), .val (.int si), .val (.int sk), .val (.int k1), .val (.int (oo + (1 : Int32))), .val (.int k2), .val (.long dm), .second, .val (.long im), .second, .val (.long d2), .second, .val (.long i2), .second, .val (.int n1), .unset, .unset, .unset, .unset, .unset, .unset, .unset] [(.int n2)])
                  have Rk2 := hk2.2.2
                  replace hk2 := And.intro hk2.1 hk2.2.1
                  refine Go.of (fun _ k => XS.istore X0.here hx rfl (hb hby at_163) rfl (l' := #[.val (.long x0), .second, .val (.long x1), .second, .val (.int x2), .val (.long x3), .second, .val (.long x4), .second, .val (.int x5), .val (.int sd), .val (.int si), .val (.int sk), .val (.int k1), .val (.int (oo + (1 : Int32))), .val (.int k2), .val (.long dm), .second, .val (.long im), .second, .val (.long d2), .second, .val (.long i2), .second, .val (.int n1), .val (.int n2), .unset, .unset, .unset, .unset, .unset, .unset]) rfl k) ?_
                  show Go p e below _ s₁ (mkF m 165 #[.val (.long x0), .second, .val (.long x1), .second, .val (.int x2), .val (.long x3), .second, .val (.long x4), .second, .val (.int x5), .val (.int sd), .val (.int si), .val (.int sk), .val (.int k1), .val (.int (oo + (1 : Int32))), .val (.int k2), .val (.long dm), .second, .val (.long im), .second, .val (.long d2), .second, .val (.long i2), .second, .val (.int n1), .val (.int n2), .unset, .unset, .unset, .unset, .unset, .unset] [])
                  obtain ⟨T1, h1, X1, e1, E1, A1, D1, -, st1⟩ := newO X0 hx hZ hown (hw _ (List.mem_of_getElem? (i := 2) rfl)) (hw _ (List.mem_of_getElem? (i := 3) rfl)) (hw _ (List.mem_of_getElem? (i := 4) rfl)) e0 (g := (mkF m 165 #[.val (.long x0), .second, .val (.long x1), .second, .val (.int x2), .val (.long x3), .second, .val (.long x4), .second, .val (.int x5), .val (.int sd), .val (.int si), .val (.int sk), .val (.int k1), .val (.int (oo + (1 : Int32))), .val (.int k2), .val (.long dm), .second, .val (.long im), .second, .val (.long d2), .second, .val (.long i2), .second, .val (.int n1), .val (.int n2), .unset, .unset, .unset, .unset, .unset, .unset] [])) rfl (hb hby at_165) (by decide) (by decide)
                  obtain ⟨b1, g1⟩ : ∃ z, z = h0.size := ⟨_, rfl⟩
                  rw [← g1] at A1 D1 st1
                  have gb1_h0 : h0.size ≤ b1 := by rw [g1]; exact x0_h0.1
                  have F1_kind : Fld Z h1 b1 "com/example/upright_meter/uprightmeter/ObjectStat" "kind" "Lcom/example/upright_meter/uprightmeter/Kind;" .null := D1 (Or.inr (hw _ (List.mem_of_getElem? (i := 24) rfl))) (ty := (.object "com/example/upright_meter/uprightmeter/Kind")) (by decide +kernel)
                  have F1_size : Fld Z h1 b1 "com/example/upright_meter/uprightmeter/ObjectStat" "size" "J" (.long (0 : Int64)) := D1 (Or.inr (hw _ (List.mem_of_getElem? (i := 26) rfl))) (ty := .long) (by decide +kernel)
                  have F1_allocatedBytes : Fld Z h1 b1 "com/example/upright_meter/uprightmeter/ObjectStat" "allocatedBytes" "J" (.long (0 : Int64)) := D1 (Or.inr (hw _ (List.mem_of_getElem? (i := 28) rfl))) (ty := .long) (by decide +kernel)
                  have F1_links : Fld Z h1 b1 "com/example/upright_meter/uprightmeter/ObjectStat" "links" "J" (.long (0 : Int64)) := D1 (Or.inr (hw _ (List.mem_of_getElem? (i := 30) rfl))) (ty := .long) (by decide +kernel)
                  have F1_device : Fld Z h1 b1 "com/example/upright_meter/uprightmeter/ObjectStat" "device" "J" (.long (0 : Int64)) := D1 (Or.inr (hw _ (List.mem_of_getElem? (i := 32) rfl))) (ty := .long) (by decide +kernel)
                  have F1_inode : Fld Z h1 b1 "com/example/upright_meter/uprightmeter/ObjectStat" "inode" "J" (.long (0 : Int64)) := D1 (Or.inr (hw _ (List.mem_of_getElem? (i := 34) rfl))) (ty := .long) (by decide +kernel)
                  have F1_accessSeconds : Fld Z h1 b1 "com/example/upright_meter/uprightmeter/ObjectStat" "accessSeconds" "J" (.long (0 : Int64)) := D1 (Or.inr (hw _ (List.mem_of_getElem? (i := 36) rfl))) (ty := .long) (by decide +kernel)
                  have F1_accessNanos : Fld Z h1 b1 "com/example/upright_meter/uprightmeter/ObjectStat" "accessNanos" "I" (.int (0 : Int32)) := D1 (Or.inr (hw _ (List.mem_of_getElem? (i := 38) rfl))) (ty := .int) (by decide +kernel)
                  have x1_h0 := own_extT x0_h0 E1
                  refine Go.of st1 ?_
                  show Go p e below _ T1 (mkF m 168 #[.val (.long x0), .second, .val (.long x1), .second, .val (.int x2), .val (.long x3), .second, .val (.long x4), .second, .val (.int x5), .val (.int sd), .val (.int si), .val (.int sk), .val (.int k1), .val (.int (oo + (1 : Int32))), .val (.int k2), .val (.long dm), .second, .val (.long im), .second, .val (.long d2), .second, .val (.long i2), .second, .val (.int n1), .val (.int n2), .unset, .unset, .unset, .unset, .unset, .unset] [(.ref b1)])
                  refine Go.of (fun _ k => XS.dup X1.here hx rfl (hb hby at_168) rfl rfl k) ?_
                  show Go p e below _ T1 (mkF m 169 #[.val (.long x0), .second, .val (.long x1), .second, .val (.int x2), .val (.long x3), .second, .val (.long x4), .second, .val (.int x5), .val (.int sd), .val (.int si), .val (.int sk), .val (.int k1), .val (.int (oo + (1 : Int32))), .val (.int k2), .val (.long dm), .second, .val (.long im), .second, .val (.long d2), .second, .val (.long i2), .second, .val (.int n1), .val (.int n2), .unset, .unset, .unset, .unset, .unset, .unset] [(.ref b1), (.ref b1)])
                  refine Go.of (fun _ k => XS.iload X1.here hx rfl (hb hby at_169) rfl k) ?_
                  show Go p e below _ T1 (mkF m 171 #[.val (.long x0), .second, .val (.long x1), .second, .val (.int x2), .val (.long x3), .second, .val (.long x4), .second, .val (.int x5), .val (.int sd), .val (.int si), .val (.int sk), .val (.int k1), .val (.int (oo + (1 : Int32))), .val (.int k2), .val (.long dm), .second, .val (.long im), .second, .val (.long d2), .second, .val (.long i2), .second, .val (.int n1), .val (.int n2), .unset, .unset, .unset, .unset, .unset, .unset] [(.int k1), (.ref b1), (.ref b1)])
                  obtain ⟨T2, X2, e2, st2⟩ := own_pure rfl rfl (own_callSQ X1 hx hZ (y := (⟨"com/example/upright_meter/uprightmeter/ObjectStatIsSameObjectAsPinLaw", "kindOf", "(I)Lcom/example/upright_meter/uprightmeter/Kind;"⟩ : MethodName)) hown (hw _ (List.mem_of_getElem? (i := 5) rfl)) (hw _ (List.mem_of_getElem? (i := 6) rfl)) (hw _ (List.mem_of_getElem? (i := 7) rfl)) (hw _ (List.mem_of_getElem? (i := 8) rfl)) (by decide) (c4 l Z a0 hw w h1 (D.ext x1_h0) k1 _ rfl) (by decide) 2 (by decide) (by decide) (by decide) e1 (g := (mkF m 171 #[.val (.long x0), .second, .val (.long x1), .second, .val (.int x2), .val (.long x3), .second, .val (.long x4), .second, .val (.int x5), .val (.int sd), .val (.int si), .val (.int sk), .val (.int k1), .val (.int (oo + (1 : Int32))), .val (.int k2), .val (.long dm), .second, .val (.long im), .second, .val (.long d2), .second, .val (.long i2), .second, .val (.int n1), .val (.int n2), .unset, .unset, .unset, .unset, .unset, .unset] [(.int k1), (.ref b1), (.ref b1)])) rfl (by rw [hml]; rfl) [(.int k1)] [(.ref b1), (.ref b1)] (lenOf (by decide +kernel : parseMethodDescriptor "(I)Lcom/example/upright_meter/uprightmeter/Kind;" = some ⟨[.int], some (.object "com/example/upright_meter/uprightmeter/Kind")⟩) rfl) rfl (by show 2 * 0 + _ ≤ _; exact Nat.le_of_eq rfl) rfl (hb hby at_171))
                  refine Go.of st2 ?_
                  show Go p e below _ T2 (mkF m 174 #[.val (.long x0), .second, .val (.long x1), .second, .val (.int x2), .val (.long x3), .second, .val (.long x4), .second, .val (.int x5), .val (.int sd), .val (.int si), .val (.int sk), .val (.int k1), .val (.int (oo + (1 : Int32))), .val (.int k2), .val (.long dm), .second, .val (.long im), .second, .val (.long d2), .second, .val (.long i2), .second, .val (.int n1), .val (.int n2), .unset, .unset, .unset, .unset, .unset, .unset] [(.ref (w (kdN k1))), (.ref b1), (.ref b1)])
                  refine Go.of (fun _ k => XT.lload X2.here hx rfl (hb hby at_174) rfl k) ?_
                  show Go p e below _ T2 (mkF m 176 #[.val (.long x0), .second, .val (.long x1), .second, .val (.int x2), .val (.long x3), .second, .val (.long x4), .second, .val (.int x5), .val (.int sd), .val (.int si), .val (.int sk), .val (.int k1), .val (.int (oo + (1 : Int32))), .val (.int k2), .val (.long dm), .second, .val (.long im), .second, .val (.long d2), .second, .val (.long i2), .second, .val (.int n1), .val (.int n2), .unset, .unset, .unset, .unset, .unset, .unset] [(.long x3), (.ref (w (kdN k1))), (.ref b1), (.ref b1)])
                  refine Go.of (fun _ k => XT.lload X2.here hx rfl (hb hby at_176) rfl k) ?_
                  show Go p e below _ T2 (mkF m 178 #[.val (.long x0), .second, .val (.long x1), .second, .val (.int x2), .val (.long x3), .second, .val (.long x4), .second, .val (.int x5), .val (.int sd), .val (.int si), .val (.int sk), .val (.int k1), .val (.int (oo + (1 : Int32))), .val (.int k2), .val (.long dm), .second, .val (.long im), .second, .val (.long d2), .second, .val (.long i2), .second, .val (.int n1), .val (.int n2), .unset, .unset, .unset, .unset, .unset, .unset] [(.long x4), (.long x3), (.ref (w (kdN k1))), (.ref b1), (.ref b1)])
                  refine Go.of (fun _ k => XS.iload X2.here hx rfl (hb hby at_178) rfl k) ?_
                  show Go p e below _ T2 (mkF m 180 #[.val (.long x0), .second, .val (.long x1), .second, .val (.int x2), .val (.long x3), .second, .val (.long x4), .second, .val (.int x5), .val (.int sd), .val (.int si), .val (.int sk), .val (.int k1), .val (.int (oo + (1 : Int32))), .val (.int k2), .val (.long dm), .second, .val (.long im), .second, .val (.long d2), .second, .val (.long i2), .second, .val (.int n1), .val (.int n2), .unset, .unset, .unset, .unset, .unset, .unset] [(.int x5), (.long x4), (.long x3), (.ref (w (kdN k1))), (.ref b1), (.ref b1)])
                  refine Go.of (fun _ k => XT.i2l X2.here hx rfl (hb hby at_180) rfl k) ?_
                  show Go p e below _ T2 (mkF m 181 #[.val (.long x0), .second, .val (.long x1), .second, .val (.int x2), .val (.long x3), .second, .val (.long x4), .second, .val (.int x5), .val (.int sd), .val (.int si), .val (.int sk), .val (.int k1), .val (.int (oo + (1 : Int32))), .val (.int k2), .val (.long dm), .second, .val (.long im), .second, .val (.long d2), .second, .val (.long i2), .second, .val (.int n1), .val (.int n2), .unset, .unset, .unset, .unset, .unset, .unset] [(.long (x5).toInt64), (.long x4), (.long x3), (.ref (w (kdN k1))), (.ref b1), (.ref b1)])
                  refine Go.of (fun _ k => XT.lloadN X2.here hx rfl (hb hby at_181) rfl k) ?_
                  show Go p e below _ T2 (mkF m 182 #[.val (.long x0), .second, .val (.long x1), .second, .val (.int x2), .val (.long x3), .second, .val (.long x4), .second, .val (.int x5), .val (.int sd), .val (.int si), .val (.int sk), .val (.int k1), .val (.int (oo + (1 : Int32))), .val (.int k2), .val (.long dm), .second, .val (.long im), .second, .val (.long d2), .second, .val (.long i2), .second, .val (.int n1), .val (.int n2), .unset, .unset, .unset, .unset, .unset, .unset] [(.long x0), (.long (x5).toInt64), (.long x4), (.long x3), (.ref (w (kdN k1))), (.ref b1), (.ref b1)])
                  refine Go.of (fun _ k => XT.lloadN X2.here hx rfl (hb hby at_182) rfl k) ?_
                  show Go p e below _ T2 (mkF m 183 #[.val (.long x0), .second, .val (.long x1), .second, .val (.int x2), .val (.long x3), .second, .val (.long x4), .second, .val (.int x5), .val (.int sd), .val (.int si), .val (.int sk), .val (.int k1), .val (.int (oo + (1 : Int32))), .val (.int k2), .val (.long dm), .second, .val (.long im), .second, .val (.long d2), .second, .val (.long i2), .second, .val (.int n1), .val (.int n2), .unset, .unset, .unset, .unset, .unset, .unset] [(.long x1), (.long x0), (.long (x5).toInt64), (.long x4), (.long x3), (.ref (w (kdN k1))), (.ref b1), (.ref b1)])
                  refine Go.of (fun _ k => XT.lload X2.here hx rfl (hb hby at_183) rfl k) ?_
                  show Go p e below _ T2 (mkF m 185 #[.val (.long x0), .second, .val (.long x1), .second, .val (.int x2), .val (.long x3), .second, .val (.long x4), .second, .val (.int x5), .val (.int sd), .val (.int si), .val (.int sk), .val (.int k1), .val (.int (oo + (1 : Int32))), .val (.int k2), .val (.long dm), .second, .val (.long im), .second, .val (.long d2), .second, .val (.long i2), .second, .val (.int n1), .val (.int n2), .unset, .unset, .unset, .unset, .unset, .unset] [(.long x4), (.long x1), (.long x0), (.long (x5).toInt64), (.long x4), (.long x3), (.ref (w (kdN k1))), (.ref b1), (.ref b1)])
                  refine Go.of (fun _ k => XS.iload X2.here hx rfl (hb hby at_185) rfl k) ?_
                  show Go p e below _ T2 (mkF m 187 #[.val (.long x0), .second, .val (.long x1), .second, .val (.int x2), .val (.long x3), .second, .val (.long x4), .second, .val (.int x5), .val (.int sd), .val (.int si), .val (.int sk), .val (.int k1), .val (.int (oo + (1 : Int32))), .val (.int k2), .val (.long dm), .second, .val (.long im), .second, .val (.long d2), .second, .val (.long i2), .second, .val (.int n1), .val (.int n2), .unset, .unset, .unset, .unset, .unset, .unset] [(.int n1), (.long x4), (.long x1), (.long x0), (.long (x5).toInt64), (.long x4), (.long x3), (.ref (w (kdN k1))), (.ref b1), (.ref b1)])
                  obtain ⟨T3, L3, v3, X3, q3, st3⟩ := own_callCQ X2 hx hZ (y := (⟨"com/example/upright_meter/uprightmeter/ObjectStat", "<init>", "(Lcom/example/upright_meter/uprightmeter/Kind;JJJJJJI)V"⟩ : MethodName)) rfl hown (hw _ (List.mem_of_getElem? (i := 12) rfl)) (hw _ (List.mem_of_getElem? (i := 13) rfl)) (hw _ (List.mem_of_getElem? (i := 14) rfl)) (hw _ (List.mem_of_getElem? (i := 4) rfl)) (by decide) (c2 l Z a0 hw h1 h0 n0 b1 (w (kdN k1)) x3 x4 (x5).toInt64 x0 x1 x4 n1 E1 (Nat.le_of_eq g1.symm) (Nat.le_trans Z0 gb1_h0) A1 F1_kind F1_size F1_allocatedBytes F1_links F1_device F1_inode F1_accessSeconds F1_accessNanos) (by decide) 1 (by decide) (by decide) (by decide) e2 (b := b1) (g := (mkF m 187 #[.val (.long x0), .second, .val (.long x1), .second, .val (.int x2), .val (.long x3), .second, .val (.long x4), .second, .val (.int x5), .val (.int sd), .val (.int si), .val (.int sk), .val (.int k1), .val (.int (oo + (1 : Int32))), .val (.int k2), .val (.long dm), .second, .val (.long im), .second, .val (.long d2), .second, .val (.long i2), .second, .val (.int n1), .val (.int n2), .unset, .unset, .unset, .unset, .unset, .unset] [(.int n1), (.long x4), (.long x1), (.long x0), (.long (x5).toInt64), (.long x4), (.long x3), (.ref (w (kdN k1))), (.ref b1), (.ref b1)])) rfl (by rw [hml]; rfl) [(.ref (w (kdN k1))), (.long x3), (.long x4), (.long (x5).toInt64), (.long x0), (.long x1), (.long x4), (.int n1)] [(.ref b1)] (lenOf (by decide +kernel : parseMethodDescriptor "(Lcom/example/upright_meter/uprightmeter/Kind;JJJJJJI)V" = some ⟨[(.object "com/example/upright_meter/uprightmeter/Kind"), .long, .long, .long, .long, .long, .long, .int], none⟩) rfl) rfl (by show 2 * 0 + _ ≤ _; exact Nat.le_of_eq rfl) rfl (hb hby at_187)
                  obtain ⟨rfl, M3, y3, Ea3, Fk3, Fd3, Fi3⟩ := q3
                  have N3 := Fr.app N0 M3
                  have x3_h0 := own_extT x0_h0 y3
                  have x0_T3heap := own_ext0 T3.heap
                  refine Go.of st3 ?_
                  show Go p e below _ T3 (mkF m 190 #[.val (.long x0), .second, .val (.long x1), .second, .val (.int x2), .val (.long x3), .second, .val (.long x4), .second, .val (.int x5), .val (.int sd), .val (.int si), .val (.int sk), .val (.int k1), .val (.int (oo + (1 : Int32))), .val (.int k2), .val (.long dm), .second, .val (.long im), .second, .val (.long d2), .second, .val (.long i2), .second, .val (.int n1), .val (.int n2), .unset, .unset, .unset, .unset, .unset, .unset] [(.ref b1)])
                  refine Go.of (fun _ k => XS.astore X3.here hx rfl (hb hby at_190) rfl rfl (l' := #[.val (.long x0), .second, .val (.long x1), .second, .val (.int x2), .val (.long x3), .second, .val (.long x4), .second, .val (.int x5), .val (.int sd), .val (.int si), .val (.int sk), .val (.int k1), .val (.int (oo + (1 : Int32))), .val (.int k2), .val (.long dm), .second, .val (.long im), .second, .val (.long d2), .second, .val (.long i2), .second, .val (.int n1), .val (.int n2), .val (.ref b1), .unset, .unset, .unset, .unset, .unset]) rfl k) ?_
                  show Go p e below _ T3 (mkF m 192 #[.val (.long x0), .second, .val (.long x1), .second, .val (.int x2), .val (.long x3), .second, .val (.long x4), .second, .val (.int x5), .val (.int sd), .val (.int si), .val (.int sk), .val (.int k1), .val (.int (oo + (1 : Int32))), .val (.int k2), .val (.long dm), .second, .val (.long im), .second, .val (.long d2), .second, .val (.long i2), .second, .val (.int n1), .val (.int n2), .val (.ref b1), .unset, .unset, .unset, .unset, .unset] [])
                  obtain ⟨T4, h4, X4, e4, E4, A4, D4, -, st4⟩ := newO X3 hx hZ hown (hw _ (List.mem_of_getElem? (i := 2) rfl)) (hw _ (List.mem_of_getElem? (i := 3) rfl)) (hw _ (List.mem_of_getElem? (i := 4) rfl)) (rfl : T3.heap = T3.heap) (g := (mkF m 192 #[.val (.long x0), .second, .val (.long x1), .second, .val (.int x2), .val (.long x3), .second, .val (.long x4), .second, .val (.int x5), .val (.int sd), .val (.int si), .val (.int sk), .val (.int k1), .val (.int (oo + (1 : Int32))), .val (.int k2), .val (.long dm), .second, .val (.long im), .second, .val (.long d2), .second, .val (.long i2), .second, .val (.int n1), .val (.int n2), .val (.ref b1), .unset, .unset, .unset, .unset, .unset] [])) rfl (hb hby at_192) (by decide) (by decide)
                  obtain ⟨b4, g4⟩ : ∃ z, z = T3.heap.size := ⟨_, rfl⟩
                  rw [← g4] at A4 D4 st4
                  have gb4_h0 : h0.size ≤ b4 := by rw [g4]; exact x3_h0.1
                  have gb4_T3heap : T3.heap.size ≤ b4 := by rw [g4]; exact x0_T3heap.1
                  have F4_kind : Fld Z h4 b4 "com/example/upright_meter/uprightmeter/ObjectStat" "kind" "Lcom/example/upright_meter/uprightmeter/Kind;" .null := D4 (Or.inr (hw _ (List.mem_of_getElem? (i := 24) rfl))) (ty := (.object "com/example/upright_meter/uprightmeter/Kind")) (by decide +kernel)
                  have F4_size : Fld Z h4 b4 "com/example/upright_meter/uprightmeter/ObjectStat" "size" "J" (.long (0 : Int64)) := D4 (Or.inr (hw _ (List.mem_of_getElem? (i := 26) rfl))) (ty := .long) (by decide +kernel)
                  have F4_allocatedBytes : Fld Z h4 b4 "com/example/upright_meter/uprightmeter/ObjectStat" "allocatedBytes" "J" (.long (0 : Int64)) := D4 (Or.inr (hw _ (List.mem_of_getElem? (i := 28) rfl))) (ty := .long) (by decide +kernel)
                  have F4_links : Fld Z h4 b4 "com/example/upright_meter/uprightmeter/ObjectStat" "links" "J" (.long (0 : Int64)) := D4 (Or.inr (hw _ (List.mem_of_getElem? (i := 30) rfl))) (ty := .long) (by decide +kernel)
                  have F4_device : Fld Z h4 b4 "com/example/upright_meter/uprightmeter/ObjectStat" "device" "J" (.long (0 : Int64)) := D4 (Or.inr (hw _ (List.mem_of_getElem? (i := 32) rfl))) (ty := .long) (by decide +kernel)
                  have F4_inode : Fld Z h4 b4 "com/example/upright_meter/uprightmeter/ObjectStat" "inode" "J" (.long (0 : Int64)) := D4 (Or.inr (hw _ (List.mem_of_getElem? (i := 34) rfl))) (ty := .long) (by decide +kernel)
                  have F4_accessSeconds : Fld Z h4 b4 "com/example/upright_meter/uprightmeter/ObjectStat" "accessSeconds" "J" (.long (0 : Int64)) := D4 (Or.inr (hw _ (List.mem_of_getElem? (i := 36) rfl))) (ty := .long) (by decide +kernel)
                  have F4_accessNanos : Fld Z h4 b4 "com/example/upright_meter/uprightmeter/ObjectStat" "accessNanos" "I" (.int (0 : Int32)) := D4 (Or.inr (hw _ (List.mem_of_getElem? (i := 38) rfl))) (ty := .int) (by decide +kernel)
                  have x4_h0 := own_extT x3_h0 E4
                  have x4_T3heap := own_extT x0_T3heap E4
                  refine Go.of st4 ?_
                  show Go p e below _ T4 (mkF m 195 #[.val (.long x0), .second, .val (.long x1), .second, .val (.int x2), .val (.long x3), .second, .val (.long x4), .second, .val (.int x5), .val (.int sd), .val (.int si), .val (.int sk), .val (.int k1), .val (.int (oo + (1 : Int32))), .val (.int k2), .val (.long dm), .second, .val (.long im), .second, .val (.long d2), .second, .val (.long i2), .second, .val (.int n1), .val (.int n2), .val (.ref b1), .unset, .unset, .unset, .unset, .unset] [(.ref b4)])
                  refine Go.of (fun _ k => XS.dup X4.here hx rfl (hb hby at_195) rfl rfl k) ?_
                  show Go p e below _ T4 (mkF m 196 #[.val (.long x0), .second, .val (.long x1), .second, .val (.int x2), .val (.long x3), .second, .val (.long x4), .second, .val (.int x5), .val (.int sd), .val (.int si), .val (.int sk), .val (.int k1), .val (.int (oo + (1 : Int32))), .val (.int k2), .val (.long dm), .second, .val (.long im), .second, .val (.long d2), .second, .val (.long i2), .second, .val (.int n1), .val (.int n2), .val (.ref b1), .unset, .unset, .unset, .unset, .unset] [(.ref b4), (.ref b4)])
                  refine Go.of (fun _ k => XS.iload X4.here hx rfl (hb hby at_196) rfl k) ?_
                  show Go p e below _ T4 (mkF m 198 #[.val (.long x0), .second, .val (.long x1), .second, .val (.int x2), .val (.long x3), .second, .val (.long x4), .second, .val (.int x5), .val (.int sd), .val (.int si), .val (.int sk), .val (.int k1), .val (.int (oo + (1 : Int32))), .val (.int k2), .val (.long dm), .second, .val (.long im), .second, .val (.long d2), .second, .val (.long i2), .second, .val (.int n1), .val (.int n2), .val (.ref b1), .unset, .unset, .unset, .unset, .unset] [(.int k2), (.ref b4), (.ref b4)])
                  obtain ⟨T5, X5, e5, st5⟩ := own_pure rfl rfl (own_callSQ X4 hx hZ (y := (⟨"com/example/upright_meter/uprightmeter/ObjectStatIsSameObjectAsPinLaw", "kindOf", "(I)Lcom/example/upright_meter/uprightmeter/Kind;"⟩ : MethodName)) hown (hw _ (List.mem_of_getElem? (i := 5) rfl)) (hw _ (List.mem_of_getElem? (i := 6) rfl)) (hw _ (List.mem_of_getElem? (i := 7) rfl)) (hw _ (List.mem_of_getElem? (i := 8) rfl)) (by decide) (c4 l Z a0 hw w h4 (D.ext x4_h0) k2 _ rfl) (by decide) 2 (by decide) (by decide) (by decide) e4 (g := (mkF m 198 #[.val (.long x0), .second, .val (.long x1), .second, .val (.int x2), .val (.long x3), .second, .val (.long x4), .second, .val (.int x5), .val (.int sd), .val (.int si), .val (.int sk), .val (.int k1), .val (.int (oo + (1 : Int32))), .val (.int k2), .val (.long dm), .second, .val (.long im), .second, .val (.long d2), .second, .val (.long i2), .second, .val (.int n1), .val (.int n2), .val (.ref b1), .unset, .unset, .unset, .unset, .unset] [(.int k2), (.ref b4), (.ref b4)])) rfl (by rw [hml]; rfl) [(.int k2)] [(.ref b4), (.ref b4)] (lenOf (by decide +kernel : parseMethodDescriptor "(I)Lcom/example/upright_meter/uprightmeter/Kind;" = some ⟨[.int], some (.object "com/example/upright_meter/uprightmeter/Kind")⟩) rfl) rfl (by show 2 * 0 + _ ≤ _; exact Nat.le_of_eq rfl) rfl (hb hby at_198))
                  refine Go.of st5 ?_
                  show Go p e below _ T5 (mkF m 201 #[.val (.long x0), .second, .val (.long x1), .second, .val (.int x2), .val (.long x3), .second, .val (.long x4), .second, .val (.int x5), .val (.int sd), .val (.int si), .val (.int sk), .val (.int k1), .val (.int (oo + (1 : Int32))), .val (.int k2), .val (.long dm), .second, .val (.long im), .second, .val (.long d2), .second, .val (.long i2), .second, .val (.int n1), .val (.int n2), .val (.ref b1), .unset, .unset, .unset, .unset, .unset] [(.ref (w (kdN k2))), (.ref b4), (.ref b4)])
                  refine Go.of (fun _ k => XT.lload X5.here hx rfl (hb hby at_201) rfl k) ?_
                  show Go p e below _ T5 (mkF m 203 #[.val (.long x0), .second, .val (.long x1), .second, .val (.int x2), .val (.long x3), .second, .val (.long x4), .second, .val (.int x5), .val (.int sd), .val (.int si), .val (.int sk), .val (.int k1), .val (.int (oo + (1 : Int32))), .val (.int k2), .val (.long dm), .second, .val (.long im), .second, .val (.long d2), .second, .val (.long i2), .second, .val (.int n1), .val (.int n2), .val (.ref b1), .unset, .unset, .unset, .unset, .unset] [(.long x4), (.ref (w (kdN k2))), (.ref b4), (.ref b4)])
                  refine Go.of (fun _ k => XT.lload X5.here hx rfl (hb hby at_203) rfl k) ?_
                  show Go p e below _ T5 (mkF m 205 #[.val (.long x0), .second, .val (.long x1), .second, .val (.int x2), .val (.long x3), .second, .val (.long x4), .second, .val (.int x5), .val (.int sd), .val (.int si), .val (.int sk), .val (.int k1), .val (.int (oo + (1 : Int32))), .val (.int k2), .val (.long dm), .second, .val (.long im), .second, .val (.long d2), .second, .val (.long i2), .second, .val (.int n1), .val (.int n2), .val (.ref b1), .unset, .unset, .unset, .unset, .unset] [(.long x3), (.long x4), (.ref (w (kdN k2))), (.ref b4), (.ref b4)])
                  refine Go.of (fun _ k => XS.iload X5.here hx rfl (hb hby at_205) rfl k) ?_
                  show Go p e below _ T5 (mkF m 207 #[.val (.long x0), .second, .val (.long x1), .second, .val (.int x2), .val (.long x3), .second, .val (.long x4), .second, .val (.int x5), .val (.int sd), .val (.int si), .val (.int sk), .val (.int k1), .val (.int (oo + (1 : Int32))), .val (.int k2), .val (.long dm), .second, .val (.long im), .second, .val (.long d2), .second, .val (.long i2), .second, .val (.int n1), .val (.int n2), .val (.ref b1), .unset, .unset, .unset, .unset, .unset] [(.int x5), (.long x3), (.long x4), (.ref (w (kdN k2))), (.ref b4), (.ref b4)])
                  refine Go.of (fun _ k => XT.i2l X5.here hx rfl (hb hby at_207) rfl k) ?_
                  show Go p e below _ T5 (mkF m 208 #[.val (.long x0), .second, .val (.long x1), .second, .val (.int x2), .val (.long x3), .second, .val (.long x4), .second, .val (.int x5), .val (.int sd), .val (.int si), .val (.int sk), .val (.int k1), .val (.int (oo + (1 : Int32))), .val (.int k2), .val (.long dm), .second, .val (.long im), .second, .val (.long d2), .second, .val (.long i2), .second, .val (.int n1), .val (.int n2), .val (.ref b1), .unset, .unset, .unset, .unset, .unset] [(.long (x5).toInt64), (.long x3), (.long x4), (.ref (w (kdN k2))), (.ref b4), (.ref b4)])
                  refine Go.of (fun _ k => X5.ldc2J hx hown (mvT hZ (hw _ (List.mem_of_getElem? (i := 41) rfl))) rfl (hb hby at_208) k) ?_
                  show Go p e below _ T5 (mkF m 211 #[.val (.long x0), .second, .val (.long x1), .second, .val (.int x2), .val (.long x3), .second, .val (.long x4), .second, .val (.int x5), .val (.int sd), .val (.int si), .val (.int sk), .val (.int k1), .val (.int (oo + (1 : Int32))), .val (.int k2), .val (.long dm), .second, .val (.long im), .second, .val (.long d2), .second, .val (.long i2), .second, .val (.int n1), .val (.int n2), .val (.ref b1), .unset, .unset, .unset, .unset, .unset] [(.long (-1 : Int64)), (.long (x5).toInt64), (.long x3), (.long x4), (.ref (w (kdN k2))), (.ref b4), (.ref b4)])
                  refine Go.of (fun _ k => XT.lxor X5.here hx rfl (hb hby at_211) rfl k) ?_
                  show Go p e below _ T5 (mkF m 212 #[.val (.long x0), .second, .val (.long x1), .second, .val (.int x2), .val (.long x3), .second, .val (.long x4), .second, .val (.int x5), .val (.int sd), .val (.int si), .val (.int sk), .val (.int k1), .val (.int (oo + (1 : Int32))), .val (.int k2), .val (.long dm), .second, .val (.long im), .second, .val (.long d2), .second, .val (.long i2), .second, .val (.int n1), .val (.int n2), .val (.ref b1), .unset, .unset, .unset, .unset, .unset] [(.long ((x5).toInt64 ^^^ (-1 : Int64))), (.long x3), (.long x4), (.ref (w (kdN k2))), (.ref b4), (.ref b4)])
                  refine Go.of (fun _ k => XT.lload X5.here hx rfl (hb hby at_212) rfl k) ?_
                  show Go p e below _ T5 (mkF m 214 #[.val (.long x0), .second, .val (.long x1), .second, .val (.int x2), .val (.long x3), .second, .val (.long x4), .second, .val (.int x5), .val (.int sd), .val (.int si), .val (.int sk), .val (.int k1), .val (.int (oo + (1 : Int32))), .val (.int k2), .val (.long dm), .second, .val (.long im), .second, .val (.long d2), .second, .val (.long i2), .second, .val (.int n1), .val (.int n2), .val (.ref b1), .unset, .unset, .unset, .unset, .unset] [(.long d2), (.long ((x5).toInt64 ^^^ (-1 : Int64))), (.long x3), (.long x4), (.ref (w (kdN k2))), (.ref b4), (.ref b4)])
                  refine Go.of (fun _ k => XT.lload X5.here hx rfl (hb hby at_214) rfl k) ?_
                  show Go p e below _ T5 (mkF m 216 #[.val (.long x0), .second, .val (.long x1), .second, .val (.int x2), .val (.long x3), .second, .val (.long x4), .second, .val (.int x5), .val (.int sd), .val (.int si), .val (.int sk), .val (.int k1), .val (.int (oo + (1 : Int32))), .val (.int k2), .val (.long dm), .second, .val (.long im), .second, .val (.long d2), .second, .val (.long i2), .second, .val (.int n1), .val (.int n2), .val (.ref b1), .unset, .unset, .unset, .unset, .unset] [(.long i2), (.long d2), (.long ((x5).toInt64 ^^^ (-1 : Int64))), (.long x3), (.long x4), (.ref (w (kdN k2))), (.ref b4), (.ref b4)])
                  refine Go.of (fun _ k => XT.lload X5.here hx rfl (hb hby at_216) rfl k) ?_
                  show Go p e below _ T5 (mkF m 218 #[.val (.long x0), .second, .val (.long x1), .second, .val (.int x2), .val (.long x3), .second, .val (.long x4), .second, .val (.int x5), .val (.int sd), .val (.int si), .val (.int sk), .val (.int k1), .val (.int (oo + (1 : Int32))), .val (.int k2), .val (.long dm), .second, .val (.long im), .second, .val (.long d2), .second, .val (.long i2), .second, .val (.int n1), .val (.int n2), .val (.ref b1), .unset, .unset, .unset, .unset, .unset] [(.long x3), (.long i2), (.long d2), (.long ((x5).toInt64 ^^^ (-1 : Int64))), (.long x3), (.long x4), (.ref (w (kdN k2))), (.ref b4), (.ref b4)])
                  refine Go.of (fun _ k => X5.ldc2J hx hown (mvT hZ (hw _ (List.mem_of_getElem? (i := 41) rfl))) rfl (hb hby at_218) k) ?_
                  show Go p e below _ T5 (mkF m 221 #[.val (.long x0), .second, .val (.long x1), .second, .val (.int x2), .val (.long x3), .second, .val (.long x4), .second, .val (.int x5), .val (.int sd), .val (.int si), .val (.int sk), .val (.int k1), .val (.int (oo + (1 : Int32))), .val (.int k2), .val (.long dm), .second, .val (.long im), .second, .val (.long d2), .second, .val (.long i2), .second, .val (.int n1), .val (.int n2), .val (.ref b1), .unset, .unset, .unset, .unset, .unset] [(.long (-1 : Int64)), (.long x3), (.long i2), (.long d2), (.long ((x5).toInt64 ^^^ (-1 : Int64))), (.long x3), (.long x4), (.ref (w (kdN k2))), (.ref b4), (.ref b4)])
                  refine Go.of (fun _ k => XT.lxor X5.here hx rfl (hb hby at_221) rfl k) ?_
                  show Go p e below _ T5 (mkF m 222 #[.val (.long x0), .second, .val (.long x1), .second, .val (.int x2), .val (.long x3), .second, .val (.long x4), .second, .val (.int x5), .val (.int sd), .val (.int si), .val (.int sk), .val (.int k1), .val (.int (oo + (1 : Int32))), .val (.int k2), .val (.long dm), .second, .val (.long im), .second, .val (.long d2), .second, .val (.long i2), .second, .val (.int n1), .val (.int n2), .val (.ref b1), .unset, .unset, .unset, .unset, .unset] [(.long (x3 ^^^ (-1 : Int64))), (.long i2), (.long d2), (.long ((x5).toInt64 ^^^ (-1 : Int64))), (.long x3), (.long x4), (.ref (w (kdN k2))), (.ref b4), (.ref b4)])
                  refine Go.of (fun _ k => XS.iload X5.here hx rfl (hb hby at_222) rfl k) ?_
                  show Go p e below _ T5 (mkF m 224 #[.val (.long x0), .second, .val (.long x1), .second, .val (.int x2), .val (.long x3), .second, .val (.long x4), .second, .val (.int x5), .val (.int sd), .val (.int si), .val (.int sk), .val (.int k1), .val (.int (oo + (1 : Int32))), .val (.int k2), .val (.long dm), .second, .val (.long im), .second, .val (.long d2), .second, .val (.long i2), .second, .val (.int n1), .val (.int n2), .val (.ref b1), .unset, .unset, .unset, .unset, .unset] [(.int n2), (.long (x3 ^^^ (-1 : Int64))), (.long i2), (.long d2), (.long ((x5).toInt64 ^^^ (-1 : Int64))), (.long x3), (.long x4), (.ref (w (kdN k2))), (.ref b4), (.ref b4)])
                  obtain ⟨T6, L6, v6, X6, q6, st6⟩ := own_callCQ X5 hx hZ (y := (⟨"com/example/upright_meter/uprightmeter/ObjectStat", "<init>", "(Lcom/example/upright_meter/uprightmeter/Kind;JJJJJJI)V"⟩ : MethodName)) rfl hown (hw _ (List.mem_of_getElem? (i := 12) rfl)) (hw _ (List.mem_of_getElem? (i := 13) rfl)) (hw _ (List.mem_of_getElem? (i := 14) rfl)) (hw _ (List.mem_of_getElem? (i := 4) rfl)) (by decide) (c2 l Z a0 hw h4 T3.heap n0 b4 (w (kdN k2)) x4 x3 ((x5).toInt64 ^^^ (-1 : Int64)) d2 i2 (x3 ^^^ (-1 : Int64)) n2 E4 (Nat.le_of_eq g4.symm) (Nat.le_trans Z0 gb4_h0) A4 F4_kind F4_size F4_allocatedBytes F4_links F4_device F4_inode F4_accessSeconds F4_accessNanos) (by decide) 1 (by decide) (by decide) (by decide) e5 (b := b4) (g := (mkF m 224 #[.val (.long x0), .second, .val (.long x1), .second, .val (.int x2), .val (.long x3), .second, .val (.long x4), .second, .val (.int x5), .val (.int sd), .val (.int si), .val (.int sk), .val (.int k1), .val (.int (oo + (1 : Int32))), .val (.int k2), .val (.long dm), .second, .val (.long im), .second, .val (.long d2), .second, .val (.long i2), .second, .val (.int n1), .val (.int n2), .val (.ref b1), .unset, .unset, .unset, .unset, .unset] [(.int n2), (.long (x3 ^^^ (-1 : Int64))), (.long i2), (.long d2), (.long ((x5).toInt64 ^^^ (-1 : Int64))), (.long x3), (.long x4), (.ref (w (kdN k2))), (.ref b4), (.ref b4)])) rfl (by rw [hml]; rfl) [(.ref (w (kdN k2))), (.long x4), (.long x3), (.long ((x5).toInt64 ^^^ (-1 : Int64))), (.long d2), (.long i2), (.long (x3 ^^^ (-1 : Int64))), (.int n2)] [(.ref b4)] (lenOf (by decide +kernel : parseMethodDescriptor "(Lcom/example/upright_meter/uprightmeter/Kind;JJJJJJI)V" = some ⟨[(.object "com/example/upright_meter/uprightmeter/Kind"), .long, .long, .long, .long, .long, .long, .int], none⟩) rfl) rfl (by show 2 * 0 + _ ≤ _; exact Nat.le_of_eq rfl) rfl (hb hby at_224)
                  obtain ⟨rfl, M6, y6, Ea6, Fk6, Fd6, Fi6⟩ := q6
                  have N6 := Fr.app N3 M6
                  have x6_h0 := own_extT x3_h0 y6
                  have x6_T3heap := own_extT x0_T3heap y6
                  have x0_T6heap := own_ext0 T6.heap
                  refine Go.of st6 ?_
                  show Go p e below _ T6 (mkF m 227 #[.val (.long x0), .second, .val (.long x1), .second, .val (.int x2), .val (.long x3), .second, .val (.long x4), .second, .val (.int x5), .val (.int sd), .val (.int si), .val (.int sk), .val (.int k1), .val (.int (oo + (1 : Int32))), .val (.int k2), .val (.long dm), .second, .val (.long im), .second, .val (.long d2), .second, .val (.long i2), .second, .val (.int n1), .val (.int n2), .val (.ref b1), .unset, .unset, .unset, .unset, .unset] [(.ref b4)])
                  refine Go.of (fun _ k => XS.astore X6.here hx rfl (hb hby at_227) rfl rfl (l' := #[.val (.long x0), .second, .val (.long x1), .second, .val (.int x2), .val (.long x3), .second, .val (.long x4), .second, .val (.int x5), .val (.int sd), .val (.int si), .val (.int sk), .val (.int k1), .val (.int (oo + (1 : Int32))), .val (.int k2), .val (.long dm), .second, .val (.long im), .second, .val (.long d2), .second, .val (.long i2), .second, .val (.int n1), .val (.int n2), .val (.ref b1), .val (.ref b4), .unset, .unset, .unset, .unset]) rfl k) ?_
                  show Go p e below _ T6 (mkF m 229 #[.val (.long x0), .second, .val (.long x1), .second, .val (.int x2), .val (.long x3), .second, .val (.long x4), .second, .val (.int x5), .val (.int sd), .val (.int si), .val (.int sk), .val (.int k1), .val (.int (oo + (1 : Int32))), .val (.int k2), .val (.long dm), .second, .val (.long im), .second, .val (.long d2), .second, .val (.long i2), .second, .val (.int n1), .val (.int n2), .val (.ref b1), .val (.ref b4), .unset, .unset, .unset, .unset] [])
                  refine Go.of (fun _ k => XS.iload X6.here hx rfl (hb hby at_229) rfl k) ?_
                  show Go p e below _ T6 (mkF m 231 #[.val (.long x0), .second, .val (.long x1), .second, .val (.int x2), .val (.long x3), .second, .val (.long x4), .second, .val (.int x5), .val (.int sd), .val (.int si), .val (.int sk), .val (.int k1), .val (.int (oo + (1 : Int32))), .val (.int k2), .val (.long dm), .second, .val (.long im), .second, .val (.long d2), .second, .val (.long i2), .second, .val (.int n1), .val (.int n2), .val (.ref b1), .val (.ref b4), .unset, .unset, .unset, .unset] [(.int sd)])
                  by_cases hc231_7 : sd = (0 : Int32)
                  ·
                    refine Go.of (fun _ k => XS.ifYes X6.here hx rfl (pc0 := 231) (pc' := 248) rfl (hb hby at_231) rfl (XT.i0_eq_t hc231_7) (by decide) (by decide) k) ?_
                    show Go p e below _ T6 (mkF m 248 #[.val (.long x0), .second, .val (.long x1), .second, .val (.int x2), .val (.long x3), .second, .val (.long x4), .second, .val (.int x5), .val (.int sd), .val (.int si), .val (.int sk), .val (.int k1), .val (.int (oo + (1 : Int32))), .val (.int k2), .val (.long dm), .second, .val (.long im), .second, .val (.long d2), .second, .val (.long i2), .second, .val (.int n1), .val (.int n2), .val (.ref b1), .val (.ref b4), .unset, .unset, .unset, .unset] [])
                    refine Go.of (fun _ k => XS.iconst X6.here hx rfl (hb hby at_248) k) ?_
                    show Go p e below _ T6 (mkF m 249 #[.val (.long x0), .second, .val (.long x1), .second, .val (.int x2), .val (.long x3), .second, .val (.long x4), .second, .val (.int x5), .val (.int sd), .val (.int si), .val (.int sk), .val (.int k1), .val (.int (oo + (1 : Int32))), .val (.int k2), .val (.long dm), .second, .val (.long im), .second, .val (.long d2), .second, .val (.long i2), .second, .val (.int n1), .val (.int n2), .val (.ref b1), .val (.ref b4), .unset, .unset, .unset, .unset] [(.int (0 : Int32))])
                    refine Go.of (fun _ k => XS.istore X6.here hx rfl (hb hby at_249) rfl (l' := #[.val (.long x0), .second, .val (.long x1), .second, .val (.int x2), .val (.long x3), .second, .val (.long x4), .second, .val (.int x5), .val (.int sd), .val (.int si), .val (.int sk), .val (.int k1), .val (.int (oo + (1 : Int32))), .val (.int k2), .val (.long dm), .second, .val (.long im), .second, .val (.long d2), .second, .val (.long i2), .second, .val (.int n1), .val (.int n2), .val (.ref b1), .val (.ref b4), .val (.int (0 : Int32)), .unset, .unset, .unset]) rfl k) ?_
                    show Go p e below _ T6 (mkF m 251 #[.val (.long x0), .second, .val (.long x1), .second, .val (.int x2), .val (.long x3), .second, .val (.long x4), .second, .val (.int x5), .val (.int sd), .val (.int si), .val (.int sk), .val (.int k1), .val (.int (oo + (1 : Int32))), .val (.int k2), .val (.long dm), .second, .val (.long im), .second, .val (.long d2), .second, .val (.long i2), .second, .val (.int n1), .val (.int n2), .val (.ref b1), .val (.ref b4), .val (.int (0 : Int32)), .unset, .unset, .unset] [])
                    refine Go.of (fun _ k => XS.aload X6.here hx rfl (hb hby at_251) rfl rfl k) ?_
                    show Go p e below _ T6 (mkF m 253 #[.val (.long x0), .second, .val (.long x1), .second, .val (.int x2), .val (.long x3), .second, .val (.long x4), .second, .val (.int x5), .val (.int sd), .val (.int si), .val (.int sk), .val (.int k1), .val (.int (oo + (1 : Int32))), .val (.int k2), .val (.long dm), .second, .val (.long im), .second, .val (.long d2), .second, .val (.long i2), .second, .val (.int n1), .val (.int n2), .val (.ref b1), .val (.ref b4), .val (.int (0 : Int32)), .unset, .unset, .unset] [(.ref b1)])
                    refine Go.of (fun _ k => XS.aload X6.here hx rfl (hb hby at_253) rfl rfl k) ?_
                    show Go p e below _ T6 (mkF m 255 #[.val (.long x0), .second, .val (.long x1), .second, .val (.int x2), .val (.long x3), .second, .val (.long x4), .second, .val (.int x5), .val (.int sd), .val (.int si), .val (.int sk), .val (.int k1), .val (.int (oo + (1 : Int32))), .val (.int k2), .val (.long dm), .second, .val (.long im), .second, .val (.long d2), .second, .val (.long i2), .second, .val (.int n1), .val (.int n2), .val (.ref b1), .val (.ref b4), .val (.int (0 : Int32)), .unset, .unset, .unset] [(.ref b4), (.ref b1)])
                    obtain ⟨T8, X8, e8, st8⟩ := own_pure rfl rfl (own_callVQ X6 hx hZ (y := (⟨"com/example/upright_meter/uprightmeter/ObjectStat", "isSameObjectAs", "(Lcom/example/upright_meter/uprightmeter/ObjectStat;)Z"⟩ : MethodName)) hown (hw _ (List.mem_of_getElem? (i := 42) rfl)) (hw _ (List.mem_of_getElem? (i := 43) rfl)) (hw _ (List.mem_of_getElem? (i := 45) rfl)) (hw _ (List.mem_of_getElem? (i := 45) rfl)) (hw _ (List.mem_of_getElem? (i := 44) rfl)) (hw _ (List.mem_of_getElem? (i := 46) rfl)) (hw _ (List.mem_of_getElem? (i := 4) rfl)) (by decide) (c3 l Z a0 hw T6.heap b1 b4 (w (kdN k1)) (w (kdN k2)) x0 d2 x1 i2 (Fd3.ext x6_T3heap) (Fi3.ext x6_T3heap) (Fk3.ext x6_T3heap) Fd6 Fi6 Fk6 (0 : Int32) (if_neg (fun q => (hd2.1 hc231_7) (Eq.symm q)))) (by decide) 0 (by decide) (by decide) (by decide) (rfl : T6.heap = T6.heap) (Ea3.ext x6_T3heap) (g := (mkF m 255 #[.val (.long x0), .second, .val (.long x1), .second, .val (.int x2), .val (.long x3), .second, .val (.long x4), .second, .val (.int x5), .val (.int sd), .val (.int si), .val (.int sk), .val (.int k1), .val (.int (oo + (1 : Int32))), .val (.int k2), .val (.long dm), .second, .val (.long im), .second, .val (.long d2), .second, .val (.long i2), .second, .val (.int n1), .val (.int n2), .val (.ref b1), .val (.ref b4), .val (.int (0 : Int32)), .unset, .unset, .unset] [(.ref b4), (.ref b1)])) rfl (by rw [hml]; rfl) [(.ref b4)] [] (lenOf (by decide +kernel : parseMethodDescriptor "(Lcom/example/upright_meter/uprightmeter/ObjectStat;)Z" = some ⟨[(.object "com/example/upright_meter/uprightmeter/ObjectStat")], some .boolean⟩) rfl) rfl (by show 2 * 0 + _ ≤ _; exact Nat.le_of_eq rfl) rfl (hb hby at_255))
                    refine Go.of st8 ?_
                    show Go p e below _ T8 (mkF m 258 #[.val (.long x0), .second, .val (.long x1), .second, .val (.int x2), .val (.long x3), .second, .val (.long x4), .second, .val (.int x5), .val (.int sd), .val (.int si), .val (.int sk), .val (.int k1), .val (.int (oo + (1 : Int32))), .val (.int k2), .val (.long dm), .second, .val (.long im), .second, .val (.long d2), .second, .val (.long i2), .second, .val (.int n1), .val (.int n2), .val (.ref b1), .val (.ref b4), .val (.int (0 : Int32)), .unset, .unset, .unset] [(.int (0 : Int32))])
                    refine Go.of (fun _ k => XS.istore X8.here hx rfl (hb hby at_258) rfl (l' := #[.val (.long x0), .second, .val (.long x1), .second, .val (.int x2), .val (.long x3), .second, .val (.long x4), .second, .val (.int x5), .val (.int sd), .val (.int si), .val (.int sk), .val (.int k1), .val (.int (oo + (1 : Int32))), .val (.int k2), .val (.long dm), .second, .val (.long im), .second, .val (.long d2), .second, .val (.long i2), .second, .val (.int n1), .val (.int n2), .val (.ref b1), .val (.ref b4), .val (.int (0 : Int32)), .val (.int (0 : Int32)), .unset, .unset]) rfl k) ?_
                    show Go p e below _ T8 (mkF m 260 #[.val (.long x0), .second, .val (.long x1), .second, .val (.int x2), .val (.long x3), .second, .val (.long x4), .second, .val (.int x5), .val (.int sd), .val (.int si), .val (.int sk), .val (.int k1), .val (.int (oo + (1 : Int32))), .val (.int k2), .val (.long dm), .second, .val (.long im), .second, .val (.long d2), .second, .val (.long i2), .second, .val (.int n1), .val (.int n2), .val (.ref b1), .val (.ref b4), .val (.int (0 : Int32)), .val (.int (0 : Int32)), .unset, .unset] [])
                    refine Go.of (fun _ k => XS.aload X8.here hx rfl (hb hby at_260) rfl rfl k) ?_
                    show Go p e below _ T8 (mkF m 262 #[.val (.long x0), .second, .val (.long x1), .second, .val (.int x2), .val (.long x3), .second, .val (.long x4), .second, .val (.int x5), .val (.int sd), .val (.int si), .val (.int sk), .val (.int k1), .val (.int (oo + (1 : Int32))), .val (.int k2), .val (.long dm), .second, .val (.long im), .second, .val (.long d2), .second, .val (.long i2), .second, .val (.int n1), .val (.int n2), .val (.ref b1), .val (.ref b4), .val (.int (0 : Int32)), .val (.int (0 : Int32)), .unset, .unset] [(.ref b4)])
                    refine Go.of (fun _ k => XS.aload X8.here hx rfl (hb hby at_262) rfl rfl k) ?_
                    show Go p e below _ T8 (mkF m 264 #[.val (.long x0), .second, .val (.long x1), .second, .val (.int x2), .val (.long x3), .second, .val (.long x4), .second, .val (.int x5), .val (.int sd), .val (.int si), .val (.int sk), .val (.int k1), .val (.int (oo + (1 : Int32))), .val (.int k2), .val (.long dm), .second, .val (.long im), .second, .val (.long d2), .second, .val (.long i2), .second, .val (.int n1), .val (.int n2), .val (.ref b1), .val (.ref b4), .val (.int (0 : Int32)), .val (.int (0 : Int32)), .unset, .unset] [(.ref b1), (.ref b4)])
                    obtain ⟨T9, X9, e9, st9⟩ := own_pure rfl rfl (own_callVQ X8 hx hZ (y := (⟨"com/example/upright_meter/uprightmeter/ObjectStat", "isSameObjectAs", "(Lcom/example/upright_meter/uprightmeter/ObjectStat;)Z"⟩ : MethodName)) hown (hw _ (List.mem_of_getElem? (i := 42) rfl)) (hw _ (List.mem_of_getElem? (i := 43) rfl)) (hw _ (List.mem_of_getElem? (i := 45) rfl)) (hw _ (List.mem_of_getElem? (i := 45) rfl)) (hw _ (List.mem_of_getElem? (i := 44) rfl)) (hw _ (List.mem_of_getElem? (i := 46) rfl)) (hw _ (List.mem_of_getElem? (i := 4) rfl)) (by decide) (c3 l Z a0 hw T6.heap b4 b1 (w (kdN k2)) (w (kdN k1)) d2 x0 i2 x1 Fd6 Fi6 Fk6 (Fd3.ext x6_T3heap) (Fi3.ext x6_T3heap) (Fk3.ext x6_T3heap) (0 : Int32) (if_neg (hd2.1 hc231_7))) (by decide) 0 (by decide) (by decide) (by decide) e8 Ea6 (g := (mkF m 264 #[.val (.long x0), .second, .val (.long x1), .second, .val (.int x2), .val (.long x3), .second, .val (.long x4), .second, .val (.int x5), .val (.int sd), .val (.int si), .val (.int sk), .val (.int k1), .val (.int (oo + (1 : Int32))), .val (.int k2), .val (.long dm), .second, .val (.long im), .second, .val (.long d2), .second, .val (.long i2), .second, .val (.int n1), .val (.int n2), .val (.ref b1), .val (.ref b4), .val (.int (0 : Int32)), .val (.int (0 : Int32)), .unset, .unset] [(.ref b1), (.ref b4)])) rfl (by rw [hml]; rfl) [(.ref b1)] [] (lenOf (by decide +kernel : parseMethodDescriptor "(Lcom/example/upright_meter/uprightmeter/ObjectStat;)Z" = some ⟨[(.object "com/example/upright_meter/uprightmeter/ObjectStat")], some .boolean⟩) rfl) rfl (by show 2 * 0 + _ ≤ _; exact Nat.le_of_eq rfl) rfl (hb hby at_264))
                    refine Go.of st9 ?_
                    show Go p e below _ T9 (mkF m 267 #[.val (.long x0), .second, .val (.long x1), .second, .val (.int x2), .val (.long x3), .second, .val (.long x4), .second, .val (.int x5), .val (.int sd), .val (.int si), .val (.int sk), .val (.int k1), .val (.int (oo + (1 : Int32))), .val (.int k2), .val (.long dm), .second, .val (.long im), .second, .val (.long d2), .second, .val (.long i2), .second, .val (.int n1), .val (.int n2), .val (.ref b1), .val (.ref b4), .val (.int (0 : Int32)), .val (.int (0 : Int32)), .unset, .unset] [(.int (0 : Int32))])
                    refine Go.of (fun _ k => XS.istore X9.here hx rfl (hb hby at_267) rfl (l' := #[.val (.long x0), .second, .val (.long x1), .second, .val (.int x2), .val (.long x3), .second, .val (.long x4), .second, .val (.int x5), .val (.int sd), .val (.int si), .val (.int sk), .val (.int k1), .val (.int (oo + (1 : Int32))), .val (.int k2), .val (.long dm), .second, .val (.long im), .second, .val (.long d2), .second, .val (.long i2), .second, .val (.int n1), .val (.int n2), .val (.ref b1), .val (.ref b4), .val (.int (0 : Int32)), .val (.int (0 : Int32)), .val (.int (0 : Int32)), .unset]) rfl k) ?_
                    show Go p e below _ T9 (mkF m 269 #[.val (.long x0), .second, .val (.long x1), .second, .val (.int x2), .val (.long x3), .second, .val (.long x4), .second, .val (.int x5), .val (.int sd), .val (.int si), .val (.int sk), .val (.int k1), .val (.int (oo + (1 : Int32))), .val (.int k2), .val (.long dm), .second, .val (.long im), .second, .val (.long d2), .second, .val (.long i2), .second, .val (.int n1), .val (.int n2), .val (.ref b1), .val (.ref b4), .val (.int (0 : Int32)), .val (.int (0 : Int32)), .val (.int (0 : Int32)), .unset] [])
                    refine Go.of (fun _ k => XS.aload X9.here hx rfl (hb hby at_269) rfl rfl k) ?_
                    show Go p e below _ T9 (mkF m 271 #[.val (.long x0), .second, .val (.long x1), .second, .val (.int x2), .val (.long x3), .second, .val (.long x4), .second, .val (.int x5), .val (.int sd), .val (.int si), .val (.int sk), .val (.int k1), .val (.int (oo + (1 : Int32))), .val (.int k2), .val (.long dm), .second, .val (.long im), .second, .val (.long d2), .second, .val (.long i2), .second, .val (.int n1), .val (.int n2), .val (.ref b1), .val (.ref b4), .val (.int (0 : Int32)), .val (.int (0 : Int32)), .val (.int (0 : Int32)), .unset] [(.ref b1)])
                    refine Go.of (fun _ k => XS.aload X9.here hx rfl (hb hby at_271) rfl rfl k) ?_
                    show Go p e below _ T9 (mkF m 273 #[.val (.long x0), .second, .val (.long x1), .second, .val (.int x2), .val (.long x3), .second, .val (.long x4), .second, .val (.int x5), .val (.int sd), .val (.int si), .val (.int sk), .val (.int k1), .val (.int (oo + (1 : Int32))), .val (.int k2), .val (.long dm), .second, .val (.long im), .second, .val (.long d2), .second, .val (.long i2), .second, .val (.int n1), .val (.int n2), .val (.ref b1), .val (.ref b4), .val (.int (0 : Int32)), .val (.int (0 : Int32)), .val (.int (0 : Int32)), .unset] [(.ref b1), (.ref b1)])
                    obtain ⟨T10, X10, e10, st10⟩ := own_pure rfl rfl (own_callVQ X9 hx hZ (y := (⟨"com/example/upright_meter/uprightmeter/ObjectStat", "isSameObjectAs", "(Lcom/example/upright_meter/uprightmeter/ObjectStat;)Z"⟩ : MethodName)) hown (hw _ (List.mem_of_getElem? (i := 42) rfl)) (hw _ (List.mem_of_getElem? (i := 43) rfl)) (hw _ (List.mem_of_getElem? (i := 45) rfl)) (hw _ (List.mem_of_getElem? (i := 45) rfl)) (hw _ (List.mem_of_getElem? (i := 44) rfl)) (hw _ (List.mem_of_getElem? (i := 46) rfl)) (hw _ (List.mem_of_getElem? (i := 4) rfl)) (by decide) (c3 l Z a0 hw T6.heap b1 b1 (w (kdN k1)) (w (kdN k1)) x0 x0 x1 x1 (Fd3.ext x6_T3heap) (Fi3.ext x6_T3heap) (Fk3.ext x6_T3heap) (Fd3.ext x6_T3heap) (Fi3.ext x6_T3heap) (Fk3.ext x6_T3heap) (1 : Int32) (by simp [smo])) (by decide) 0 (by decide) (by decide) (by decide) e9 (Ea3.ext x6_T3heap) (g := (mkF m 273 #[.val (.long x0), .second, .val (.long x1), .second, .val (.int x2), .val (.long x3), .second, .val (.long x4), .second, .val (.int x5), .val (.int sd), .val (.int si), .val (.int sk), .val (.int k1), .val (.int (oo + (1 : Int32))), .val (.int k2), .val (.long dm), .second, .val (.long im), .second, .val (.long d2), .second, .val (.long i2), .second, .val (.int n1), .val (.int n2), .val (.ref b1), .val (.ref b4), .val (.int (0 : Int32)), .val (.int (0 : Int32)), .val (.int (0 : Int32)), .unset] [(.ref b1), (.ref b1)])) rfl (by rw [hml]; rfl) [(.ref b1)] [] (lenOf (by decide +kernel : parseMethodDescriptor "(Lcom/example/upright_meter/uprightmeter/ObjectStat;)Z" = some ⟨[(.object "com/example/upright_meter/uprightmeter/ObjectStat")], some .boolean⟩) rfl) rfl (by show 2 * 0 + _ ≤ _; exact Nat.le_of_eq rfl) rfl (hb hby at_273))
                    refine Go.of st10 ?_
                    show Go p e below _ T10 (mkF m 276 #[.val (.long x0), .second, .val (.long x1), .second, .val (.int x2), .val (.long x3), .second, .val (.long x4), .second, .val (.int x5), .val (.int sd), .val (.int si), .val (.int sk), .val (.int k1), .val (.int (oo + (1 : Int32))), .val (.int k2), .val (.long dm), .second, .val (.long im), .second, .val (.long d2), .second, .val (.long i2), .second, .val (.int n1), .val (.int n2), .val (.ref b1), .val (.ref b4), .val (.int (0 : Int32)), .val (.int (0 : Int32)), .val (.int (0 : Int32)), .unset] [(.int (1 : Int32))])
                    refine Go.of (fun _ k => XS.istore X10.here hx rfl (hb hby at_276) rfl (l' := #[.val (.long x0), .second, .val (.long x1), .second, .val (.int x2), .val (.long x3), .second, .val (.long x4), .second, .val (.int x5), .val (.int sd), .val (.int si), .val (.int sk), .val (.int k1), .val (.int (oo + (1 : Int32))), .val (.int k2), .val (.long dm), .second, .val (.long im), .second, .val (.long d2), .second, .val (.long i2), .second, .val (.int n1), .val (.int n2), .val (.ref b1), .val (.ref b4), .val (.int (0 : Int32)), .val (.int (0 : Int32)), .val (.int (0 : Int32)), .val (.int (1 : Int32))]) rfl k) ?_
                    show Go p e below _ T10 (mkF m 278 #[.val (.long x0), .second, .val (.long x1), .second, .val (.int x2), .val (.long x3), .second, .val (.long x4), .second, .val (.int x5), .val (.int sd), .val (.int si), .val (.int sk), .val (.int k1), .val (.int (oo + (1 : Int32))), .val (.int k2), .val (.long dm), .second, .val (.long im), .second, .val (.long d2), .second, .val (.long i2), .second, .val (.int n1), .val (.int n2), .val (.ref b1), .val (.ref b4), .val (.int (0 : Int32)), .val (.int (0 : Int32)), .val (.int (0 : Int32)), .val (.int (1 : Int32))] [])
                    refine Go.of (fun _ k => XS.iload X10.here hx rfl (hb hby at_278) rfl k) ?_
                    show Go p e below _ T10 (mkF m 280 #[.val (.long x0), .second, .val (.long x1), .second, .val (.int x2), .val (.long x3), .second, .val (.long x4), .second, .val (.int x5), .val (.int sd), .val (.int si), .val (.int sk), .val (.int k1), .val (.int (oo + (1 : Int32))), .val (.int k2), .val (.long dm), .second, .val (.long im), .second, .val (.long d2), .second, .val (.long i2), .second, .val (.int n1), .val (.int n2), .val (.ref b1), .val (.ref b4), .val (.int (0 : Int32)), .val (.int (0 : Int32)), .val (.int (0 : Int32)), .val (.int (1 : Int32))] [(.int (0 : Int32))])
                    refine Go.of (fun _ k => XS.iload X10.here hx rfl (hb hby at_280) rfl k) ?_
                    show Go p e below _ T10 (mkF m 282 #[.val (.long x0), .second, .val (.long x1), .second, .val (.int x2), .val (.long x3), .second, .val (.long x4), .second, .val (.int x5), .val (.int sd), .val (.int si), .val (.int sk), .val (.int k1), .val (.int (oo + (1 : Int32))), .val (.int k2), .val (.long dm), .second, .val (.long im), .second, .val (.long d2), .second, .val (.long i2), .second, .val (.int n1), .val (.int n2), .val (.ref b1), .val (.ref b4), .val (.int (0 : Int32)), .val (.int (0 : Int32)), .val (.int (0 : Int32)), .val (.int (1 : Int32))] [(.int (0 : Int32)), (.int (0 : Int32))])
                    refine Go.of (fun _ k => XS.icmpNo X10.here hx rfl (hb hby at_282) rfl (XT.ii_ne_f (by decide)) k) ?_
                    show Go p e below _ T10 (mkF m 285 #[.val (.long x0), .second, .val (.long x1), .second, .val (.int x2), .val (.long x3), .second, .val (.long x4), .second, .val (.int x5), .val (.int sd), .val (.int si), .val (.int sk), .val (.int k1), .val (.int (oo + (1 : Int32))), .val (.int k2), .val (.long dm), .second, .val (.long im), .second, .val (.long d2), .second, .val (.long i2), .second, .val (.int n1), .val (.int n2), .val (.ref b1), .val (.ref b4), .val (.int (0 : Int32)), .val (.int (0 : Int32)), .val (.int (0 : Int32)), .val (.int (1 : Int32))] [])
                    refine Go.of (fun _ k => XS.iload X10.here hx rfl (hb hby at_285) rfl k) ?_
                    show Go p e below _ T10 (mkF m 287 #[.val (.long x0), .second, .val (.long x1), .second, .val (.int x2), .val (.long x3), .second, .val (.long x4), .second, .val (.int x5), .val (.int sd), .val (.int si), .val (.int sk), .val (.int k1), .val (.int (oo + (1 : Int32))), .val (.int k2), .val (.long dm), .second, .val (.long im), .second, .val (.long d2), .second, .val (.long i2), .second, .val (.int n1), .val (.int n2), .val (.ref b1), .val (.ref b4), .val (.int (0 : Int32)), .val (.int (0 : Int32)), .val (.int (0 : Int32)), .val (.int (1 : Int32))] [(.int (0 : Int32))])
                    refine Go.of (fun _ k => XS.iload X10.here hx rfl (hb hby at_287) rfl k) ?_
                    show Go p e below _ T10 (mkF m 289 #[.val (.long x0), .second, .val (.long x1), .second, .val (.int x2), .val (.long x3), .second, .val (.long x4), .second, .val (.int x5), .val (.int sd), .val (.int si), .val (.int sk), .val (.int k1), .val (.int (oo + (1 : Int32))), .val (.int k2), .val (.long dm), .second, .val (.long im), .second, .val (.long d2), .second, .val (.long i2), .second, .val (.int n1), .val (.int n2), .val (.ref b1), .val (.ref b4), .val (.int (0 : Int32)), .val (.int (0 : Int32)), .val (.int (0 : Int32)), .val (.int (1 : Int32))] [(.int (0 : Int32)), (.int (0 : Int32))])
                    refine Go.of (fun _ k => XS.icmpNo X10.here hx rfl (hb hby at_289) rfl (XT.ii_ne_f (by decide)) k) ?_
                    show Go p e below _ T10 (mkF m 292 #[.val (.long x0), .second, .val (.long x1), .second, .val (.int x2), .val (.long x3), .second, .val (.long x4), .second, .val (.int x5), .val (.int sd), .val (.int si), .val (.int sk), .val (.int k1), .val (.int (oo + (1 : Int32))), .val (.int k2), .val (.long dm), .second, .val (.long im), .second, .val (.long d2), .second, .val (.long i2), .second, .val (.int n1), .val (.int n2), .val (.ref b1), .val (.ref b4), .val (.int (0 : Int32)), .val (.int (0 : Int32)), .val (.int (0 : Int32)), .val (.int (1 : Int32))] [])
                    refine Go.of (fun _ k => XS.iload X10.here hx rfl (hb hby at_292) rfl k) ?_
                    show Go p e below _ T10 (mkF m 294 #[.val (.long x0), .second, .val (.long x1), .second, .val (.int x2), .val (.long x3), .second, .val (.long x4), .second, .val (.int x5), .val (.int sd), .val (.int si), .val (.int sk), .val (.int k1), .val (.int (oo + (1 : Int32))), .val (.int k2), .val (.long dm), .second, .val (.long im), .second, .val (.long d2), .second, .val (.long i2), .second, .val (.int n1), .val (.int n2), .val (.ref b1), .val (.ref b4), .val (.int (0 : Int32)), .val (.int (0 : Int32)), .val (.int (0 : Int32)), .val (.int (1 : Int32))] [(.int (1 : Int32))])
                    refine Go.of (fun _ k => XS.ifNo X10.here hx rfl (hb hby at_294) rfl (XT.i0_eq_f (by decide)) k) ?_
                    show Go p e below _ T10 (mkF m 297 #[.val (.long x0), .second, .val (.long x1), .second, .val (.int x2), .val (.long x3), .second, .val (.long x4), .second, .val (.int x5), .val (.int sd), .val (.int si), .val (.int sk), .val (.int k1), .val (.int (oo + (1 : Int32))), .val (.int k2), .val (.long dm), .second, .val (.long im), .second, .val (.long d2), .second, .val (.long i2), .second, .val (.int n1), .val (.int n2), .val (.ref b1), .val (.ref b4), .val (.int (0 : Int32)), .val (.int (0 : Int32)), .val (.int (0 : Int32)), .val (.int (1 : Int32))] [])
                    refine Go.of (fun _ k => XS.iconst X10.here hx rfl (hb hby at_297) k) ?_
                    show Go p e below _ T10 (mkF m 298 #[.val (.long x0), .second, .val (.long x1), .second, .val (.int x2), .val (.long x3), .second, .val (.long x4), .second, .val (.int x5), .val (.int sd), .val (.int si), .val (.int sk), .val (.int k1), .val (.int (oo + (1 : Int32))), .val (.int k2), .val (.long dm), .second, .val (.long im), .second, .val (.long d2), .second, .val (.long i2), .second, .val (.int n1), .val (.int n2), .val (.ref b1), .val (.ref b4), .val (.int (0 : Int32)), .val (.int (0 : Int32)), .val (.int (0 : Int32)), .val (.int (1 : Int32))] [(.int (1 : Int32))])
                    refine Go.of (fun _ k => XS.goto X10.here hx rfl (pc0 := 298) (pc' := 302) rfl (hb hby at_298) (by decide) (by decide) k) ?_
                    show Go p e below _ T10 (mkF m 302 #[.val (.long x0), .second, .val (.long x1), .second, .val (.int x2), .val (.long x3), .second, .val (.long x4), .second, .val (.int x5), .val (.int sd), .val (.int si), .val (.int sk), .val (.int k1), .val (.int (oo + (1 : Int32))), .val (.int k2), .val (.long dm), .second, .val (.long im), .second, .val (.long d2), .second, .val (.long i2), .second, .val (.int n1), .val (.int n2), .val (.ref b1), .val (.ref b4), .val (.int (0 : Int32)), .val (.int (0 : Int32)), .val (.int (0 : Int32)), .val (.int (1 : Int32))] [(.int (1 : Int32))])
                    exact own_retZ (z' := (1 : Int32)) X10 hx hlk hret (hb hby at_302) rfl ⟨rfl, N6⟩ (by decide) (by decide)
                  ·
                    refine Go.of (fun _ k => XS.ifNo X6.here hx rfl (hb hby at_231) rfl (XT.i0_eq_f hc231_7) k) ?_
                    show Go p e below _ T6 (mkF m 234 #[.val (.long x0), .second, .val (.long x1), .second, .val (.int x2), .val (.long x3), .second, .val (.long x4), .second, .val (.int x5), .val (.int sd), .val (.int si), .val (.int sk), .val (.int k1), .val (.int (oo + (1 : Int32))), .val (.int k2), .val (.long dm), .second, .val (.long im), .second, .val (.long d2), .second, .val (.long i2), .second, .val (.int n1), .val (.int n2), .val (.ref b1), .val (.ref b4), .unset, .unset, .unset, .unset] [])
                    refine Go.of (fun _ k => XS.iload X6.here hx rfl (hb hby at_234) rfl k) ?_
                    show Go p e below _ T6 (mkF m 236 #[.val (.long x0), .second, .val (.long x1), .second, .val (.int x2), .val (.long x3), .second, .val (.long x4), .second, .val (.int x5), .val (.int sd), .val (.int si), .val (.int sk), .val (.int k1), .val (.int (oo + (1 : Int32))), .val (.int k2), .val (.long dm), .second, .val (.long im), .second, .val (.long d2), .second, .val (.long i2), .second, .val (.int n1), .val (.int n2), .val (.ref b1), .val (.ref b4), .unset, .unset, .unset, .unset] [(.int si)])
                    by_cases hc236_11 : si = (0 : Int32)
                    ·
                      refine Go.of (fun _ k => XS.ifYes X6.here hx rfl (pc0 := 236) (pc' := 248) rfl (hb hby at_236) rfl (XT.i0_eq_t hc236_11) (by decide) (by decide) k) ?_
                      show Go p e below _ T6 (mkF m 248 #[.val (.long x0), .second, .val (.long x1), .second, .val (.int x2), .val (.long x3), .second, .val (.long x4), .second, .val (.int x5), .val (.int sd), .val (.int si), .val (.int sk), .val (.int k1), .val (.int (oo + (1 : Int32))), .val (.int k2), .val (.long dm), .second, .val (.long im), .second, .val (.long d2), .second, .val (.long i2), .second, .val (.int n1), .val (.int n2), .val (.ref b1), .val (.ref b4), .unset, .unset, .unset, .unset] [])
                      refine Go.of (fun _ k => XS.iconst X6.here hx rfl (hb hby at_248) k) ?_
                      show Go p e below _ T6 (mkF m 249 #[.val (.long x0), .second, .val (.long x1), .second, .val (.int x2), .val (.long x3), .second, .val (.long x4), .second, .val (.int x5), .val (.int sd), .val (.int si), .val (.int sk), .val (.int k1), .val (.int (oo + (1 : Int32))), .val (.int k2), .val (.long dm), .second, .val (.long im), .second, .val (.long d2), .second, .val (.long i2), .second, .val (.int n1), .val (.int n2), .val (.ref b1), .val (.ref b4), .unset, .unset, .unset, .unset] [(.int (0 : Int32))])
                      refine Go.of (fun _ k => XS.istore X6.here hx rfl (hb hby at_249) rfl (l' := #[.val (.long x0), .second, .val (.long x1), .second, .val (.int x2), .val (.long x3), .second, .val (.long x4), .second, .val (.int x5), .val (.int sd), .val (.int si), .val (.int sk), .val (.int k1), .val (.int (oo + (1 : Int32))), .val (.int k2), .val (.long dm), .second, .val (.long im), .second, .val (.long d2), .second, .val (.long i2), .second, .val (.int n1), .val (.int n2), .val (.ref b1), .val (.ref b4), .val (.int (0 : Int32)), .unset, .unset, .unset]) rfl k) ?_
                      show Go p e below _ T6 (mkF m 251 #[.val (.long x0), .second, .val (.long x1), .second, .val (.int x2), .val (.long x3), .second, .val (.long x4), .second, .val (.int x5), .val (.int sd), .val (.int si), .val (.int sk), .val (.int k1), .val (.int (oo + (1 : Int32))), .val (.int k2), .val (.long dm), .second, .val (.long im), .second, .val (.long d2), .second, .val (.long i2), .second, .val (.int n1), .val (.int n2), .val (.ref b1), .val (.ref b4), .val (.int (0 : Int32)), .unset, .unset, .unset] [])
                      refine Go.of (fun _ k => XS.aload X6.here hx rfl (hb hby at_251) rfl rfl k) ?_
                      show Go p e below _ T6 (mkF m 253 #[.val (.long x0), .second, .val (.long x1), .second, .val (.int x2), .val (.long x3), .second, .val (.long x4), .second, .val (.int x5), .val (.int sd), .val (.int si), .val (.int sk), .val (.int k1), .val (.int (oo + (1 : Int32))), .val (.int k2), .val (.long dm), .second, .val (.long im), .second, .val (.long d2), .second, .val (.long i2), .second, .val (.int n1), .val (.int n2), .val (.ref b1), .val (.ref b4), .val (.int (0 : Int32)), .unset, .unset, .unset] [(.ref b1)])
                      refine Go.of (fun _ k => XS.aload X6.here hx rfl (hb hby at_253) rfl rfl k) ?_
                      show Go p e below _ T6 (mkF m 255 #[.val (.long x0), .second, .val (.long x1), .second, .val (.int x2), .val (.long x3), .second, .val (.long x4), .second, .val (.int x5), .val (.int sd), .val (.int si), .val (.int sk), .val (.int k1), .val (.int (oo + (1 : Int32))), .val (.int k2), .val (.long dm), .second, .val (.long im), .second, .val (.long d2), .second, .val (.long i2), .second, .val (.int n1), .val (.int n2), .val (.ref b1), .val (.ref b4), .val (.int (0 : Int32)), .unset, .unset, .unset] [(.ref b4), (.ref b1)])
                      obtain ⟨T12, X12, e12, st12⟩ := own_pure rfl rfl (own_callVQ X6 hx hZ (y := (⟨"com/example/upright_meter/uprightmeter/ObjectStat", "isSameObjectAs", "(Lcom/example/upright_meter/uprightmeter/ObjectStat;)Z"⟩ : MethodName)) hown (hw _ (List.mem_of_getElem? (i := 42) rfl)) (hw _ (List.mem_of_getElem? (i := 43) rfl)) (hw _ (List.mem_of_getElem? (i := 45) rfl)) (hw _ (List.mem_of_getElem? (i := 45) rfl)) (hw _ (List.mem_of_getElem? (i := 44) rfl)) (hw _ (List.mem_of_getElem? (i := 46) rfl)) (hw _ (List.mem_of_getElem? (i := 4) rfl)) (by decide) (c3 l Z a0 hw T6.heap b1 b4 (w (kdN k1)) (w (kdN k2)) x0 d2 x1 i2 (Fd3.ext x6_T3heap) (Fi3.ext x6_T3heap) (Fk3.ext x6_T3heap) Fd6 Fi6 Fk6 (0 : Int32) ((if_pos (Eq.symm (hd2.2 hc231_7))).trans (if_neg (fun q => (hi2.1 hc236_11) (Eq.symm q))))) (by decide) 0 (by decide) (by decide) (by decide) (rfl : T6.heap = T6.heap) (Ea3.ext x6_T3heap) (g := (mkF m 255 #[.val (.long x0), .second, .val (.long x1), .second, .val (.int x2), .val (.long x3), .second, .val (.long x4), .second, .val (.int x5), .val (.int sd), .val (.int si), .val (.int sk), .val (.int k1), .val (.int (oo + (1 : Int32))), .val (.int k2), .val (.long dm), .second, .val (.long im), .second, .val (.long d2), .second, .val (.long i2), .second, .val (.int n1), .val (.int n2), .val (.ref b1), .val (.ref b4), .val (.int (0 : Int32)), .unset, .unset, .unset] [(.ref b4), (.ref b1)])) rfl (by rw [hml]; rfl) [(.ref b4)] [] (lenOf (by decide +kernel : parseMethodDescriptor "(Lcom/example/upright_meter/uprightmeter/ObjectStat;)Z" = some ⟨[(.object "com/example/upright_meter/uprightmeter/ObjectStat")], some .boolean⟩) rfl) rfl (by show 2 * 0 + _ ≤ _; exact Nat.le_of_eq rfl) rfl (hb hby at_255))
                      refine Go.of st12 ?_
                      show Go p e below _ T12 (mkF m 258 #[.val (.long x0), .second, .val (.long x1), .second, .val (.int x2), .val (.long x3), .second, .val (.long x4), .second, .val (.int x5), .val (.int sd), .val (.int si), .val (.int sk), .val (.int k1), .val (.int (oo + (1 : Int32))), .val (.int k2), .val (.long dm), .second, .val (.long im), .second, .val (.long d2), .second, .val (.long i2), .second, .val (.int n1), .val (.int n2), .val (.ref b1), .val (.ref b4), .val (.int (0 : Int32)), .unset, .unset, .unset] [(.int (0 : Int32))])
                      refine Go.of (fun _ k => XS.istore X12.here hx rfl (hb hby at_258) rfl (l' := #[.val (.long x0), .second, .val (.long x1), .second, .val (.int x2), .val (.long x3), .second, .val (.long x4), .second, .val (.int x5), .val (.int sd), .val (.int si), .val (.int sk), .val (.int k1), .val (.int (oo + (1 : Int32))), .val (.int k2), .val (.long dm), .second, .val (.long im), .second, .val (.long d2), .second, .val (.long i2), .second, .val (.int n1), .val (.int n2), .val (.ref b1), .val (.ref b4), .val (.int (0 : Int32)), .val (.int (0 : Int32)), .unset, .unset]) rfl k) ?_
                      show Go p e below _ T12 (mkF m 260 #[.val (.long x0), .second, .val (.long x1), .second, .val (.int x2), .val (.long x3), .second, .val (.long x4), .second, .val (.int x5), .val (.int sd), .val (.int si), .val (.int sk), .val (.int k1), .val (.int (oo + (1 : Int32))), .val (.int k2), .val (.long dm), .second, .val (.long im), .second, .val (.long d2), .second, .val (.long i2), .second, .val (.int n1), .val (.int n2), .val (.ref b1), .val (.ref b4), .val (.int (0 : Int32)), .val (.int (0 : Int32)), .unset, .unset] [])
                      refine Go.of (fun _ k => XS.aload X12.here hx rfl (hb hby at_260) rfl rfl k) ?_
                      show Go p e below _ T12 (mkF m 262 #[.val (.long x0), .second, .val (.long x1), .second, .val (.int x2), .val (.long x3), .second, .val (.long x4), .second, .val (.int x5), .val (.int sd), .val (.int si), .val (.int sk), .val (.int k1), .val (.int (oo + (1 : Int32))), .val (.int k2), .val (.long dm), .second, .val (.long im), .second, .val (.long d2), .second, .val (.long i2), .second, .val (.int n1), .val (.int n2), .val (.ref b1), .val (.ref b4), .val (.int (0 : Int32)), .val (.int (0 : Int32)), .unset, .unset] [(.ref b4)])
                      refine Go.of (fun _ k => XS.aload X12.here hx rfl (hb hby at_262) rfl rfl k) ?_
                      show Go p e below _ T12 (mkF m 264 #[.val (.long x0), .second, .val (.long x1), .second, .val (.int x2), .val (.long x3), .second, .val (.long x4), .second, .val (.int x5), .val (.int sd), .val (.int si), .val (.int sk), .val (.int k1), .val (.int (oo + (1 : Int32))), .val (.int k2), .val (.long dm), .second, .val (.long im), .second, .val (.long d2), .second, .val (.long i2), .second, .val (.int n1), .val (.int n2), .val (.ref b1), .val (.ref b4), .val (.int (0 : Int32)), .val (.int (0 : Int32)), .unset, .unset] [(.ref b1), (.ref b4)])
                      obtain ⟨T13, X13, e13, st13⟩ := own_pure rfl rfl (own_callVQ X12 hx hZ (y := (⟨"com/example/upright_meter/uprightmeter/ObjectStat", "isSameObjectAs", "(Lcom/example/upright_meter/uprightmeter/ObjectStat;)Z"⟩ : MethodName)) hown (hw _ (List.mem_of_getElem? (i := 42) rfl)) (hw _ (List.mem_of_getElem? (i := 43) rfl)) (hw _ (List.mem_of_getElem? (i := 45) rfl)) (hw _ (List.mem_of_getElem? (i := 45) rfl)) (hw _ (List.mem_of_getElem? (i := 44) rfl)) (hw _ (List.mem_of_getElem? (i := 46) rfl)) (hw _ (List.mem_of_getElem? (i := 4) rfl)) (by decide) (c3 l Z a0 hw T6.heap b4 b1 (w (kdN k2)) (w (kdN k1)) d2 x0 i2 x1 Fd6 Fi6 Fk6 (Fd3.ext x6_T3heap) (Fi3.ext x6_T3heap) (Fk3.ext x6_T3heap) (0 : Int32) ((if_pos (hd2.2 hc231_7)).trans (if_neg (hi2.1 hc236_11)))) (by decide) 0 (by decide) (by decide) (by decide) e12 Ea6 (g := (mkF m 264 #[.val (.long x0), .second, .val (.long x1), .second, .val (.int x2), .val (.long x3), .second, .val (.long x4), .second, .val (.int x5), .val (.int sd), .val (.int si), .val (.int sk), .val (.int k1), .val (.int (oo + (1 : Int32))), .val (.int k2), .val (.long dm), .second, .val (.long im), .second, .val (.long d2), .second, .val (.long i2), .second, .val (.int n1), .val (.int n2), .val (.ref b1), .val (.ref b4), .val (.int (0 : Int32)), .val (.int (0 : Int32)), .unset, .unset] [(.ref b1), (.ref b4)])) rfl (by rw [hml]; rfl) [(.ref b1)] [] (lenOf (by decide +kernel : parseMethodDescriptor "(Lcom/example/upright_meter/uprightmeter/ObjectStat;)Z" = some ⟨[(.object "com/example/upright_meter/uprightmeter/ObjectStat")], some .boolean⟩) rfl) rfl (by show 2 * 0 + _ ≤ _; exact Nat.le_of_eq rfl) rfl (hb hby at_264))
                      refine Go.of st13 ?_
                      show Go p e below _ T13 (mkF m 267 #[.val (.long x0), .second, .val (.long x1), .second, .val (.int x2), .val (.long x3), .second, .val (.long x4), .second, .val (.int x5), .val (.int sd), .val (.int si), .val (.int sk), .val (.int k1), .val (.int (oo + (1 : Int32))), .val (.int k2), .val (.long dm), .second, .val (.long im), .second, .val (.long d2), .second, .val (.long i2), .second, .val (.int n1), .val (.int n2), .val (.ref b1), .val (.ref b4), .val (.int (0 : Int32)), .val (.int (0 : Int32)), .unset, .unset] [(.int (0 : Int32))])
                      refine Go.of (fun _ k => XS.istore X13.here hx rfl (hb hby at_267) rfl (l' := #[.val (.long x0), .second, .val (.long x1), .second, .val (.int x2), .val (.long x3), .second, .val (.long x4), .second, .val (.int x5), .val (.int sd), .val (.int si), .val (.int sk), .val (.int k1), .val (.int (oo + (1 : Int32))), .val (.int k2), .val (.long dm), .second, .val (.long im), .second, .val (.long d2), .second, .val (.long i2), .second, .val (.int n1), .val (.int n2), .val (.ref b1), .val (.ref b4), .val (.int (0 : Int32)), .val (.int (0 : Int32)), .val (.int (0 : Int32)), .unset]) rfl k) ?_
                      show Go p e below _ T13 (mkF m 269 #[.val (.long x0), .second, .val (.long x1), .second, .val (.int x2), .val (.long x3), .second, .val (.long x4), .second, .val (.int x5), .val (.int sd), .val (.int si), .val (.int sk), .val (.int k1), .val (.int (oo + (1 : Int32))), .val (.int k2), .val (.long dm), .second, .val (.long im), .second, .val (.long d2), .second, .val (.long i2), .second, .val (.int n1), .val (.int n2), .val (.ref b1), .val (.ref b4), .val (.int (0 : Int32)), .val (.int (0 : Int32)), .val (.int (0 : Int32)), .unset] [])
                      refine Go.of (fun _ k => XS.aload X13.here hx rfl (hb hby at_269) rfl rfl k) ?_
                      show Go p e below _ T13 (mkF m 271 #[.val (.long x0), .second, .val (.long x1), .second, .val (.int x2), .val (.long x3), .second, .val (.long x4), .second, .val (.int x5), .val (.int sd), .val (.int si), .val (.int sk), .val (.int k1), .val (.int (oo + (1 : Int32))), .val (.int k2), .val (.long dm), .second, .val (.long im), .second, .val (.long d2), .second, .val (.long i2), .second, .val (.int n1), .val (.int n2), .val (.ref b1), .val (.ref b4), .val (.int (0 : Int32)), .val (.int (0 : Int32)), .val (.int (0 : Int32)), .unset] [(.ref b1)])
                      refine Go.of (fun _ k => XS.aload X13.here hx rfl (hb hby at_271) rfl rfl k) ?_
                      show Go p e below _ T13 (mkF m 273 #[.val (.long x0), .second, .val (.long x1), .second, .val (.int x2), .val (.long x3), .second, .val (.long x4), .second, .val (.int x5), .val (.int sd), .val (.int si), .val (.int sk), .val (.int k1), .val (.int (oo + (1 : Int32))), .val (.int k2), .val (.long dm), .second, .val (.long im), .second, .val (.long d2), .second, .val (.long i2), .second, .val (.int n1), .val (.int n2), .val (.ref b1), .val (.ref b4), .val (.int (0 : Int32)), .val (.int (0 : Int32)), .val (.int (0 : Int32)), .unset] [(.ref b1), (.ref b1)])
                      obtain ⟨T14, X14, e14, st14⟩ := own_pure rfl rfl (own_callVQ X13 hx hZ (y := (⟨"com/example/upright_meter/uprightmeter/ObjectStat", "isSameObjectAs", "(Lcom/example/upright_meter/uprightmeter/ObjectStat;)Z"⟩ : MethodName)) hown (hw _ (List.mem_of_getElem? (i := 42) rfl)) (hw _ (List.mem_of_getElem? (i := 43) rfl)) (hw _ (List.mem_of_getElem? (i := 45) rfl)) (hw _ (List.mem_of_getElem? (i := 45) rfl)) (hw _ (List.mem_of_getElem? (i := 44) rfl)) (hw _ (List.mem_of_getElem? (i := 46) rfl)) (hw _ (List.mem_of_getElem? (i := 4) rfl)) (by decide) (c3 l Z a0 hw T6.heap b1 b1 (w (kdN k1)) (w (kdN k1)) x0 x0 x1 x1 (Fd3.ext x6_T3heap) (Fi3.ext x6_T3heap) (Fk3.ext x6_T3heap) (Fd3.ext x6_T3heap) (Fi3.ext x6_T3heap) (Fk3.ext x6_T3heap) (1 : Int32) (by simp [smo])) (by decide) 0 (by decide) (by decide) (by decide) e13 (Ea3.ext x6_T3heap) (g := (mkF m 273 #[.val (.long x0), .second, .val (.long x1), .second, .val (.int x2), .val (.long x3), .second, .val (.long x4), .second, .val (.int x5), .val (.int sd), .val (.int si), .val (.int sk), .val (.int k1), .val (.int (oo + (1 : Int32))), .val (.int k2), .val (.long dm), .second, .val (.long im), .second, .val (.long d2), .second, .val (.long i2), .second, .val (.int n1), .val (.int n2), .val (.ref b1), .val (.ref b4), .val (.int (0 : Int32)), .val (.int (0 : Int32)), .val (.int (0 : Int32)), .unset] [(.ref b1), (.ref b1)])) rfl (by rw [hml]; rfl) [(.ref b1)] [] (lenOf (by decide +kernel : parseMethodDescriptor "(Lcom/example/upright_meter/uprightmeter/ObjectStat;)Z" = some ⟨[(.object "com/example/upright_meter/uprightmeter/ObjectStat")], some .boolean⟩) rfl) rfl (by show 2 * 0 + _ ≤ _; exact Nat.le_of_eq rfl) rfl (hb hby at_273))
                      refine Go.of st14 ?_
                      show Go p e below _ T14 (mkF m 276 #[.val (.long x0), .second, .val (.long x1), .second, .val (.int x2), .val (.long x3), .second, .val (.long x4), .second, .val (.int x5), .val (.int sd), .val (.int si), .val (.int sk), .val (.int k1), .val (.int (oo + (1 : Int32))), .val (.int k2), .val (.long dm), .second, .val (.long im), .second, .val (.long d2), .second, .val (.long i2), .second, .val (.int n1), .val (.int n2), .val (.ref b1), .val (.ref b4), .val (.int (0 : Int32)), .val (.int (0 : Int32)), .val (.int (0 : Int32)), .unset] [(.int (1 : Int32))])
                      refine Go.of (fun _ k => XS.istore X14.here hx rfl (hb hby at_276) rfl (l' := #[.val (.long x0), .second, .val (.long x1), .second, .val (.int x2), .val (.long x3), .second, .val (.long x4), .second, .val (.int x5), .val (.int sd), .val (.int si), .val (.int sk), .val (.int k1), .val (.int (oo + (1 : Int32))), .val (.int k2), .val (.long dm), .second, .val (.long im), .second, .val (.long d2), .second, .val (.long i2), .second, .val (.int n1), .val (.int n2), .val (.ref b1), .val (.ref b4), .val (.int (0 : Int32)), .val (.int (0 : Int32)), .val (.int (0 : Int32)), .val (.int (1 : Int32))]) rfl k) ?_
                      show Go p e below _ T14 (mkF m 278 #[.val (.long x0), .second, .val (.long x1), .second, .val (.int x2), .val (.long x3), .second, .val (.long x4), .second, .val (.int x5), .val (.int sd), .val (.int si), .val (.int sk), .val (.int k1), .val (.int (oo + (1 : Int32))), .val (.int k2), .val (.long dm), .second, .val (.long im), .second, .val (.long d2), .second, .val (.long i2), .second, .val (.int n1), .val (.int n2), .val (.ref b1), .val (.ref b4), .val (.int (0 : Int32)), .val (.int (0 : Int32)), .val (.int (0 : Int32)), .val (.int (1 : Int32))] [])
                      refine Go.of (fun _ k => XS.iload X14.here hx rfl (hb hby at_278) rfl k) ?_
                      show Go p e below _ T14 (mkF m 280 #[.val (.long x0), .second, .val (.long x1), .second, .val (.int x2), .val (.long x3), .second, .val (.long x4), .second, .val (.int x5), .val (.int sd), .val (.int si), .val (.int sk), .val (.int k1), .val (.int (oo + (1 : Int32))), .val (.int k2), .val (.long dm), .second, .val (.long im), .second, .val (.long d2), .second, .val (.long i2), .second, .val (.int n1), .val (.int n2), .val (.ref b1), .val (.ref b4), .val (.int (0 : Int32)), .val (.int (0 : Int32)), .val (.int (0 : Int32)), .val (.int (1 : Int32))] [(.int (0 : Int32))])
                      refine Go.of (fun _ k => XS.iload X14.here hx rfl (hb hby at_280) rfl k) ?_
                      show Go p e below _ T14 (mkF m 282 #[.val (.long x0), .second, .val (.long x1), .second, .val (.int x2), .val (.long x3), .second, .val (.long x4), .second, .val (.int x5), .val (.int sd), .val (.int si), .val (.int sk), .val (.int k1), .val (.int (oo + (1 : Int32))), .val (.int k2), .val (.long dm), .second, .val (.long im), .second, .val (.long d2), .second, .val (.long i2), .second, .val (.int n1), .val (.int n2), .val (.ref b1), .val (.ref b4), .val (.int (0 : Int32)), .val (.int (0 : Int32)), .val (.int (0 : Int32)), .val (.int (1 : Int32))] [(.int (0 : Int32)), (.int (0 : Int32))])
                      refine Go.of (fun _ k => XS.icmpNo X14.here hx rfl (hb hby at_282) rfl (XT.ii_ne_f (by decide)) k) ?_
                      show Go p e below _ T14 (mkF m 285 #[.val (.long x0), .second, .val (.long x1), .second, .val (.int x2), .val (.long x3), .second, .val (.long x4), .second, .val (.int x5), .val (.int sd), .val (.int si), .val (.int sk), .val (.int k1), .val (.int (oo + (1 : Int32))), .val (.int k2), .val (.long dm), .second, .val (.long im), .second, .val (.long d2), .second, .val (.long i2), .second, .val (.int n1), .val (.int n2), .val (.ref b1), .val (.ref b4), .val (.int (0 : Int32)), .val (.int (0 : Int32)), .val (.int (0 : Int32)), .val (.int (1 : Int32))] [])
                      refine Go.of (fun _ k => XS.iload X14.here hx rfl (hb hby at_285) rfl k) ?_
                      show Go p e below _ T14 (mkF m 287 #[.val (.long x0), .second, .val (.long x1), .second, .val (.int x2), .val (.long x3), .second, .val (.long x4), .second, .val (.int x5), .val (.int sd), .val (.int si), .val (.int sk), .val (.int k1), .val (.int (oo + (1 : Int32))), .val (.int k2), .val (.long dm), .second, .val (.long im), .second, .val (.long d2), .second, .val (.long i2), .second, .val (.int n1), .val (.int n2), .val (.ref b1), .val (.ref b4), .val (.int (0 : Int32)), .val (.int (0 : Int32)), .val (.int (0 : Int32)), .val (.int (1 : Int32))] [(.int (0 : Int32))])
                      refine Go.of (fun _ k => XS.iload X14.here hx rfl (hb hby at_287) rfl k) ?_
                      show Go p e below _ T14 (mkF m 289 #[.val (.long x0), .second, .val (.long x1), .second, .val (.int x2), .val (.long x3), .second, .val (.long x4), .second, .val (.int x5), .val (.int sd), .val (.int si), .val (.int sk), .val (.int k1), .val (.int (oo + (1 : Int32))), .val (.int k2), .val (.long dm), .second, .val (.long im), .second, .val (.long d2), .second, .val (.long i2), .second, .val (.int n1), .val (.int n2), .val (.ref b1), .val (.ref b4), .val (.int (0 : Int32)), .val (.int (0 : Int32)), .val (.int (0 : Int32)), .val (.int (1 : Int32))] [(.int (0 : Int32)), (.int (0 : Int32))])
                      refine Go.of (fun _ k => XS.icmpNo X14.here hx rfl (hb hby at_289) rfl (XT.ii_ne_f (by decide)) k) ?_
                      show Go p e below _ T14 (mkF m 292 #[.val (.long x0), .second, .val (.long x1), .second, .val (.int x2), .val (.long x3), .second, .val (.long x4), .second, .val (.int x5), .val (.int sd), .val (.int si), .val (.int sk), .val (.int k1), .val (.int (oo + (1 : Int32))), .val (.int k2), .val (.long dm), .second, .val (.long im), .second, .val (.long d2), .second, .val (.long i2), .second, .val (.int n1), .val (.int n2), .val (.ref b1), .val (.ref b4), .val (.int (0 : Int32)), .val (.int (0 : Int32)), .val (.int (0 : Int32)), .val (.int (1 : Int32))] [])
                      refine Go.of (fun _ k => XS.iload X14.here hx rfl (hb hby at_292) rfl k) ?_
                      show Go p e below _ T14 (mkF m 294 #[.val (.long x0), .second, .val (.long x1), .second, .val (.int x2), .val (.long x3), .second, .val (.long x4), .second, .val (.int x5), .val (.int sd), .val (.int si), .val (.int sk), .val (.int k1), .val (.int (oo + (1 : Int32))), .val (.int k2), .val (.long dm), .second, .val (.long im), .second, .val (.long d2), .second, .val (.long i2), .second, .val (.int n1), .val (.int n2), .val (.ref b1), .val (.ref b4), .val (.int (0 : Int32)), .val (.int (0 : Int32)), .val (.int (0 : Int32)), .val (.int (1 : Int32))] [(.int (1 : Int32))])
                      refine Go.of (fun _ k => XS.ifNo X14.here hx rfl (hb hby at_294) rfl (XT.i0_eq_f (by decide)) k) ?_
                      show Go p e below _ T14 (mkF m 297 #[.val (.long x0), .second, .val (.long x1), .second, .val (.int x2), .val (.long x3), .second, .val (.long x4), .second, .val (.int x5), .val (.int sd), .val (.int si), .val (.int sk), .val (.int k1), .val (.int (oo + (1 : Int32))), .val (.int k2), .val (.long dm), .second, .val (.long im), .second, .val (.long d2), .second, .val (.long i2), .second, .val (.int n1), .val (.int n2), .val (.ref b1), .val (.ref b4), .val (.int (0 : Int32)), .val (.int (0 : Int32)), .val (.int (0 : Int32)), .val (.int (1 : Int32))] [])
                      refine Go.of (fun _ k => XS.iconst X14.here hx rfl (hb hby at_297) k) ?_
                      show Go p e below _ T14 (mkF m 298 #[.val (.long x0), .second, .val (.long x1), .second, .val (.int x2), .val (.long x3), .second, .val (.long x4), .second, .val (.int x5), .val (.int sd), .val (.int si), .val (.int sk), .val (.int k1), .val (.int (oo + (1 : Int32))), .val (.int k2), .val (.long dm), .second, .val (.long im), .second, .val (.long d2), .second, .val (.long i2), .second, .val (.int n1), .val (.int n2), .val (.ref b1), .val (.ref b4), .val (.int (0 : Int32)), .val (.int (0 : Int32)), .val (.int (0 : Int32)), .val (.int (1 : Int32))] [(.int (1 : Int32))])
                      refine Go.of (fun _ k => XS.goto X14.here hx rfl (pc0 := 298) (pc' := 302) rfl (hb hby at_298) (by decide) (by decide) k) ?_
                      show Go p e below _ T14 (mkF m 302 #[.val (.long x0), .second, .val (.long x1), .second, .val (.int x2), .val (.long x3), .second, .val (.long x4), .second, .val (.int x5), .val (.int sd), .val (.int si), .val (.int sk), .val (.int k1), .val (.int (oo + (1 : Int32))), .val (.int k2), .val (.long dm), .second, .val (.long im), .second, .val (.long d2), .second, .val (.long i2), .second, .val (.int n1), .val (.int n2), .val (.ref b1), .val (.ref b4), .val (.int (0 : Int32)), .val (.int (0 : Int32)), .val (.int (0 : Int32)), .val (.int (1 : Int32))] [(.int (1 : Int32))])
                      exact own_retZ (z' := (1 : Int32)) X14 hx hlk hret (hb hby at_302) rfl ⟨rfl, N6⟩ (by decide) (by decide)
                    ·
                      refine Go.of (fun _ k => XS.ifNo X6.here hx rfl (hb hby at_236) rfl (XT.i0_eq_f hc236_11) k) ?_
                      show Go p e below _ T6 (mkF m 239 #[.val (.long x0), .second, .val (.long x1), .second, .val (.int x2), .val (.long x3), .second, .val (.long x4), .second, .val (.int x5), .val (.int sd), .val (.int si), .val (.int sk), .val (.int k1), .val (.int (oo + (1 : Int32))), .val (.int k2), .val (.long dm), .second, .val (.long im), .second, .val (.long d2), .second, .val (.long i2), .second, .val (.int n1), .val (.int n2), .val (.ref b1), .val (.ref b4), .unset, .unset, .unset, .unset] [])
                      refine Go.of (fun _ k => XS.iload X6.here hx rfl (hb hby at_239) rfl k) ?_
                      show Go p e below _ T6 (mkF m 241 #[.val (.long x0), .second, .val (.long x1), .second, .val (.int x2), .val (.long x3), .second, .val (.long x4), .second, .val (.int x5), .val (.int sd), .val (.int si), .val (.int sk), .val (.int k1), .val (.int (oo + (1 : Int32))), .val (.int k2), .val (.long dm), .second, .val (.long im), .second, .val (.long d2), .second, .val (.long i2), .second, .val (.int n1), .val (.int n2), .val (.ref b1), .val (.ref b4), .unset, .unset, .unset, .unset] [(.int sk)])
                      by_cases hc241_15 : sk = (0 : Int32)
                      ·
                        refine Go.of (fun _ k => XS.ifYes X6.here hx rfl (pc0 := 241) (pc' := 248) rfl (hb hby at_241) rfl (XT.i0_eq_t hc241_15) (by decide) (by decide) k) ?_
                        show Go p e below _ T6 (mkF m 248 #[.val (.long x0), .second, .val (.long x1), .second, .val (.int x2), .val (.long x3), .second, .val (.long x4), .second, .val (.int x5), .val (.int sd), .val (.int si), .val (.int sk), .val (.int k1), .val (.int (oo + (1 : Int32))), .val (.int k2), .val (.long dm), .second, .val (.long im), .second, .val (.long d2), .second, .val (.long i2), .second, .val (.int n1), .val (.int n2), .val (.ref b1), .val (.ref b4), .unset, .unset, .unset, .unset] [])
                        refine Go.of (fun _ k => XS.iconst X6.here hx rfl (hb hby at_248) k) ?_
                        show Go p e below _ T6 (mkF m 249 #[.val (.long x0), .second, .val (.long x1), .second, .val (.int x2), .val (.long x3), .second, .val (.long x4), .second, .val (.int x5), .val (.int sd), .val (.int si), .val (.int sk), .val (.int k1), .val (.int (oo + (1 : Int32))), .val (.int k2), .val (.long dm), .second, .val (.long im), .second, .val (.long d2), .second, .val (.long i2), .second, .val (.int n1), .val (.int n2), .val (.ref b1), .val (.ref b4), .unset, .unset, .unset, .unset] [(.int (0 : Int32))])
                        refine Go.of (fun _ k => XS.istore X6.here hx rfl (hb hby at_249) rfl (l' := #[.val (.long x0), .second, .val (.long x1), .second, .val (.int x2), .val (.long x3), .second, .val (.long x4), .second, .val (.int x5), .val (.int sd), .val (.int si), .val (.int sk), .val (.int k1), .val (.int (oo + (1 : Int32))), .val (.int k2), .val (.long dm), .second, .val (.long im), .second, .val (.long d2), .second, .val (.long i2), .second, .val (.int n1), .val (.int n2), .val (.ref b1), .val (.ref b4), .val (.int (0 : Int32)), .unset, .unset, .unset]) rfl k) ?_
                        show Go p e below _ T6 (mkF m 251 #[.val (.long x0), .second, .val (.long x1), .second, .val (.int x2), .val (.long x3), .second, .val (.long x4), .second, .val (.int x5), .val (.int sd), .val (.int si), .val (.int sk), .val (.int k1), .val (.int (oo + (1 : Int32))), .val (.int k2), .val (.long dm), .second, .val (.long im), .second, .val (.long d2), .second, .val (.long i2), .second, .val (.int n1), .val (.int n2), .val (.ref b1), .val (.ref b4), .val (.int (0 : Int32)), .unset, .unset, .unset] [])
                        refine Go.of (fun _ k => XS.aload X6.here hx rfl (hb hby at_251) rfl rfl k) ?_
                        show Go p e below _ T6 (mkF m 253 #[.val (.long x0), .second, .val (.long x1), .second, .val (.int x2), .val (.long x3), .second, .val (.long x4), .second, .val (.int x5), .val (.int sd), .val (.int si), .val (.int sk), .val (.int k1), .val (.int (oo + (1 : Int32))), .val (.int k2), .val (.long dm), .second, .val (.long im), .second, .val (.long d2), .second, .val (.long i2), .second, .val (.int n1), .val (.int n2), .val (.ref b1), .val (.ref b4), .val (.int (0 : Int32)), .unset, .unset, .unset] [(.ref b1)])
                        refine Go.of (fun _ k => XS.aload X6.here hx rfl (hb hby at_253) rfl rfl k) ?_
                        show Go p e below _ T6 (mkF m 255 #[.val (.long x0), .second, .val (.long x1), .second, .val (.int x2), .val (.long x3), .second, .val (.long x4), .second, .val (.int x5), .val (.int sd), .val (.int si), .val (.int sk), .val (.int k1), .val (.int (oo + (1 : Int32))), .val (.int k2), .val (.long dm), .second, .val (.long im), .second, .val (.long d2), .second, .val (.long i2), .second, .val (.int n1), .val (.int n2), .val (.ref b1), .val (.ref b4), .val (.int (0 : Int32)), .unset, .unset, .unset] [(.ref b4), (.ref b1)])
                        obtain ⟨T16, X16, e16, st16⟩ := own_pure rfl rfl (own_callVQ X6 hx hZ (y := (⟨"com/example/upright_meter/uprightmeter/ObjectStat", "isSameObjectAs", "(Lcom/example/upright_meter/uprightmeter/ObjectStat;)Z"⟩ : MethodName)) hown (hw _ (List.mem_of_getElem? (i := 42) rfl)) (hw _ (List.mem_of_getElem? (i := 43) rfl)) (hw _ (List.mem_of_getElem? (i := 45) rfl)) (hw _ (List.mem_of_getElem? (i := 45) rfl)) (hw _ (List.mem_of_getElem? (i := 44) rfl)) (hw _ (List.mem_of_getElem? (i := 46) rfl)) (hw _ (List.mem_of_getElem? (i := 4) rfl)) (by decide) (c3 l Z a0 hw T6.heap b1 b4 (w (kdN k1)) (w (kdN k2)) x0 d2 x1 i2 (Fd3.ext x6_T3heap) (Fi3.ext x6_T3heap) (Fk3.ext x6_T3heap) Fd6 Fi6 Fk6 (0 : Int32) ((if_pos (Eq.symm (hd2.2 hc231_7))).trans ((if_pos (Eq.symm (hi2.2 hc236_11))).trans (if_neg (hI _ _ (kdN_lt _) (kdN_lt _) (kdN_inj Rk1 Rk2 (fun q => (hk2.1 hc241_15) (Eq.symm q)))))))) (by decide) 0 (by decide) (by decide) (by decide) (rfl : T6.heap = T6.heap) (Ea3.ext x6_T3heap) (g := (mkF m 255 #[.val (.long x0), .second, .val (.long x1), .second, .val (.int x2), .val (.long x3), .second, .val (.long x4), .second, .val (.int x5), .val (.int sd), .val (.int si), .val (.int sk), .val (.int k1), .val (.int (oo + (1 : Int32))), .val (.int k2), .val (.long dm), .second, .val (.long im), .second, .val (.long d2), .second, .val (.long i2), .second, .val (.int n1), .val (.int n2), .val (.ref b1), .val (.ref b4), .val (.int (0 : Int32)), .unset, .unset, .unset] [(.ref b4), (.ref b1)])) rfl (by rw [hml]; rfl) [(.ref b4)] [] (lenOf (by decide +kernel : parseMethodDescriptor "(Lcom/example/upright_meter/uprightmeter/ObjectStat;)Z" = some ⟨[(.object "com/example/upright_meter/uprightmeter/ObjectStat")], some .boolean⟩) rfl) rfl (by show 2 * 0 + _ ≤ _; exact Nat.le_of_eq rfl) rfl (hb hby at_255))
                        refine Go.of st16 ?_
                        show Go p e below _ T16 (mkF m 258 #[.val (.long x0), .second, .val (.long x1), .second, .val (.int x2), .val (.long x3), .second, .val (.long x4), .second, .val (.int x5), .val (.int sd), .val (.int si), .val (.int sk), .val (.int k1), .val (.int (oo + (1 : Int32))), .val (.int k2), .val (.long dm), .second, .val (.long im), .second, .val (.long d2), .second, .val (.long i2), .second, .val (.int n1), .val (.int n2), .val (.ref b1), .val (.ref b4), .val (.int (0 : Int32)), .unset, .unset, .unset] [(.int (0 : Int32))])
                        refine Go.of (fun _ k => XS.istore X16.here hx rfl (hb hby at_258) rfl (l' := #[.val (.long x0), .second, .val (.long x1), .second, .val (.int x2), .val (.long x3), .second, .val (.long x4), .second, .val (.int x5), .val (.int sd), .val (.int si), .val (.int sk), .val (.int k1), .val (.int (oo + (1 : Int32))), .val (.int k2), .val (.long dm), .second, .val (.long im), .second, .val (.long d2), .second, .val (.long i2), .second, .val (.int n1), .val (.int n2), .val (.ref b1), .val (.ref b4), .val (.int (0 : Int32)), .val (.int (0 : Int32)), .unset, .unset]) rfl k) ?_
                        show Go p e below _ T16 (mkF m 260 #[.val (.long x0), .second, .val (.long x1), .second, .val (.int x2), .val (.long x3), .second, .val (.long x4), .second, .val (.int x5), .val (.int sd), .val (.int si), .val (.int sk), .val (.int k1), .val (.int (oo + (1 : Int32))), .val (.int k2), .val (.long dm), .second, .val (.long im), .second, .val (.long d2), .second, .val (.long i2), .second, .val (.int n1), .val (.int n2), .val (.ref b1), .val (.ref b4), .val (.int (0 : Int32)), .val (.int (0 : Int32)), .unset, .unset] [])
                        refine Go.of (fun _ k => XS.aload X16.here hx rfl (hb hby at_260) rfl rfl k) ?_
                        show Go p e below _ T16 (mkF m 262 #[.val (.long x0), .second, .val (.long x1), .second, .val (.int x2), .val (.long x3), .second, .val (.long x4), .second, .val (.int x5), .val (.int sd), .val (.int si), .val (.int sk), .val (.int k1), .val (.int (oo + (1 : Int32))), .val (.int k2), .val (.long dm), .second, .val (.long im), .second, .val (.long d2), .second, .val (.long i2), .second, .val (.int n1), .val (.int n2), .val (.ref b1), .val (.ref b4), .val (.int (0 : Int32)), .val (.int (0 : Int32)), .unset, .unset] [(.ref b4)])
                        refine Go.of (fun _ k => XS.aload X16.here hx rfl (hb hby at_262) rfl rfl k) ?_
                        show Go p e below _ T16 (mkF m 264 #[.val (.long x0), .second, .val (.long x1), .second, .val (.int x2), .val (.long x3), .second, .val (.long x4), .second, .val (.int x5), .val (.int sd), .val (.int si), .val (.int sk), .val (.int k1), .val (.int (oo + (1 : Int32))), .val (.int k2), .val (.long dm), .second, .val (.long im), .second, .val (.long d2), .second, .val (.long i2), .second, .val (.int n1), .val (.int n2), .val (.ref b1), .val (.ref b4), .val (.int (0 : Int32)), .val (.int (0 : Int32)), .unset, .unset] [(.ref b1), (.ref b4)])
                        obtain ⟨T17, X17, e17, st17⟩ := own_pure rfl rfl (own_callVQ X16 hx hZ (y := (⟨"com/example/upright_meter/uprightmeter/ObjectStat", "isSameObjectAs", "(Lcom/example/upright_meter/uprightmeter/ObjectStat;)Z"⟩ : MethodName)) hown (hw _ (List.mem_of_getElem? (i := 42) rfl)) (hw _ (List.mem_of_getElem? (i := 43) rfl)) (hw _ (List.mem_of_getElem? (i := 45) rfl)) (hw _ (List.mem_of_getElem? (i := 45) rfl)) (hw _ (List.mem_of_getElem? (i := 44) rfl)) (hw _ (List.mem_of_getElem? (i := 46) rfl)) (hw _ (List.mem_of_getElem? (i := 4) rfl)) (by decide) (c3 l Z a0 hw T6.heap b4 b1 (w (kdN k2)) (w (kdN k1)) d2 x0 i2 x1 Fd6 Fi6 Fk6 (Fd3.ext x6_T3heap) (Fi3.ext x6_T3heap) (Fk3.ext x6_T3heap) (0 : Int32) ((if_pos (hd2.2 hc231_7)).trans ((if_pos (hi2.2 hc236_11)).trans (if_neg (hI _ _ (kdN_lt _) (kdN_lt _) (kdN_inj Rk2 Rk1 (hk2.1 hc241_15))))))) (by decide) 0 (by decide) (by decide) (by decide) e16 Ea6 (g := (mkF m 264 #[.val (.long x0), .second, .val (.long x1), .second, .val (.int x2), .val (.long x3), .second, .val (.long x4), .second, .val (.int x5), .val (.int sd), .val (.int si), .val (.int sk), .val (.int k1), .val (.int (oo + (1 : Int32))), .val (.int k2), .val (.long dm), .second, .val (.long im), .second, .val (.long d2), .second, .val (.long i2), .second, .val (.int n1), .val (.int n2), .val (.ref b1), .val (.ref b4), .val (.int (0 : Int32)), .val (.int (0 : Int32)), .unset, .unset] [(.ref b1), (.ref b4)])) rfl (by rw [hml]; rfl) [(.ref b1)] [] (lenOf (by decide +kernel : parseMethodDescriptor "(Lcom/example/upright_meter/uprightmeter/ObjectStat;)Z" = some ⟨[(.object "com/example/upright_meter/uprightmeter/ObjectStat")], some .boolean⟩) rfl) rfl (by show 2 * 0 + _ ≤ _; exact Nat.le_of_eq rfl) rfl (hb hby at_264))
                        refine Go.of st17 ?_
                        show Go p e below _ T17 (mkF m 267 #[.val (.long x0), .second, .val (.long x1), .second, .val (.int x2), .val (.long x3), .second, .val (.long x4), .second, .val (.int x5), .val (.int sd), .val (.int si), .val (.int sk), .val (.int k1), .val (.int (oo + (1 : Int32))), .val (.int k2), .val (.long dm), .second, .val (.long im), .second, .val (.long d2), .second, .val (.long i2), .second, .val (.int n1), .val (.int n2), .val (.ref b1), .val (.ref b4), .val (.int (0 : Int32)), .val (.int (0 : Int32)), .unset, .unset] [(.int (0 : Int32))])
                        refine Go.of (fun _ k => XS.istore X17.here hx rfl (hb hby at_267) rfl (l' := #[.val (.long x0), .second, .val (.long x1), .second, .val (.int x2), .val (.long x3), .second, .val (.long x4), .second, .val (.int x5), .val (.int sd), .val (.int si), .val (.int sk), .val (.int k1), .val (.int (oo + (1 : Int32))), .val (.int k2), .val (.long dm), .second, .val (.long im), .second, .val (.long d2), .second, .val (.long i2), .second, .val (.int n1), .val (.int n2), .val (.ref b1), .val (.ref b4), .val (.int (0 : Int32)), .val (.int (0 : Int32)), .val (.int (0 : Int32)), .unset]) rfl k) ?_
                        show Go p e below _ T17 (mkF m 269 #[.val (.long x0), .second, .val (.long x1), .second, .val (.int x2), .val (.long x3), .second, .val (.long x4), .second, .val (.int x5), .val (.int sd), .val (.int si), .val (.int sk), .val (.int k1), .val (.int (oo + (1 : Int32))), .val (.int k2), .val (.long dm), .second, .val (.long im), .second, .val (.long d2), .second, .val (.long i2), .second, .val (.int n1), .val (.int n2), .val (.ref b1), .val (.ref b4), .val (.int (0 : Int32)), .val (.int (0 : Int32)), .val (.int (0 : Int32)), .unset] [])
                        refine Go.of (fun _ k => XS.aload X17.here hx rfl (hb hby at_269) rfl rfl k) ?_
                        show Go p e below _ T17 (mkF m 271 #[.val (.long x0), .second, .val (.long x1), .second, .val (.int x2), .val (.long x3), .second, .val (.long x4), .second, .val (.int x5), .val (.int sd), .val (.int si), .val (.int sk), .val (.int k1), .val (.int (oo + (1 : Int32))), .val (.int k2), .val (.long dm), .second, .val (.long im), .second, .val (.long d2), .second, .val (.long i2), .second, .val (.int n1), .val (.int n2), .val (.ref b1), .val (.ref b4), .val (.int (0 : Int32)), .val (.int (0 : Int32)), .val (.int (0 : Int32)), .unset] [(.ref b1)])
                        refine Go.of (fun _ k => XS.aload X17.here hx rfl (hb hby at_271) rfl rfl k) ?_
                        show Go p e below _ T17 (mkF m 273 #[.val (.long x0), .second, .val (.long x1), .second, .val (.int x2), .val (.long x3), .second, .val (.long x4), .second, .val (.int x5), .val (.int sd), .val (.int si), .val (.int sk), .val (.int k1), .val (.int (oo + (1 : Int32))), .val (.int k2), .val (.long dm), .second, .val (.long im), .second, .val (.long d2), .second, .val (.long i2), .second, .val (.int n1), .val (.int n2), .val (.ref b1), .val (.ref b4), .val (.int (0 : Int32)), .val (.int (0 : Int32)), .val (.int (0 : Int32)), .unset] [(.ref b1), (.ref b1)])
                        obtain ⟨T18, X18, e18, st18⟩ := own_pure rfl rfl (own_callVQ X17 hx hZ (y := (⟨"com/example/upright_meter/uprightmeter/ObjectStat", "isSameObjectAs", "(Lcom/example/upright_meter/uprightmeter/ObjectStat;)Z"⟩ : MethodName)) hown (hw _ (List.mem_of_getElem? (i := 42) rfl)) (hw _ (List.mem_of_getElem? (i := 43) rfl)) (hw _ (List.mem_of_getElem? (i := 45) rfl)) (hw _ (List.mem_of_getElem? (i := 45) rfl)) (hw _ (List.mem_of_getElem? (i := 44) rfl)) (hw _ (List.mem_of_getElem? (i := 46) rfl)) (hw _ (List.mem_of_getElem? (i := 4) rfl)) (by decide) (c3 l Z a0 hw T6.heap b1 b1 (w (kdN k1)) (w (kdN k1)) x0 x0 x1 x1 (Fd3.ext x6_T3heap) (Fi3.ext x6_T3heap) (Fk3.ext x6_T3heap) (Fd3.ext x6_T3heap) (Fi3.ext x6_T3heap) (Fk3.ext x6_T3heap) (1 : Int32) (by simp [smo])) (by decide) 0 (by decide) (by decide) (by decide) e17 (Ea3.ext x6_T3heap) (g := (mkF m 273 #[.val (.long x0), .second, .val (.long x1), .second, .val (.int x2), .val (.long x3), .second, .val (.long x4), .second, .val (.int x5), .val (.int sd), .val (.int si), .val (.int sk), .val (.int k1), .val (.int (oo + (1 : Int32))), .val (.int k2), .val (.long dm), .second, .val (.long im), .second, .val (.long d2), .second, .val (.long i2), .second, .val (.int n1), .val (.int n2), .val (.ref b1), .val (.ref b4), .val (.int (0 : Int32)), .val (.int (0 : Int32)), .val (.int (0 : Int32)), .unset] [(.ref b1), (.ref b1)])) rfl (by rw [hml]; rfl) [(.ref b1)] [] (lenOf (by decide +kernel : parseMethodDescriptor "(Lcom/example/upright_meter/uprightmeter/ObjectStat;)Z" = some ⟨[(.object "com/example/upright_meter/uprightmeter/ObjectStat")], some .boolean⟩) rfl) rfl (by show 2 * 0 + _ ≤ _; exact Nat.le_of_eq rfl) rfl (hb hby at_273))
                        refine Go.of st18 ?_
                        show Go p e below _ T18 (mkF m 276 #[.val (.long x0), .second, .val (.long x1), .second, .val (.int x2), .val (.long x3), .second, .val (.long x4), .second, .val (.int x5), .val (.int sd), .val (.int si), .val (.int sk), .val (.int k1), .val (.int (oo + (1 : Int32))), .val (.int k2), .val (.long dm), .second, .val (.long im), .second, .val (.long d2), .second, .val (.long i2), .second, .val (.int n1), .val (.int n2), .val (.ref b1), .val (.ref b4), .val (.int (0 : Int32)), .val (.int (0 : Int32)), .val (.int (0 : Int32)), .unset] [(.int (1 : Int32))])
                        refine Go.of (fun _ k => XS.istore X18.here hx rfl (hb hby at_276) rfl (l' := #[.val (.long x0), .second, .val (.long x1), .second, .val (.int x2), .val (.long x3), .second, .val (.long x4), .second, .val (.int x5), .val (.int sd), .val (.int si), .val (.int sk), .val (.int k1), .val (.int (oo + (1 : Int32))), .val (.int k2), .val (.long dm), .second, .val (.long im), .second, .val (.long d2), .second, .val (.long i2), .second, .val (.int n1), .val (.int n2), .val (.ref b1), .val (.ref b4), .val (.int (0 : Int32)), .val (.int (0 : Int32)), .val (.int (0 : Int32)), .val (.int (1 : Int32))]) rfl k) ?_
                        show Go p e below _ T18 (mkF m 278 #[.val (.long x0), .second, .val (.long x1), .second, .val (.int x2), .val (.long x3), .second, .val (.long x4), .second, .val (.int x5), .val (.int sd), .val (.int si), .val (.int sk), .val (.int k1), .val (.int (oo + (1 : Int32))), .val (.int k2), .val (.long dm), .second, .val (.long im), .second, .val (.long d2), .second, .val (.long i2), .second, .val (.int n1), .val (.int n2), .val (.ref b1), .val (.ref b4), .val (.int (0 : Int32)), .val (.int (0 : Int32)), .val (.int (0 : Int32)), .val (.int (1 : Int32))] [])
                        refine Go.of (fun _ k => XS.iload X18.here hx rfl (hb hby at_278) rfl k) ?_
                        show Go p e below _ T18 (mkF m 280 #[.val (.long x0), .second, .val (.long x1), .second, .val (.int x2), .val (.long x3), .second, .val (.long x4), .second, .val (.int x5), .val (.int sd), .val (.int si), .val (.int sk), .val (.int k1), .val (.int (oo + (1 : Int32))), .val (.int k2), .val (.long dm), .second, .val (.long im), .second, .val (.long d2), .second, .val (.long i2), .second, .val (.int n1), .val (.int n2), .val (.ref b1), .val (.ref b4), .val (.int (0 : Int32)), .val (.int (0 : Int32)), .val (.int (0 : Int32)), .val (.int (1 : Int32))] [(.int (0 : Int32))])
                        refine Go.of (fun _ k => XS.iload X18.here hx rfl (hb hby at_280) rfl k) ?_
                        show Go p e below _ T18 (mkF m 282 #[.val (.long x0), .second, .val (.long x1), .second, .val (.int x2), .val (.long x3), .second, .val (.long x4), .second, .val (.int x5), .val (.int sd), .val (.int si), .val (.int sk), .val (.int k1), .val (.int (oo + (1 : Int32))), .val (.int k2), .val (.long dm), .second, .val (.long im), .second, .val (.long d2), .second, .val (.long i2), .second, .val (.int n1), .val (.int n2), .val (.ref b1), .val (.ref b4), .val (.int (0 : Int32)), .val (.int (0 : Int32)), .val (.int (0 : Int32)), .val (.int (1 : Int32))] [(.int (0 : Int32)), (.int (0 : Int32))])
                        refine Go.of (fun _ k => XS.icmpNo X18.here hx rfl (hb hby at_282) rfl (XT.ii_ne_f (by decide)) k) ?_
                        show Go p e below _ T18 (mkF m 285 #[.val (.long x0), .second, .val (.long x1), .second, .val (.int x2), .val (.long x3), .second, .val (.long x4), .second, .val (.int x5), .val (.int sd), .val (.int si), .val (.int sk), .val (.int k1), .val (.int (oo + (1 : Int32))), .val (.int k2), .val (.long dm), .second, .val (.long im), .second, .val (.long d2), .second, .val (.long i2), .second, .val (.int n1), .val (.int n2), .val (.ref b1), .val (.ref b4), .val (.int (0 : Int32)), .val (.int (0 : Int32)), .val (.int (0 : Int32)), .val (.int (1 : Int32))] [])
                        refine Go.of (fun _ k => XS.iload X18.here hx rfl (hb hby at_285) rfl k) ?_
                        show Go p e below _ T18 (mkF m 287 #[.val (.long x0), .second, .val (.long x1), .second, .val (.int x2), .val (.long x3), .second, .val (.long x4), .second, .val (.int x5), .val (.int sd), .val (.int si), .val (.int sk), .val (.int k1), .val (.int (oo + (1 : Int32))), .val (.int k2), .val (.long dm), .second, .val (.long im), .second, .val (.long d2), .second, .val (.long i2), .second, .val (.int n1), .val (.int n2), .val (.ref b1), .val (.ref b4), .val (.int (0 : Int32)), .val (.int (0 : Int32)), .val (.int (0 : Int32)), .val (.int (1 : Int32))] [(.int (0 : Int32))])
                        refine Go.of (fun _ k => XS.iload X18.here hx rfl (hb hby at_287) rfl k) ?_
                        show Go p e below _ T18 (mkF m 289 #[.val (.long x0), .second, .val (.long x1), .second, .val (.int x2), .val (.long x3), .second, .val (.long x4), .second, .val (.int x5), .val (.int sd), .val (.int si), .val (.int sk), .val (.int k1), .val (.int (oo + (1 : Int32))), .val (.int k2), .val (.long dm), .second, .val (.long im), .second, .val (.long d2), .second, .val (.long i2), .second, .val (.int n1), .val (.int n2), .val (.ref b1), .val (.ref b4), .val (.int (0 : Int32)), .val (.int (0 : Int32)), .val (.int (0 : Int32)), .val (.int (1 : Int32))] [(.int (0 : Int32)), (.int (0 : Int32))])
                        refine Go.of (fun _ k => XS.icmpNo X18.here hx rfl (hb hby at_289) rfl (XT.ii_ne_f (by decide)) k) ?_
                        show Go p e below _ T18 (mkF m 292 #[.val (.long x0), .second, .val (.long x1), .second, .val (.int x2), .val (.long x3), .second, .val (.long x4), .second, .val (.int x5), .val (.int sd), .val (.int si), .val (.int sk), .val (.int k1), .val (.int (oo + (1 : Int32))), .val (.int k2), .val (.long dm), .second, .val (.long im), .second, .val (.long d2), .second, .val (.long i2), .second, .val (.int n1), .val (.int n2), .val (.ref b1), .val (.ref b4), .val (.int (0 : Int32)), .val (.int (0 : Int32)), .val (.int (0 : Int32)), .val (.int (1 : Int32))] [])
                        refine Go.of (fun _ k => XS.iload X18.here hx rfl (hb hby at_292) rfl k) ?_
                        show Go p e below _ T18 (mkF m 294 #[.val (.long x0), .second, .val (.long x1), .second, .val (.int x2), .val (.long x3), .second, .val (.long x4), .second, .val (.int x5), .val (.int sd), .val (.int si), .val (.int sk), .val (.int k1), .val (.int (oo + (1 : Int32))), .val (.int k2), .val (.long dm), .second, .val (.long im), .second, .val (.long d2), .second, .val (.long i2), .second, .val (.int n1), .val (.int n2), .val (.ref b1), .val (.ref b4), .val (.int (0 : Int32)), .val (.int (0 : Int32)), .val (.int (0 : Int32)), .val (.int (1 : Int32))] [(.int (1 : Int32))])
                        refine Go.of (fun _ k => XS.ifNo X18.here hx rfl (hb hby at_294) rfl (XT.i0_eq_f (by decide)) k) ?_
                        show Go p e below _ T18 (mkF m 297 #[.val (.long x0), .second, .val (.long x1), .second, .val (.int x2), .val (.long x3), .second, .val (.long x4), .second, .val (.int x5), .val (.int sd), .val (.int si), .val (.int sk), .val (.int k1), .val (.int (oo + (1 : Int32))), .val (.int k2), .val (.long dm), .second, .val (.long im), .second, .val (.long d2), .second, .val (.long i2), .second, .val (.int n1), .val (.int n2), .val (.ref b1), .val (.ref b4), .val (.int (0 : Int32)), .val (.int (0 : Int32)), .val (.int (0 : Int32)), .val (.int (1 : Int32))] [])
                        refine Go.of (fun _ k => XS.iconst X18.here hx rfl (hb hby at_297) k) ?_
                        show Go p e below _ T18 (mkF m 298 #[.val (.long x0), .second, .val (.long x1), .second, .val (.int x2), .val (.long x3), .second, .val (.long x4), .second, .val (.int x5), .val (.int sd), .val (.int si), .val (.int sk), .val (.int k1), .val (.int (oo + (1 : Int32))), .val (.int k2), .val (.long dm), .second, .val (.long im), .second, .val (.long d2), .second, .val (.long i2), .second, .val (.int n1), .val (.int n2), .val (.ref b1), .val (.ref b4), .val (.int (0 : Int32)), .val (.int (0 : Int32)), .val (.int (0 : Int32)), .val (.int (1 : Int32))] [(.int (1 : Int32))])
                        refine Go.of (fun _ k => XS.goto X18.here hx rfl (pc0 := 298) (pc' := 302) rfl (hb hby at_298) (by decide) (by decide) k) ?_
                        show Go p e below _ T18 (mkF m 302 #[.val (.long x0), .second, .val (.long x1), .second, .val (.int x2), .val (.long x3), .second, .val (.long x4), .second, .val (.int x5), .val (.int sd), .val (.int si), .val (.int sk), .val (.int k1), .val (.int (oo + (1 : Int32))), .val (.int k2), .val (.long dm), .second, .val (.long im), .second, .val (.long d2), .second, .val (.long i2), .second, .val (.int n1), .val (.int n2), .val (.ref b1), .val (.ref b4), .val (.int (0 : Int32)), .val (.int (0 : Int32)), .val (.int (0 : Int32)), .val (.int (1 : Int32))] [(.int (1 : Int32))])
                        exact own_retZ (z' := (1 : Int32)) X18 hx hlk hret (hb hby at_302) rfl ⟨rfl, N6⟩ (by decide) (by decide)
                      ·
                        refine Go.of (fun _ k => XS.ifNo X6.here hx rfl (hb hby at_241) rfl (XT.i0_eq_f hc241_15) k) ?_
                        show Go p e below _ T6 (mkF m 244 #[.val (.long x0), .second, .val (.long x1), .second, .val (.int x2), .val (.long x3), .second, .val (.long x4), .second, .val (.int x5), .val (.int sd), .val (.int si), .val (.int sk), .val (.int k1), .val (.int (oo + (1 : Int32))), .val (.int k2), .val (.long dm), .second, .val (.long im), .second, .val (.long d2), .second, .val (.long i2), .second, .val (.int n1), .val (.int n2), .val (.ref b1), .val (.ref b4), .unset, .unset, .unset, .unset] [])
                        refine Go.of (fun _ k => XS.iconst X6.here hx rfl (hb hby at_244) k) ?_
                        show Go p e below _ T6 (mkF m 245 #[.val (.long x0), .second, .val (.long x1), .second, .val (.int x2), .val (.long x3), .second, .val (.long x4), .second, .val (.int x5), .val (.int sd), .val (.int si), .val (.int sk), .val (.int k1), .val (.int (oo + (1 : Int32))), .val (.int k2), .val (.long dm), .second, .val (.long im), .second, .val (.long d2), .second, .val (.long i2), .second, .val (.int n1), .val (.int n2), .val (.ref b1), .val (.ref b4), .unset, .unset, .unset, .unset] [(.int (1 : Int32))])
                        refine Go.of (fun _ k => XS.goto X6.here hx rfl (pc0 := 245) (pc' := 249) rfl (hb hby at_245) (by decide) (by decide) k) ?_
                        show Go p e below _ T6 (mkF m 249 #[.val (.long x0), .second, .val (.long x1), .second, .val (.int x2), .val (.long x3), .second, .val (.long x4), .second, .val (.int x5), .val (.int sd), .val (.int si), .val (.int sk), .val (.int k1), .val (.int (oo + (1 : Int32))), .val (.int k2), .val (.long dm), .second, .val (.long im), .second, .val (.long d2), .second, .val (.long i2), .second, .val (.int n1), .val (.int n2), .val (.ref b1), .val (.ref b4), .unset, .unset, .unset, .unset] [(.int (1 : Int32))])
                        refine Go.of (fun _ k => XS.istore X6.here hx rfl (hb hby at_249) rfl (l' := #[.val (.long x0), .second, .val (.long x1), .second, .val (.int x2), .val (.long x3), .second, .val (.long x4), .second, .val (.int x5), .val (.int sd), .val (.int si), .val (.int sk), .val (.int k1), .val (.int (oo + (1 : Int32))), .val (.int k2), .val (.long dm), .second, .val (.long im), .second, .val (.long d2), .second, .val (.long i2), .second, .val (.int n1), .val (.int n2), .val (.ref b1), .val (.ref b4), .val (.int (1 : Int32)), .unset, .unset, .unset]) rfl k) ?_
                        show Go p e below _ T6 (mkF m 251 #[.val (.long x0), .second, .val (.long x1), .second, .val (.int x2), .val (.long x3), .second, .val (.long x4), .second, .val (.int x5), .val (.int sd), .val (.int si), .val (.int sk), .val (.int k1), .val (.int (oo + (1 : Int32))), .val (.int k2), .val (.long dm), .second, .val (.long im), .second, .val (.long d2), .second, .val (.long i2), .second, .val (.int n1), .val (.int n2), .val (.ref b1), .val (.ref b4), .val (.int (1 : Int32)), .unset, .unset, .unset] [])
                        refine Go.of (fun _ k => XS.aload X6.here hx rfl (hb hby at_251) rfl rfl k) ?_
                        show Go p e below _ T6 (mkF m 253 #[.val (.long x0), .second, .val (.long x1), .second, .val (.int x2), .val (.long x3), .second, .val (.long x4), .second, .val (.int x5), .val (.int sd), .val (.int si), .val (.int sk), .val (.int k1), .val (.int (oo + (1 : Int32))), .val (.int k2), .val (.long dm), .second, .val (.long im), .second, .val (.long d2), .second, .val (.long i2), .second, .val (.int n1), .val (.int n2), .val (.ref b1), .val (.ref b4), .val (.int (1 : Int32)), .unset, .unset, .unset] [(.ref b1)])
                        refine Go.of (fun _ k => XS.aload X6.here hx rfl (hb hby at_253) rfl rfl k) ?_
                        show Go p e below _ T6 (mkF m 255 #[.val (.long x0), .second, .val (.long x1), .second, .val (.int x2), .val (.long x3), .second, .val (.long x4), .second, .val (.int x5), .val (.int sd), .val (.int si), .val (.int sk), .val (.int k1), .val (.int (oo + (1 : Int32))), .val (.int k2), .val (.long dm), .second, .val (.long im), .second, .val (.long d2), .second, .val (.long i2), .second, .val (.int n1), .val (.int n2), .val (.ref b1), .val (.ref b4), .val (.int (1 : Int32)), .unset, .unset, .unset] [(.ref b4), (.ref b1)])
                        obtain ⟨T19, X19, e19, st19⟩ := own_pure rfl rfl (own_callVQ X6 hx hZ (y := (⟨"com/example/upright_meter/uprightmeter/ObjectStat", "isSameObjectAs", "(Lcom/example/upright_meter/uprightmeter/ObjectStat;)Z"⟩ : MethodName)) hown (hw _ (List.mem_of_getElem? (i := 42) rfl)) (hw _ (List.mem_of_getElem? (i := 43) rfl)) (hw _ (List.mem_of_getElem? (i := 45) rfl)) (hw _ (List.mem_of_getElem? (i := 45) rfl)) (hw _ (List.mem_of_getElem? (i := 44) rfl)) (hw _ (List.mem_of_getElem? (i := 46) rfl)) (hw _ (List.mem_of_getElem? (i := 4) rfl)) (by decide) (c3 l Z a0 hw T6.heap b1 b4 (w (kdN k1)) (w (kdN k2)) x0 d2 x1 i2 (Fd3.ext x6_T3heap) (Fi3.ext x6_T3heap) (Fk3.ext x6_T3heap) Fd6 Fi6 Fk6 (1 : Int32) ((if_pos (Eq.symm (hd2.2 hc231_7))).trans ((if_pos (Eq.symm (hi2.2 hc236_11))).trans (if_pos (congrArg (fun z => w (kdN z)) (Eq.symm (hk2.2 hc241_15))))))) (by decide) 0 (by decide) (by decide) (by decide) (rfl : T6.heap = T6.heap) (Ea3.ext x6_T3heap) (g := (mkF m 255 #[.val (.long x0), .second, .val (.long x1), .second, .val (.int x2), .val (.long x3), .second, .val (.long x4), .second, .val (.int x5), .val (.int sd), .val (.int si), .val (.int sk), .val (.int k1), .val (.int (oo + (1 : Int32))), .val (.int k2), .val (.long dm), .second, .val (.long im), .second, .val (.long d2), .second, .val (.long i2), .second, .val (.int n1), .val (.int n2), .val (.ref b1), .val (.ref b4), .val (.int (1 : Int32)), .unset, .unset, .unset] [(.ref b4), (.ref b1)])) rfl (by rw [hml]; rfl) [(.ref b4)] [] (lenOf (by decide +kernel : parseMethodDescriptor "(Lcom/example/upright_meter/uprightmeter/ObjectStat;)Z" = some ⟨[(.object "com/example/upright_meter/uprightmeter/ObjectStat")], some .boolean⟩) rfl) rfl (by show 2 * 0 + _ ≤ _; exact Nat.le_of_eq rfl) rfl (hb hby at_255))
                        refine Go.of st19 ?_
                        show Go p e below _ T19 (mkF m 258 #[.val (.long x0), .second, .val (.long x1), .second, .val (.int x2), .val (.long x3), .second, .val (.long x4), .second, .val (.int x5), .val (.int sd), .val (.int si), .val (.int sk), .val (.int k1), .val (.int (oo + (1 : Int32))), .val (.int k2), .val (.long dm), .second, .val (.long im), .second, .val (.long d2), .second, .val (.long i2), .second, .val (.int n1), .val (.int n2), .val (.ref b1), .val (.ref b4), .val (.int (1 : Int32)), .unset, .unset, .unset] [(.int (1 : Int32))])
                        refine Go.of (fun _ k => XS.istore X19.here hx rfl (hb hby at_258) rfl (l' := #[.val (.long x0), .second, .val (.long x1), .second, .val (.int x2), .val (.long x3), .second, .val (.long x4), .second, .val (.int x5), .val (.int sd), .val (.int si), .val (.int sk), .val (.int k1), .val (.int (oo + (1 : Int32))), .val (.int k2), .val (.long dm), .second, .val (.long im), .second, .val (.long d2), .second, .val (.long i2), .second, .val (.int n1), .val (.int n2), .val (.ref b1), .val (.ref b4), .val (.int (1 : Int32)), .val (.int (1 : Int32)), .unset, .unset]) rfl k) ?_
                        show Go p e below _ T19 (mkF m 260 #[.val (.long x0), .second, .val (.long x1), .second, .val (.int x2), .val (.long x3), .second, .val (.long x4), .second, .val (.int x5), .val (.int sd), .val (.int si), .val (.int sk), .val (.int k1), .val (.int (oo + (1 : Int32))), .val (.int k2), .val (.long dm), .second, .val (.long im), .second, .val (.long d2), .second, .val (.long i2), .second, .val (.int n1), .val (.int n2), .val (.ref b1), .val (.ref b4), .val (.int (1 : Int32)), .val (.int (1 : Int32)), .unset, .unset] [])
                        refine Go.of (fun _ k => XS.aload X19.here hx rfl (hb hby at_260) rfl rfl k) ?_
                        show Go p e below _ T19 (mkF m 262 #[.val (.long x0), .second, .val (.long x1), .second, .val (.int x2), .val (.long x3), .second, .val (.long x4), .second, .val (.int x5), .val (.int sd), .val (.int si), .val (.int sk), .val (.int k1), .val (.int (oo + (1 : Int32))), .val (.int k2), .val (.long dm), .second, .val (.long im), .second, .val (.long d2), .second, .val (.long i2), .second, .val (.int n1), .val (.int n2), .val (.ref b1), .val (.ref b4), .val (.int (1 : Int32)), .val (.int (1 : Int32)), .unset, .unset] [(.ref b4)])
                        refine Go.of (fun _ k => XS.aload X19.here hx rfl (hb hby at_262) rfl rfl k) ?_
                        show Go p e below _ T19 (mkF m 264 #[.val (.long x0), .second, .val (.long x1), .second, .val (.int x2), .val (.long x3), .second, .val (.long x4), .second, .val (.int x5), .val (.int sd), .val (.int si), .val (.int sk), .val (.int k1), .val (.int (oo + (1 : Int32))), .val (.int k2), .val (.long dm), .second, .val (.long im), .second, .val (.long d2), .second, .val (.long i2), .second, .val (.int n1), .val (.int n2), .val (.ref b1), .val (.ref b4), .val (.int (1 : Int32)), .val (.int (1 : Int32)), .unset, .unset] [(.ref b1), (.ref b4)])
                        obtain ⟨T20, X20, e20, st20⟩ := own_pure rfl rfl (own_callVQ X19 hx hZ (y := (⟨"com/example/upright_meter/uprightmeter/ObjectStat", "isSameObjectAs", "(Lcom/example/upright_meter/uprightmeter/ObjectStat;)Z"⟩ : MethodName)) hown (hw _ (List.mem_of_getElem? (i := 42) rfl)) (hw _ (List.mem_of_getElem? (i := 43) rfl)) (hw _ (List.mem_of_getElem? (i := 45) rfl)) (hw _ (List.mem_of_getElem? (i := 45) rfl)) (hw _ (List.mem_of_getElem? (i := 44) rfl)) (hw _ (List.mem_of_getElem? (i := 46) rfl)) (hw _ (List.mem_of_getElem? (i := 4) rfl)) (by decide) (c3 l Z a0 hw T6.heap b4 b1 (w (kdN k2)) (w (kdN k1)) d2 x0 i2 x1 Fd6 Fi6 Fk6 (Fd3.ext x6_T3heap) (Fi3.ext x6_T3heap) (Fk3.ext x6_T3heap) (1 : Int32) ((if_pos (hd2.2 hc231_7)).trans ((if_pos (hi2.2 hc236_11)).trans (if_pos (congrArg (fun z => w (kdN z)) (hk2.2 hc241_15)))))) (by decide) 0 (by decide) (by decide) (by decide) e19 Ea6 (g := (mkF m 264 #[.val (.long x0), .second, .val (.long x1), .second, .val (.int x2), .val (.long x3), .second, .val (.long x4), .second, .val (.int x5), .val (.int sd), .val (.int si), .val (.int sk), .val (.int k1), .val (.int (oo + (1 : Int32))), .val (.int k2), .val (.long dm), .second, .val (.long im), .second, .val (.long d2), .second, .val (.long i2), .second, .val (.int n1), .val (.int n2), .val (.ref b1), .val (.ref b4), .val (.int (1 : Int32)), .val (.int (1 : Int32)), .unset, .unset] [(.ref b1), (.ref b4)])) rfl (by rw [hml]; rfl) [(.ref b1)] [] (lenOf (by decide +kernel : parseMethodDescriptor "(Lcom/example/upright_meter/uprightmeter/ObjectStat;)Z" = some ⟨[(.object "com/example/upright_meter/uprightmeter/ObjectStat")], some .boolean⟩) rfl) rfl (by show 2 * 0 + _ ≤ _; exact Nat.le_of_eq rfl) rfl (hb hby at_264))
                        refine Go.of st20 ?_
                        show Go p e below _ T20 (mkF m 267 #[.val (.long x0), .second, .val (.long x1), .second, .val (.int x2), .val (.long x3), .second, .val (.long x4), .second, .val (.int x5), .val (.int sd), .val (.int si), .val (.int sk), .val (.int k1), .val (.int (oo + (1 : Int32))), .val (.int k2), .val (.long dm), .second, .val (.long im), .second, .val (.long d2), .second, .val (.long i2), .second, .val (.int n1), .val (.int n2), .val (.ref b1), .val (.ref b4), .val (.int (1 : Int32)), .val (.int (1 : Int32)), .unset, .unset] [(.int (1 : Int32))])
                        refine Go.of (fun _ k => XS.istore X20.here hx rfl (hb hby at_267) rfl (l' := #[.val (.long x0), .second, .val (.long x1), .second, .val (.int x2), .val (.long x3), .second, .val (.long x4), .second, .val (.int x5), .val (.int sd), .val (.int si), .val (.int sk), .val (.int k1), .val (.int (oo + (1 : Int32))), .val (.int k2), .val (.long dm), .second, .val (.long im), .second, .val (.long d2), .second, .val (.long i2), .second, .val (.int n1), .val (.int n2), .val (.ref b1), .val (.ref b4), .val (.int (1 : Int32)), .val (.int (1 : Int32)), .val (.int (1 : Int32)), .unset]) rfl k) ?_
                        show Go p e below _ T20 (mkF m 269 #[.val (.long x0), .second, .val (.long x1), .second, .val (.int x2), .val (.long x3), .second, .val (.long x4), .second, .val (.int x5), .val (.int sd), .val (.int si), .val (.int sk), .val (.int k1), .val (.int (oo + (1 : Int32))), .val (.int k2), .val (.long dm), .second, .val (.long im), .second, .val (.long d2), .second, .val (.long i2), .second, .val (.int n1), .val (.int n2), .val (.ref b1), .val (.ref b4), .val (.int (1 : Int32)), .val (.int (1 : Int32)), .val (.int (1 : Int32)), .unset] [])
                        refine Go.of (fun _ k => XS.aload X20.here hx rfl (hb hby at_269) rfl rfl k) ?_
                        show Go p e below _ T20 (mkF m 271 #[.val (.long x0), .second, .val (.long x1), .second, .val (.int x2), .val (.long x3), .second, .val (.long x4), .second, .val (.int x5), .val (.int sd), .val (.int si), .val (.int sk), .val (.int k1), .val (.int (oo + (1 : Int32))), .val (.int k2), .val (.long dm), .second, .val (.long im), .second, .val (.long d2), .second, .val (.long i2), .second, .val (.int n1), .val (.int n2), .val (.ref b1), .val (.ref b4), .val (.int (1 : Int32)), .val (.int (1 : Int32)), .val (.int (1 : Int32)), .unset] [(.ref b1)])
                        refine Go.of (fun _ k => XS.aload X20.here hx rfl (hb hby at_271) rfl rfl k) ?_
                        show Go p e below _ T20 (mkF m 273 #[.val (.long x0), .second, .val (.long x1), .second, .val (.int x2), .val (.long x3), .second, .val (.long x4), .second, .val (.int x5), .val (.int sd), .val (.int si), .val (.int sk), .val (.int k1), .val (.int (oo + (1 : Int32))), .val (.int k2), .val (.long dm), .second, .val (.long im), .second, .val (.long d2), .second, .val (.long i2), .second, .val (.int n1), .val (.int n2), .val (.ref b1), .val (.ref b4), .val (.int (1 : Int32)), .val (.int (1 : Int32)), .val (.int (1 : Int32)), .unset] [(.ref b1), (.ref b1)])
                        obtain ⟨T21, X21, e21, st21⟩ := own_pure rfl rfl (own_callVQ X20 hx hZ (y := (⟨"com/example/upright_meter/uprightmeter/ObjectStat", "isSameObjectAs", "(Lcom/example/upright_meter/uprightmeter/ObjectStat;)Z"⟩ : MethodName)) hown (hw _ (List.mem_of_getElem? (i := 42) rfl)) (hw _ (List.mem_of_getElem? (i := 43) rfl)) (hw _ (List.mem_of_getElem? (i := 45) rfl)) (hw _ (List.mem_of_getElem? (i := 45) rfl)) (hw _ (List.mem_of_getElem? (i := 44) rfl)) (hw _ (List.mem_of_getElem? (i := 46) rfl)) (hw _ (List.mem_of_getElem? (i := 4) rfl)) (by decide) (c3 l Z a0 hw T6.heap b1 b1 (w (kdN k1)) (w (kdN k1)) x0 x0 x1 x1 (Fd3.ext x6_T3heap) (Fi3.ext x6_T3heap) (Fk3.ext x6_T3heap) (Fd3.ext x6_T3heap) (Fi3.ext x6_T3heap) (Fk3.ext x6_T3heap) (1 : Int32) (by simp [smo])) (by decide) 0 (by decide) (by decide) (by decide) e20 (Ea3.ext x6_T3heap) (g := (mkF m 273 #[.val (.long x0), .second, .val (.long x1), .second, .val (.int x2), .val (.long x3), .second, .val (.long x4), .second, .val (.int x5), .val (.int sd), .val (.int si), .val (.int sk), .val (.int k1), .val (.int (oo + (1 : Int32))), .val (.int k2), .val (.long dm), .second, .val (.long im), .second, .val (.long d2), .second, .val (.long i2), .second, .val (.int n1), .val (.int n2), .val (.ref b1), .val (.ref b4), .val (.int (1 : Int32)), .val (.int (1 : Int32)), .val (.int (1 : Int32)), .unset] [(.ref b1), (.ref b1)])) rfl (by rw [hml]; rfl) [(.ref b1)] [] (lenOf (by decide +kernel : parseMethodDescriptor "(Lcom/example/upright_meter/uprightmeter/ObjectStat;)Z" = some ⟨[(.object "com/example/upright_meter/uprightmeter/ObjectStat")], some .boolean⟩) rfl) rfl (by show 2 * 0 + _ ≤ _; exact Nat.le_of_eq rfl) rfl (hb hby at_273))
                        refine Go.of st21 ?_
                        show Go p e below _ T21 (mkF m 276 #[.val (.long x0), .second, .val (.long x1), .second, .val (.int x2), .val (.long x3), .second, .val (.long x4), .second, .val (.int x5), .val (.int sd), .val (.int si), .val (.int sk), .val (.int k1), .val (.int (oo + (1 : Int32))), .val (.int k2), .val (.long dm), .second, .val (.long im), .second, .val (.long d2), .second, .val (.long i2), .second, .val (.int n1), .val (.int n2), .val (.ref b1), .val (.ref b4), .val (.int (1 : Int32)), .val (.int (1 : Int32)), .val (.int (1 : Int32)), .unset] [(.int (1 : Int32))])
                        refine Go.of (fun _ k => XS.istore X21.here hx rfl (hb hby at_276) rfl (l' := #[.val (.long x0), .second, .val (.long x1), .second, .val (.int x2), .val (.long x3), .second, .val (.long x4), .second, .val (.int x5), .val (.int sd), .val (.int si), .val (.int sk), .val (.int k1), .val (.int (oo + (1 : Int32))), .val (.int k2), .val (.long dm), .second, .val (.long im), .second, .val (.long d2), .second, .val (.long i2), .second, .val (.int n1), .val (.int n2), .val (.ref b1), .val (.ref b4), .val (.int (1 : Int32)), .val (.int (1 : Int32)), .val (.int (1 : Int32)), .val (.int (1 : Int32))]) rfl k) ?_
                        show Go p e below _ T21 (mkF m 278 #[.val (.long x0), .second, .val (.long x1), .second, .val (.int x2), .val (.long x3), .second, .val (.long x4), .second, .val (.int x5), .val (.int sd), .val (.int si), .val (.int sk), .val (.int k1), .val (.int (oo + (1 : Int32))), .val (.int k2), .val (.long dm), .second, .val (.long im), .second, .val (.long d2), .second, .val (.long i2), .second, .val (.int n1), .val (.int n2), .val (.ref b1), .val (.ref b4), .val (.int (1 : Int32)), .val (.int (1 : Int32)), .val (.int (1 : Int32)), .val (.int (1 : Int32))] [])
                        refine Go.of (fun _ k => XS.iload X21.here hx rfl (hb hby at_278) rfl k) ?_
                        show Go p e below _ T21 (mkF m 280 #[.val (.long x0), .second, .val (.long x1), .second, .val (.int x2), .val (.long x3), .second, .val (.long x4), .second, .val (.int x5), .val (.int sd), .val (.int si), .val (.int sk), .val (.int k1), .val (.int (oo + (1 : Int32))), .val (.int k2), .val (.long dm), .second, .val (.long im), .second, .val (.long d2), .second, .val (.long i2), .second, .val (.int n1), .val (.int n2), .val (.ref b1), .val (.ref b4), .val (.int (1 : Int32)), .val (.int (1 : Int32)), .val (.int (1 : Int32)), .val (.int (1 : Int32))] [(.int (1 : Int32))])
                        refine Go.of (fun _ k => XS.iload X21.here hx rfl (hb hby at_280) rfl k) ?_
                        show Go p e below _ T21 (mkF m 282 #[.val (.long x0), .second, .val (.long x1), .second, .val (.int x2), .val (.long x3), .second, .val (.long x4), .second, .val (.int x5), .val (.int sd), .val (.int si), .val (.int sk), .val (.int k1), .val (.int (oo + (1 : Int32))), .val (.int k2), .val (.long dm), .second, .val (.long im), .second, .val (.long d2), .second, .val (.long i2), .second, .val (.int n1), .val (.int n2), .val (.ref b1), .val (.ref b4), .val (.int (1 : Int32)), .val (.int (1 : Int32)), .val (.int (1 : Int32)), .val (.int (1 : Int32))] [(.int (1 : Int32)), (.int (1 : Int32))])
                        refine Go.of (fun _ k => XS.icmpNo X21.here hx rfl (hb hby at_282) rfl (XT.ii_ne_f (by decide)) k) ?_
                        show Go p e below _ T21 (mkF m 285 #[.val (.long x0), .second, .val (.long x1), .second, .val (.int x2), .val (.long x3), .second, .val (.long x4), .second, .val (.int x5), .val (.int sd), .val (.int si), .val (.int sk), .val (.int k1), .val (.int (oo + (1 : Int32))), .val (.int k2), .val (.long dm), .second, .val (.long im), .second, .val (.long d2), .second, .val (.long i2), .second, .val (.int n1), .val (.int n2), .val (.ref b1), .val (.ref b4), .val (.int (1 : Int32)), .val (.int (1 : Int32)), .val (.int (1 : Int32)), .val (.int (1 : Int32))] [])
                        refine Go.of (fun _ k => XS.iload X21.here hx rfl (hb hby at_285) rfl k) ?_
                        show Go p e below _ T21 (mkF m 287 #[.val (.long x0), .second, .val (.long x1), .second, .val (.int x2), .val (.long x3), .second, .val (.long x4), .second, .val (.int x5), .val (.int sd), .val (.int si), .val (.int sk), .val (.int k1), .val (.int (oo + (1 : Int32))), .val (.int k2), .val (.long dm), .second, .val (.long im), .second, .val (.long d2), .second, .val (.long i2), .second, .val (.int n1), .val (.int n2), .val (.ref b1), .val (.ref b4), .val (.int (1 : Int32)), .val (.int (1 : Int32)), .val (.int (1 : Int32)), .val (.int (1 : Int32))] [(.int (1 : Int32))])
                        refine Go.of (fun _ k => XS.iload X21.here hx rfl (hb hby at_287) rfl k) ?_
                        show Go p e below _ T21 (mkF m 289 #[.val (.long x0), .second, .val (.long x1), .second, .val (.int x2), .val (.long x3), .second, .val (.long x4), .second, .val (.int x5), .val (.int sd), .val (.int si), .val (.int sk), .val (.int k1), .val (.int (oo + (1 : Int32))), .val (.int k2), .val (.long dm), .second, .val (.long im), .second, .val (.long d2), .second, .val (.long i2), .second, .val (.int n1), .val (.int n2), .val (.ref b1), .val (.ref b4), .val (.int (1 : Int32)), .val (.int (1 : Int32)), .val (.int (1 : Int32)), .val (.int (1 : Int32))] [(.int (1 : Int32)), (.int (1 : Int32))])
                        refine Go.of (fun _ k => XS.icmpNo X21.here hx rfl (hb hby at_289) rfl (XT.ii_ne_f (by decide)) k) ?_
                        show Go p e below _ T21 (mkF m 292 #[.val (.long x0), .second, .val (.long x1), .second, .val (.int x2), .val (.long x3), .second, .val (.long x4), .second, .val (.int x5), .val (.int sd), .val (.int si), .val (.int sk), .val (.int k1), .val (.int (oo + (1 : Int32))), .val (.int k2), .val (.long dm), .second, .val (.long im), .second, .val (.long d2), .second, .val (.long i2), .second, .val (.int n1), .val (.int n2), .val (.ref b1), .val (.ref b4), .val (.int (1 : Int32)), .val (.int (1 : Int32)), .val (.int (1 : Int32)), .val (.int (1 : Int32))] [])
                        refine Go.of (fun _ k => XS.iload X21.here hx rfl (hb hby at_292) rfl k) ?_
                        show Go p e below _ T21 (mkF m 294 #[.val (.long x0), .second, .val (.long x1), .second, .val (.int x2), .val (.long x3), .second, .val (.long x4), .second, .val (.int x5), .val (.int sd), .val (.int si), .val (.int sk), .val (.int k1), .val (.int (oo + (1 : Int32))), .val (.int k2), .val (.long dm), .second, .val (.long im), .second, .val (.long d2), .second, .val (.long i2), .second, .val (.int n1), .val (.int n2), .val (.ref b1), .val (.ref b4), .val (.int (1 : Int32)), .val (.int (1 : Int32)), .val (.int (1 : Int32)), .val (.int (1 : Int32))] [(.int (1 : Int32))])
                        refine Go.of (fun _ k => XS.ifNo X21.here hx rfl (hb hby at_294) rfl (XT.i0_eq_f (by decide)) k) ?_
                        show Go p e below _ T21 (mkF m 297 #[.val (.long x0), .second, .val (.long x1), .second, .val (.int x2), .val (.long x3), .second, .val (.long x4), .second, .val (.int x5), .val (.int sd), .val (.int si), .val (.int sk), .val (.int k1), .val (.int (oo + (1 : Int32))), .val (.int k2), .val (.long dm), .second, .val (.long im), .second, .val (.long d2), .second, .val (.long i2), .second, .val (.int n1), .val (.int n2), .val (.ref b1), .val (.ref b4), .val (.int (1 : Int32)), .val (.int (1 : Int32)), .val (.int (1 : Int32)), .val (.int (1 : Int32))] [])
                        refine Go.of (fun _ k => XS.iconst X21.here hx rfl (hb hby at_297) k) ?_
                        show Go p e below _ T21 (mkF m 298 #[.val (.long x0), .second, .val (.long x1), .second, .val (.int x2), .val (.long x3), .second, .val (.long x4), .second, .val (.int x5), .val (.int sd), .val (.int si), .val (.int sk), .val (.int k1), .val (.int (oo + (1 : Int32))), .val (.int k2), .val (.long dm), .second, .val (.long im), .second, .val (.long d2), .second, .val (.long i2), .second, .val (.int n1), .val (.int n2), .val (.ref b1), .val (.ref b4), .val (.int (1 : Int32)), .val (.int (1 : Int32)), .val (.int (1 : Int32)), .val (.int (1 : Int32))] [(.int (1 : Int32))])
                        refine Go.of (fun _ k => XS.goto X21.here hx rfl (pc0 := 298) (pc' := 302) rfl (hb hby at_298) (by decide) (by decide) k) ?_
                        show Go p e below _ T21 (mkF m 302 #[.val (.long x0), .second, .val (.long x1), .second, .val (.int x2), .val (.long x3), .second, .val (.long x4), .second, .val (.int x5), .val (.int sd), .val (.int si), .val (.int sk), .val (.int k1), .val (.int (oo + (1 : Int32))), .val (.int k2), .val (.long dm), .second, .val (.long im), .second, .val (.long d2), .second, .val (.long i2), .second, .val (.int n1), .val (.int n2), .val (.ref b1), .val (.ref b4), .val (.int (1 : Int32)), .val (.int (1 : Int32)), .val (.int (1 : Int32)), .val (.int (1 : Int32))] [(.int (1 : Int32))])
                        exact own_retZ (z' := (1 : Int32)) X21 hx hlk hret (hb hby at_302) rfl ⟨rfl, N6⟩ (by decide) (by decide)
                refine Go.of (fun _ k => XS.iload X0.here hx rfl (hb hby at_128) rfl k) ?_
                show Go p e below _ s₁ (mkF m 130 #[.val (.long x0), .second, .val (.long x1), .second, .val (.int x2), .val (.long x3), .second, .val (.long x4), .second, .val (.int x5), .val (.int sd), .val (.int si), .val (.int sk), .val (.int k1), .val (.int (oo + (1 : Int32))), .val (.int k2), .val (.long dm), .second, .val (.long im), .second, .val (.long d2), .second, .unset, .unset, .unset, .unset, .unset, .unset, .unset, .unset, .unset, .unset] [(.int si)])
                by_cases hc130_22 : si = (0 : Int32)
                ·
                  refine Go.of (fun _ k => XS.ifYes X0.here hx rfl (pc0 := 130) (pc' := 137) rfl (hb hby at_130) rfl (XT.i0_eq_t hc130_22) (by decide) (by decide) k) ?_
                  show Go p e below _ s₁ (mkF m 137 #[.val (.long x0), .second, .val (.long x1), .second, .val (.int x2), .val (.long x3), .second, .val (.long x4), .second, .val (.int x5), .val (.int sd), .val (.int si), .val (.int sk), .val (.int k1), .val (.int (oo + (1 : Int32))), .val (.int k2), .val (.long dm), .second, .val (.long im), .second, .val (.long d2), .second, .unset, .unset, .unset, .unset, .unset, .unset, .unset, .unset, .unset, .unset] [])
                  refine Go.of (fun _ k => XT.lloadN X0.here hx rfl (hb hby at_137) rfl k) ?_
                  show Go p e below _ s₁ (mkF m 138 #[.val (.long x0), .second, .val (.long x1), .second, .val (.int x2), .val (.long x3), .second, .val (.long x4), .second, .val (.int x5), .val (.int sd), .val (.int si), .val (.int sk), .val (.int k1), .val (.int (oo + (1 : Int32))), .val (.int k2), .val (.long dm), .second, .val (.long im), .second, .val (.long d2), .second, .unset, .unset, .unset, .unset, .unset, .unset, .unset, .unset, .unset, .unset] [(.long x1)])
                  refine Go.of (fun _ k => XT.lload X0.here hx rfl (hb hby at_138) rfl k) ?_
                  show Go p e below _ s₁ (mkF m 140 #[.val (.long x0), .second, .val (.long x1), .second, .val (.int x2), .val (.long x3), .second, .val (.long x4), .second, .val (.int x5), .val (.int sd), .val (.int si), .val (.int sk), .val (.int k1), .val (.int (oo + (1 : Int32))), .val (.int k2), .val (.long dm), .second, .val (.long im), .second, .val (.long d2), .second, .unset, .unset, .unset, .unset, .unset, .unset, .unset, .unset, .unset, .unset] [(.long im), (.long x1)])
                  refine Go.of (fun _ k => XT.lxor X0.here hx rfl (hb hby at_140) rfl k) ?_
                  show Go p e below _ s₁ (mkF m 141 #[.val (.long x0), .second, .val (.long x1), .second, .val (.int x2), .val (.long x3), .second, .val (.long x4), .second, .val (.int x5), .val (.int sd), .val (.int si), .val (.int sk), .val (.int k1), .val (.int (oo + (1 : Int32))), .val (.int k2), .val (.long dm), .second, .val (.long im), .second, .val (.long d2), .second, .unset, .unset, .unset, .unset, .unset, .unset, .unset, .unset, .unset, .unset] [(.long (x1 ^^^ im))])
                  exact J141 _ (⟨fun _ => own_ne_xor _ _ him, fun q => absurd hc130_22 q⟩)
                ·
                  refine Go.of (fun _ k => XS.ifNo X0.here hx rfl (hb hby at_130) rfl (XT.i0_eq_f hc130_22) k) ?_
                  show Go p e below _ s₁ (mkF m 133 #[.val (.long x0), .second, .val (.long x1), .second, .val (.int x2), .val (.long x3), .second, .val (.long x4), .second, .val (.int x5), .val (.int sd), .val (.int si), .val (.int sk), .val (.int k1), .val (.int (oo + (1 : Int32))), .val (.int k2), .val (.long dm), .second, .val (.long im), .second, .val (.long d2), .second, .unset, .unset, .unset, .unset, .unset, .unset, .unset, .unset, .unset, .unset] [])
                  refine Go.of (fun _ k => XT.lloadN X0.here hx rfl (hb hby at_133) rfl k) ?_
                  show Go p e below _ s₁ (mkF m 134 #[.val (.long x0), .second, .val (.long x1), .second, .val (.int x2), .val (.long x3), .second, .val (.long x4), .second, .val (.int x5), .val (.int sd), .val (.int si), .val (.int sk), .val (.int k1), .val (.int (oo + (1 : Int32))), .val (.int k2), .val (.long dm), .second, .val (.long im), .second, .val (.long d2), .second, .unset, .unset, .unset, .unset, .unset, .unset, .unset, .unset, .unset, .unset] [(.long x1)])
                  refine Go.of (fun _ k => XS.goto X0.here hx rfl (pc0 := 134) (pc' := 141) rfl (hb hby at_134) (by decide) (by decide) k) ?_
                  show Go p e below _ s₁ (mkF m 141 #[.val (.long x0), .second, .val (.long x1), .second, .val (.int x2), .val (.long x3), .second, .val (.long x4), .second, .val (.int x5), .val (.int sd), .val (.int si), .val (.int sk), .val (.int k1), .val (.int (oo + (1 : Int32))), .val (.int k2), .val (.long dm), .second, .val (.long im), .second, .val (.long d2), .second, .unset, .unset, .unset, .unset, .unset, .unset, .unset, .unset, .unset, .unset] [(.long x1)])
                  exact J141 _ (⟨fun q => absurd q hc130_22, fun _ => rfl⟩)
              refine Go.of (fun _ k => XS.iload X0.here hx rfl (hb hby at_113) rfl k) ?_
              show Go p e below _ s₁ (mkF m 115 #[.val (.long x0), .second, .val (.long x1), .second, .val (.int x2), .val (.long x3), .second, .val (.long x4), .second, .val (.int x5), .val (.int sd), .val (.int si), .val (.int sk), .val (.int k1), .val (.int (oo + (1 : Int32))), .val (.int k2), .val (.long dm), .second, .val (.long im), .second, .unset, .unset, .unset, .unset, .unset, .unset, .unset, .unset, .unset, .unset, .unset, .unset] [(.int sd)])
              by_cases hc115_23 : sd = (0 : Int32)
              ·
                refine Go.of (fun _ k => XS.ifYes X0.here hx rfl (pc0 := 115) (pc' := 122) rfl (hb hby at_115) rfl (XT.i0_eq_t hc115_23) (by decide) (by decide) k) ?_
                show Go p e below _ s₁ (mkF m 122 #[.val (.long x0), .second, .val (.long x1), .second, .val (.int x2), .val (.long x3), .second, .val (.long x4), .second, .val (.int x5), .val (.int sd), .val (.int si), .val (.int sk), .val (.int k1), .val (.int (oo + (1 : Int32))), .val (.int k2), .val (.long dm), .second, .val (.long im), .second, .unset, .unset, .unset, .unset, .unset, .unset, .unset, .unset, .unset, .unset, .unset, .unset] [])
                refine Go.of (fun _ k => XT.lloadN X0.here hx rfl (hb hby at_122) rfl k) ?_
                show Go p e below _ s₁ (mkF m 123 #[.val (.long x0), .second, .val (.long x1), .second, .val (.int x2), .val (.long x3), .second, .val (.long x4), .second, .val (.int x5), .val (.int sd), .val (.int si), .val (.int sk), .val (.int k1), .val (.int (oo + (1 : Int32))), .val (.int k2), .val (.long dm), .second, .val (.long im), .second, .unset, .unset, .unset, .unset, .unset, .unset, .unset, .unset, .unset, .unset, .unset, .unset] [(.long x0)])
                refine Go.of (fun _ k => XT.lload X0.here hx rfl (hb hby at_123) rfl k) ?_
                show Go p e below _ s₁ (mkF m 125 #[.val (.long x0), .second, .val (.long x1), .second, .val (.int x2), .val (.long x3), .second, .val (.long x4), .second, .val (.int x5), .val (.int sd), .val (.int si), .val (.int sk), .val (.int k1), .val (.int (oo + (1 : Int32))), .val (.int k2), .val (.long dm), .second, .val (.long im), .second, .unset, .unset, .unset, .unset, .unset, .unset, .unset, .unset, .unset, .unset, .unset, .unset] [(.long dm), (.long x0)])
                refine Go.of (fun _ k => XT.lxor X0.here hx rfl (hb hby at_125) rfl k) ?_
                show Go p e below _ s₁ (mkF m 126 #[.val (.long x0), .second, .val (.long x1), .second, .val (.int x2), .val (.long x3), .second, .val (.long x4), .second, .val (.int x5), .val (.int sd), .val (.int si), .val (.int sk), .val (.int k1), .val (.int (oo + (1 : Int32))), .val (.int k2), .val (.long dm), .second, .val (.long im), .second, .unset, .unset, .unset, .unset, .unset, .unset, .unset, .unset, .unset, .unset, .unset, .unset] [(.long (x0 ^^^ dm))])
                exact J126 _ (⟨fun _ => own_ne_xor _ _ hdm, fun q => absurd hc115_23 q⟩)
              ·
                refine Go.of (fun _ k => XS.ifNo X0.here hx rfl (hb hby at_115) rfl (XT.i0_eq_f hc115_23) k) ?_
                show Go p e below _ s₁ (mkF m 118 #[.val (.long x0), .second, .val (.long x1), .second, .val (.int x2), .val (.long x3), .second, .val (.long x4), .second, .val (.int x5), .val (.int sd), .val (.int si), .val (.int sk), .val (.int k1), .val (.int (oo + (1 : Int32))), .val (.int k2), .val (.long dm), .second, .val (.long im), .second, .unset, .unset, .unset, .unset, .unset, .unset, .unset, .unset, .unset, .unset, .unset, .unset] [])
                refine Go.of (fun _ k => XT.lloadN X0.here hx rfl (hb hby at_118) rfl k) ?_
                show Go p e below _ s₁ (mkF m 119 #[.val (.long x0), .second, .val (.long x1), .second, .val (.int x2), .val (.long x3), .second, .val (.long x4), .second, .val (.int x5), .val (.int sd), .val (.int si), .val (.int sk), .val (.int k1), .val (.int (oo + (1 : Int32))), .val (.int k2), .val (.long dm), .second, .val (.long im), .second, .unset, .unset, .unset, .unset, .unset, .unset, .unset, .unset, .unset, .unset, .unset, .unset] [(.long x0)])
                refine Go.of (fun _ k => XS.goto X0.here hx rfl (pc0 := 119) (pc' := 126) rfl (hb hby at_119) (by decide) (by decide) k) ?_
                show Go p e below _ s₁ (mkF m 126 #[.val (.long x0), .second, .val (.long x1), .second, .val (.int x2), .val (.long x3), .second, .val (.long x4), .second, .val (.int x5), .val (.int sd), .val (.int si), .val (.int sk), .val (.int k1), .val (.int (oo + (1 : Int32))), .val (.int k2), .val (.long dm), .second, .val (.long im), .second, .unset, .unset, .unset, .unset, .unset, .unset, .unset, .unset, .unset, .unset, .unset, .unset] [(.long x0)])
                exact J126 _ (⟨fun q => absurd q hc115_23, fun _ => rfl⟩)
            refine Go.of (fun _ k => XT.lload X0.here hx rfl (hb hby at_98) rfl k) ?_
            show Go p e below _ s₁ (mkF m 100 #[.val (.long x0), .second, .val (.long x1), .second, .val (.int x2), .val (.long x3), .second, .val (.long x4), .second, .val (.int x5), .val (.int sd), .val (.int si), .val (.int sk), .val (.int k1), .val (.int (oo + (1 : Int32))), .val (.int k2), .val (.long dm), .second, .unset, .unset, .unset, .unset, .unset, .unset, .unset, .unset, .unset, .unset, .unset, .unset, .unset, .unset] [(.long x4)])
            refine Go.of (fun _ k => XT.lconst X0.here hx rfl (hb hby at_100) k) ?_
            show Go p e below _ s₁ (mkF m 101 #[.val (.long x0), .second, .val (.long x1), .second, .val (.int x2), .val (.long x3), .second, .val (.long x4), .second, .val (.int x5), .val (.int sd), .val (.int si), .val (.int sk), .val (.int k1), .val (.int (oo + (1 : Int32))), .val (.int k2), .val (.long dm), .second, .unset, .unset, .unset, .unset, .unset, .unset, .unset, .unset, .unset, .unset, .unset, .unset, .unset, .unset] [(.long (0 : Int64)), (.long x4)])
            refine Go.of (fun _ k => XT.lcmp X0.here hx rfl (hb hby at_101) rfl k) ?_
            show Go p e below _ s₁ (mkF m 102 #[.val (.long x0), .second, .val (.long x1), .second, .val (.int x2), .val (.long x3), .second, .val (.long x4), .second, .val (.int x5), .val (.int sd), .val (.int si), .val (.int sk), .val (.int k1), .val (.int (oo + (1 : Int32))), .val (.int k2), .val (.long dm), .second, .unset, .unset, .unset, .unset, .unset, .unset, .unset, .unset, .unset, .unset, .unset, .unset, .unset, .unset] [(.int (XT.cmpL x4 (0 : Int64)))])
            by_cases hc102_24 : x4 = (0 : Int64)
            ·
              refine Go.of (fun _ k => XS.ifYes X0.here hx rfl (pc0 := 102) (pc' := 110) rfl (hb hby at_102) rfl (XT.ll_eq_t hc102_24) (by decide) (by decide) k) ?_
              show Go p e below _ s₁ (mkF m 110 #[.val (.long x0), .second, .val (.long x1), .second, .val (.int x2), .val (.long x3), .second, .val (.long x4), .second, .val (.int x5), .val (.int sd), .val (.int si), .val (.int sk), .val (.int k1), .val (.int (oo + (1 : Int32))), .val (.int k2), .val (.long dm), .second, .unset, .unset, .unset, .unset, .unset, .unset, .unset, .unset, .unset, .unset, .unset, .unset, .unset, .unset] [])
              refine Go.of (fun _ k => XT.lconst X0.here hx rfl (hb hby at_110) k) ?_
              show Go p e below _ s₁ (mkF m 111 #[.val (.long x0), .second, .val (.long x1), .second, .val (.int x2), .val (.long x3), .second, .val (.long x4), .second, .val (.int x5), .val (.int sd), .val (.int si), .val (.int sk), .val (.int k1), .val (.int (oo + (1 : Int32))), .val (.int k2), .val (.long dm), .second, .unset, .unset, .unset, .unset, .unset, .unset, .unset, .unset, .unset, .unset, .unset, .unset, .unset, .unset] [(.long (1 : Int64))])
              exact J111 _ (by decide)
            ·
              refine Go.of (fun _ k => XS.ifNo X0.here hx rfl (hb hby at_102) rfl (XT.ll_eq_f hc102_24) k) ?_
              show Go p e below _ s₁ (mkF m 105 #[.val (.long x0), .second, .val (.long x1), .second, .val (.int x2), .val (.long x3), .second, .val (.long x4), .second, .val (.int x5), .val (.int sd), .val (.int si), .val (.int sk), .val (.int k1), .val (.int (oo + (1 : Int32))), .val (.int k2), .val (.long dm), .second, .unset, .unset, .unset, .unset, .unset, .unset, .unset, .unset, .unset, .unset, .unset, .unset, .unset, .unset] [])
              refine Go.of (fun _ k => XT.lload X0.here hx rfl (hb hby at_105) rfl k) ?_
              show Go p e below _ s₁ (mkF m 107 #[.val (.long x0), .second, .val (.long x1), .second, .val (.int x2), .val (.long x3), .second, .val (.long x4), .second, .val (.int x5), .val (.int sd), .val (.int si), .val (.int sk), .val (.int k1), .val (.int (oo + (1 : Int32))), .val (.int k2), .val (.long dm), .second, .unset, .unset, .unset, .unset, .unset, .unset, .unset, .unset, .unset, .unset, .unset, .unset, .unset, .unset] [(.long x4)])
              refine Go.of (fun _ k => XS.goto X0.here hx rfl (pc0 := 107) (pc' := 111) rfl (hb hby at_107) (by decide) (by decide) k) ?_
              show Go p e below _ s₁ (mkF m 111 #[.val (.long x0), .second, .val (.long x1), .second, .val (.int x2), .val (.long x3), .second, .val (.long x4), .second, .val (.int x5), .val (.int sd), .val (.int si), .val (.int sk), .val (.int k1), .val (.int (oo + (1 : Int32))), .val (.int k2), .val (.long dm), .second, .unset, .unset, .unset, .unset, .unset, .unset, .unset, .unset, .unset, .unset, .unset, .unset, .unset, .unset] [(.long x4)])
              exact J111 _ (hc102_24)
          refine Go.of (fun _ k => XT.lload X0.here hx rfl (hb hby at_83) rfl k) ?_
          show Go p e below _ s₁ (mkF m 85 #[.val (.long x0), .second, .val (.long x1), .second, .val (.int x2), .val (.long x3), .second, .val (.long x4), .second, .val (.int x5), .val (.int sd), .val (.int si), .val (.int sk), .val (.int k1), .val (.int (oo + (1 : Int32))), .val (.int k2), .unset, .unset, .unset, .unset, .unset, .unset, .unset, .unset, .unset, .unset, .unset, .unset, .unset, .unset, .unset, .unset] [(.long x3)])
          refine Go.of (fun _ k => XT.lconst X0.here hx rfl (hb hby at_85) k) ?_
          show Go p e below _ s₁ (mkF m 86 #[.val (.long x0), .second, .val (.long x1), .second, .val (.int x2), .val (.long x3), .second, .val (.long x4), .second, .val (.int x5), .val (.int sd), .val (.int si), .val (.int sk), .val (.int k1), .val (.int (oo + (1 : Int32))), .val (.int k2), .unset, .unset, .unset, .unset, .unset, .unset, .unset, .unset, .unset, .unset, .unset, .unset, .unset, .unset, .unset, .unset] [(.long (0 : Int64)), (.long x3)])
          refine Go.of (fun _ k => XT.lcmp X0.here hx rfl (hb hby at_86) rfl k) ?_
          show Go p e below _ s₁ (mkF m 87 #[.val (.long x0), .second, .val (.long x1), .second, .val (.int x2), .val (.long x3), .second, .val (.long x4), .second, .val (.int x5), .val (.int sd), .val (.int si), .val (.int sk), .val (.int k1), .val (.int (oo + (1 : Int32))), .val (.int k2), .unset, .unset, .unset, .unset, .unset, .unset, .unset, .unset, .unset, .unset, .unset, .unset, .unset, .unset, .unset, .unset] [(.int (XT.cmpL x3 (0 : Int64)))])
          by_cases hc87_25 : x3 = (0 : Int64)
          ·
            refine Go.of (fun _ k => XS.ifYes X0.here hx rfl (pc0 := 87) (pc' := 95) rfl (hb hby at_87) rfl (XT.ll_eq_t hc87_25) (by decide) (by decide) k) ?_
            show Go p e below _ s₁ (mkF m 95 #[.val (.long x0), .second, .val (.long x1), .second, .val (.int x2), .val (.long x3), .second, .val (.long x4), .second, .val (.int x5), .val (.int sd), .val (.int si), .val (.int sk), .val (.int k1), .val (.int (oo + (1 : Int32))), .val (.int k2), .unset, .unset, .unset, .unset, .unset, .unset, .unset, .unset, .unset, .unset, .unset, .unset, .unset, .unset, .unset, .unset] [])
            refine Go.of (fun _ k => XT.lconst X0.here hx rfl (hb hby at_95) k) ?_
            show Go p e below _ s₁ (mkF m 96 #[.val (.long x0), .second, .val (.long x1), .second, .val (.int x2), .val (.long x3), .second, .val (.long x4), .second, .val (.int x5), .val (.int sd), .val (.int si), .val (.int sk), .val (.int k1), .val (.int (oo + (1 : Int32))), .val (.int k2), .unset, .unset, .unset, .unset, .unset, .unset, .unset, .unset, .unset, .unset, .unset, .unset, .unset, .unset, .unset, .unset] [(.long (1 : Int64))])
            exact J96 _ (by decide)
          ·
            refine Go.of (fun _ k => XS.ifNo X0.here hx rfl (hb hby at_87) rfl (XT.ll_eq_f hc87_25) k) ?_
            show Go p e below _ s₁ (mkF m 90 #[.val (.long x0), .second, .val (.long x1), .second, .val (.int x2), .val (.long x3), .second, .val (.long x4), .second, .val (.int x5), .val (.int sd), .val (.int si), .val (.int sk), .val (.int k1), .val (.int (oo + (1 : Int32))), .val (.int k2), .unset, .unset, .unset, .unset, .unset, .unset, .unset, .unset, .unset, .unset, .unset, .unset, .unset, .unset, .unset, .unset] [])
            refine Go.of (fun _ k => XT.lload X0.here hx rfl (hb hby at_90) rfl k) ?_
            show Go p e below _ s₁ (mkF m 92 #[.val (.long x0), .second, .val (.long x1), .second, .val (.int x2), .val (.long x3), .second, .val (.long x4), .second, .val (.int x5), .val (.int sd), .val (.int si), .val (.int sk), .val (.int k1), .val (.int (oo + (1 : Int32))), .val (.int k2), .unset, .unset, .unset, .unset, .unset, .unset, .unset, .unset, .unset, .unset, .unset, .unset, .unset, .unset, .unset, .unset] [(.long x3)])
            refine Go.of (fun _ k => XS.goto X0.here hx rfl (pc0 := 92) (pc' := 96) rfl (hb hby at_92) (by decide) (by decide) k) ?_
            show Go p e below _ s₁ (mkF m 96 #[.val (.long x0), .second, .val (.long x1), .second, .val (.int x2), .val (.long x3), .second, .val (.long x4), .second, .val (.int x5), .val (.int sd), .val (.int si), .val (.int sk), .val (.int k1), .val (.int (oo + (1 : Int32))), .val (.int k2), .unset, .unset, .unset, .unset, .unset, .unset, .unset, .unset, .unset, .unset, .unset, .unset, .unset, .unset, .unset, .unset] [(.long x3)])
            exact J96 _ (hc87_25)
        refine Go.of (fun _ k => XS.iload X0.here hx rfl (hb hby at_63) rfl k) ?_
        show Go p e below _ s₁ (mkF m 65 #[.val (.long x0), .second, .val (.long x1), .second, .val (.int x2), .val (.long x3), .second, .val (.long x4), .second, .val (.int x5), .val (.int sd), .val (.int si), .val (.int sk), .val (.int k1), .val (.int (oo + (1 : Int32))), .unset, .unset, .unset, .unset, .unset, .unset, .unset, .unset, .unset, .unset, .unset, .unset, .unset, .unset, .unset, .unset, .unset] [(.int sk)])
        by_cases hc65_26 : sk = (0 : Int32)
        ·
          refine Go.of (fun _ k => XS.ifYes X0.here hx rfl (pc0 := 65) (pc' := 73) rfl (hb hby at_65) rfl (XT.i0_eq_t hc65_26) (by decide) (by decide) k) ?_
          show Go p e below _ s₁ (mkF m 73 #[.val (.long x0), .second, .val (.long x1), .second, .val (.int x2), .val (.long x3), .second, .val (.long x4), .second, .val (.int x5), .val (.int sd), .val (.int si), .val (.int sk), .val (.int k1), .val (.int (oo + (1 : Int32))), .unset, .unset, .unset, .unset, .unset, .unset, .unset, .unset, .unset, .unset, .unset, .unset, .unset, .unset, .unset, .unset, .unset] [])
          refine Go.of (fun _ k => XS.iload X0.here hx rfl (hb hby at_73) rfl k) ?_
          show Go p e below _ s₁ (mkF m 75 #[.val (.long x0), .second, .val (.long x1), .second, .val (.int x2), .val (.long x3), .second, .val (.long x4), .second, .val (.int x5), .val (.int sd), .val (.int si), .val (.int sk), .val (.int k1), .val (.int (oo + (1 : Int32))), .unset, .unset, .unset, .unset, .unset, .unset, .unset, .unset, .unset, .unset, .unset, .unset, .unset, .unset, .unset, .unset, .unset] [(.int k1)])
          refine Go.of (fun _ k => XS.iload X0.here hx rfl (hb hby at_75) rfl k) ?_
          show Go p e below _ s₁ (mkF m 77 #[.val (.long x0), .second, .val (.long x1), .second, .val (.int x2), .val (.long x3), .second, .val (.long x4), .second, .val (.int x5), .val (.int sd), .val (.int si), .val (.int sk), .val (.int k1), .val (.int (oo + (1 : Int32))), .unset, .unset, .unset, .unset, .unset, .unset, .unset, .unset, .unset, .unset, .unset, .unset, .unset, .unset, .unset, .unset, .unset] [(.int (oo + (1 : Int32))), (.int k1)])
          refine Go.of (fun _ k => XS.iadd X0.here hx rfl (hb hby at_77) rfl k) ?_
          show Go p e below _ s₁ (mkF m 78 #[.val (.long x0), .second, .val (.long x1), .second, .val (.int x2), .val (.long x3), .second, .val (.long x4), .second, .val (.int x5), .val (.int sd), .val (.int si), .val (.int sk), .val (.int k1), .val (.int (oo + (1 : Int32))), .unset, .unset, .unset, .unset, .unset, .unset, .unset, .unset, .unset, .unset, .unset, .unset, .unset, .unset, .unset, .unset, .unset] [(.int (k1 + (oo + (1 : Int32))))])
          refine Go.of (fun _ k => XS.bipush X0.here hx rfl (hb hby at_78) k) ?_
          show Go p e below _ s₁ (mkF m 80 #[.val (.long x0), .second, .val (.long x1), .second, .val (.int x2), .val (.long x3), .second, .val (.long x4), .second, .val (.int x5), .val (.int sd), .val (.int si), .val (.int sk), .val (.int k1), .val (.int (oo + (1 : Int32))), .unset, .unset, .unset, .unset, .unset, .unset, .unset, .unset, .unset, .unset, .unset, .unset, .unset, .unset, .unset, .unset, .unset] [(.int (7 : Int32)), (.int (k1 + (oo + (1 : Int32))))])
          refine Go.of (fun _ k => XS.iand X0.here hx rfl (hb hby at_80) rfl k) ?_
          show Go p e below _ s₁ (mkF m 81 #[.val (.long x0), .second, .val (.long x1), .second, .val (.int x2), .val (.long x3), .second, .val (.long x4), .second, .val (.int x5), .val (.int sd), .val (.int si), .val (.int sk), .val (.int k1), .val (.int (oo + (1 : Int32))), .unset, .unset, .unset, .unset, .unset, .unset, .unset, .unset, .unset, .unset, .unset, .unset, .unset, .unset, .unset, .unset, .unset] [(.int ((k1 + (oo + (1 : Int32))) &&& (7 : Int32)))])
          exact J81 _ (⟨fun _ => own_add7 Rk1 Ro, fun q => absurd hc65_26 q, own_and7 _⟩)
        ·
          refine Go.of (fun _ k => XS.ifNo X0.here hx rfl (hb hby at_65) rfl (XT.i0_eq_f hc65_26) k) ?_
          show Go p e below _ s₁ (mkF m 68 #[.val (.long x0), .second, .val (.long x1), .second, .val (.int x2), .val (.long x3), .second, .val (.long x4), .second, .val (.int x5), .val (.int sd), .val (.int si), .val (.int sk), .val (.int k1), .val (.int (oo + (1 : Int32))), .unset, .unset, .unset, .unset, .unset, .unset, .unset, .unset, .unset, .unset, .unset, .unset, .unset, .unset, .unset, .unset, .unset] [])
          refine Go.of (fun _ k => XS.iload X0.here hx rfl (hb hby at_68) rfl k) ?_
          show Go p e below _ s₁ (mkF m 70 #[.val (.long x0), .second, .val (.long x1), .second, .val (.int x2), .val (.long x3), .second, .val (.long x4), .second, .val (.int x5), .val (.int sd), .val (.int si), .val (.int sk), .val (.int k1), .val (.int (oo + (1 : Int32))), .unset, .unset, .unset, .unset, .unset, .unset, .unset, .unset, .unset, .unset, .unset, .unset, .unset, .unset, .unset, .unset, .unset] [(.int k1)])
          refine Go.of (fun _ k => XS.goto X0.here hx rfl (pc0 := 70) (pc' := 81) rfl (hb hby at_70) (by decide) (by decide) k) ?_
          show Go p e below _ s₁ (mkF m 81 #[.val (.long x0), .second, .val (.long x1), .second, .val (.int x2), .val (.long x3), .second, .val (.long x4), .second, .val (.int x5), .val (.int sd), .val (.int si), .val (.int sk), .val (.int k1), .val (.int (oo + (1 : Int32))), .unset, .unset, .unset, .unset, .unset, .unset, .unset, .unset, .unset, .unset, .unset, .unset, .unset, .unset, .unset, .unset, .unset] [(.int k1)])
          exact J81 _ (⟨fun q => absurd q hc65_26, fun _ => rfl, Rk1⟩)
      refine Go.of (fun _ k => XS.iload X0.here hx rfl (hb hby at_28) rfl k) ?_
      show Go p e below _ s₁ (mkF m 30 #[.val (.long x0), .second, .val (.long x1), .second, .val (.int x2), .val (.long x3), .second, .val (.long x4), .second, .val (.int x5), .val (.int sd), .val (.int si), .unset, .unset, .unset, .unset, .unset, .unset, .unset, .unset, .unset, .unset, .unset, .unset, .unset, .unset, .unset, .unset, .unset, .unset, .unset, .unset] [(.int x2)])
      refine Go.of (fun _ k => XS.iconst X0.here hx rfl (hb hby at_30) k) ?_
      show Go p e below _ s₁ (mkF m 31 #[.val (.long x0), .second, .val (.long x1), .second, .val (.int x2), .val (.long x3), .second, .val (.long x4), .second, .val (.int x5), .val (.int sd), .val (.int si), .unset, .unset, .unset, .unset, .unset, .unset, .unset, .unset, .unset, .unset, .unset, .unset, .unset, .unset, .unset, .unset, .unset, .unset, .unset, .unset] [(.int (4 : Int32)), (.int x2)])
      refine Go.of (fun _ k => XS.iand X0.here hx rfl (hb hby at_31) rfl k) ?_
      show Go p e below _ s₁ (mkF m 32 #[.val (.long x0), .second, .val (.long x1), .second, .val (.int x2), .val (.long x3), .second, .val (.long x4), .second, .val (.int x5), .val (.int sd), .val (.int si), .unset, .unset, .unset, .unset, .unset, .unset, .unset, .unset, .unset, .unset, .unset, .unset, .unset, .unset, .unset, .unset, .unset, .unset, .unset, .unset] [(.int (x2 &&& (4 : Int32)))])
      by_cases hc32_27 : (x2 &&& (4 : Int32)) = (0 : Int32)
      ·
        refine Go.of (fun _ k => XS.ifYes X0.here hx rfl (pc0 := 32) (pc' := 39) rfl (hb hby at_32) rfl (XT.i0_eq_t hc32_27) (by decide) (by decide) k) ?_
        show Go p e below _ s₁ (mkF m 39 #[.val (.long x0), .second, .val (.long x1), .second, .val (.int x2), .val (.long x3), .second, .val (.long x4), .second, .val (.int x5), .val (.int sd), .val (.int si), .unset, .unset, .unset, .unset, .unset, .unset, .unset, .unset, .unset, .unset, .unset, .unset, .unset, .unset, .unset, .unset, .unset, .unset, .unset, .unset] [])
        refine Go.of (fun _ k => XS.iconst X0.here hx rfl (hb hby at_39) k) ?_
        show Go p e below _ s₁ (mkF m 40 #[.val (.long x0), .second, .val (.long x1), .second, .val (.int x2), .val (.long x3), .second, .val (.long x4), .second, .val (.int x5), .val (.int sd), .val (.int si), .unset, .unset, .unset, .unset, .unset, .unset, .unset, .unset, .unset, .unset, .unset, .unset, .unset, .unset, .unset, .unset, .unset, .unset, .unset, .unset] [(.int (0 : Int32))])
        exact J40 _
      ·
        refine Go.of (fun _ k => XS.ifNo X0.here hx rfl (hb hby at_32) rfl (XT.i0_eq_f hc32_27) k) ?_
        show Go p e below _ s₁ (mkF m 35 #[.val (.long x0), .second, .val (.long x1), .second, .val (.int x2), .val (.long x3), .second, .val (.long x4), .second, .val (.int x5), .val (.int sd), .val (.int si), .unset, .unset, .unset, .unset, .unset, .unset, .unset, .unset, .unset, .unset, .unset, .unset, .unset, .unset, .unset, .unset, .unset, .unset, .unset, .unset] [])
        refine Go.of (fun _ k => XS.iconst X0.here hx rfl (hb hby at_35) k) ?_
        show Go p e below _ s₁ (mkF m 36 #[.val (.long x0), .second, .val (.long x1), .second, .val (.int x2), .val (.long x3), .second, .val (.long x4), .second, .val (.int x5), .val (.int sd), .val (.int si), .unset, .unset, .unset, .unset, .unset, .unset, .unset, .unset, .unset, .unset, .unset, .unset, .unset, .unset, .unset, .unset, .unset, .unset, .unset, .unset] [(.int (1 : Int32))])
        refine Go.of (fun _ k => XS.goto X0.here hx rfl (pc0 := 36) (pc' := 40) rfl (hb hby at_36) (by decide) (by decide) k) ?_
        show Go p e below _ s₁ (mkF m 40 #[.val (.long x0), .second, .val (.long x1), .second, .val (.int x2), .val (.long x3), .second, .val (.long x4), .second, .val (.int x5), .val (.int sd), .val (.int si), .unset, .unset, .unset, .unset, .unset, .unset, .unset, .unset, .unset, .unset, .unset, .unset, .unset, .unset, .unset, .unset, .unset, .unset, .unset, .unset] [(.int (1 : Int32))])
        exact J40 _
    refine Go.of (fun _ k => XS.iload X0.here hx rfl (hb hby at_14) rfl k) ?_
    show Go p e below _ s₁ (mkF m 16 #[.val (.long x0), .second, .val (.long x1), .second, .val (.int x2), .val (.long x3), .second, .val (.long x4), .second, .val (.int x5), .val (.int sd), .unset, .unset, .unset, .unset, .unset, .unset, .unset, .unset, .unset, .unset, .unset, .unset, .unset, .unset, .unset, .unset, .unset, .unset, .unset, .unset, .unset] [(.int x2)])
    refine Go.of (fun _ k => XS.iconst X0.here hx rfl (hb hby at_16) k) ?_
    show Go p e below _ s₁ (mkF m 17 #[.val (.long x0), .second, .val (.long x1), .second, .val (.int x2), .val (.long x3), .second, .val (.long x4), .second, .val (.int x5), .val (.int sd), .unset, .unset, .unset, .unset, .unset, .unset, .unset, .unset, .unset, .unset, .unset, .unset, .unset, .unset, .unset, .unset, .unset, .unset, .unset, .unset, .unset] [(.int (2 : Int32)), (.int x2)])
    refine Go.of (fun _ k => XS.iand X0.here hx rfl (hb hby at_17) rfl k) ?_
    show Go p e below _ s₁ (mkF m 18 #[.val (.long x0), .second, .val (.long x1), .second, .val (.int x2), .val (.long x3), .second, .val (.long x4), .second, .val (.int x5), .val (.int sd), .unset, .unset, .unset, .unset, .unset, .unset, .unset, .unset, .unset, .unset, .unset, .unset, .unset, .unset, .unset, .unset, .unset, .unset, .unset, .unset, .unset] [(.int (x2 &&& (2 : Int32)))])
    by_cases hc18_28 : (x2 &&& (2 : Int32)) = (0 : Int32)
    ·
      refine Go.of (fun _ k => XS.ifYes X0.here hx rfl (pc0 := 18) (pc' := 25) rfl (hb hby at_18) rfl (XT.i0_eq_t hc18_28) (by decide) (by decide) k) ?_
      show Go p e below _ s₁ (mkF m 25 #[.val (.long x0), .second, .val (.long x1), .second, .val (.int x2), .val (.long x3), .second, .val (.long x4), .second, .val (.int x5), .val (.int sd), .unset, .unset, .unset, .unset, .unset, .unset, .unset, .unset, .unset, .unset, .unset, .unset, .unset, .unset, .unset, .unset, .unset, .unset, .unset, .unset, .unset] [])
      refine Go.of (fun _ k => XS.iconst X0.here hx rfl (hb hby at_25) k) ?_
      show Go p e below _ s₁ (mkF m 26 #[.val (.long x0), .second, .val (.long x1), .second, .val (.int x2), .val (.long x3), .second, .val (.long x4), .second, .val (.int x5), .val (.int sd), .unset, .unset, .unset, .unset, .unset, .unset, .unset, .unset, .unset, .unset, .unset, .unset, .unset, .unset, .unset, .unset, .unset, .unset, .unset, .unset, .unset] [(.int (0 : Int32))])
      exact J26 _
    ·
      refine Go.of (fun _ k => XS.ifNo X0.here hx rfl (hb hby at_18) rfl (XT.i0_eq_f hc18_28) k) ?_
      show Go p e below _ s₁ (mkF m 21 #[.val (.long x0), .second, .val (.long x1), .second, .val (.int x2), .val (.long x3), .second, .val (.long x4), .second, .val (.int x5), .val (.int sd), .unset, .unset, .unset, .unset, .unset, .unset, .unset, .unset, .unset, .unset, .unset, .unset, .unset, .unset, .unset, .unset, .unset, .unset, .unset, .unset, .unset] [])
      refine Go.of (fun _ k => XS.iconst X0.here hx rfl (hb hby at_21) k) ?_
      show Go p e below _ s₁ (mkF m 22 #[.val (.long x0), .second, .val (.long x1), .second, .val (.int x2), .val (.long x3), .second, .val (.long x4), .second, .val (.int x5), .val (.int sd), .unset, .unset, .unset, .unset, .unset, .unset, .unset, .unset, .unset, .unset, .unset, .unset, .unset, .unset, .unset, .unset, .unset, .unset, .unset, .unset, .unset] [(.int (1 : Int32))])
      refine Go.of (fun _ k => XS.goto X0.here hx rfl (pc0 := 22) (pc' := 26) rfl (hb hby at_22) (by decide) (by decide) k) ?_
      show Go p e below _ s₁ (mkF m 26 #[.val (.long x0), .second, .val (.long x1), .second, .val (.int x2), .val (.long x3), .second, .val (.long x4), .second, .val (.int x5), .val (.int sd), .unset, .unset, .unset, .unset, .unset, .unset, .unset, .unset, .unset, .unset, .unset, .unset, .unset, .unset, .unset, .unset, .unset, .unset, .unset, .unset, .unset] [(.int (1 : Int32))])
      exact J26 _
  refine Go.of (fun _ k => XS.iload X0.here hx rfl (hb hby at_0) rfl k) ?_
  show Go p e below _ s₁ (mkF m 2 #[.val (.long x0), .second, .val (.long x1), .second, .val (.int x2), .val (.long x3), .second, .val (.long x4), .second, .val (.int x5), .unset, .unset, .unset, .unset, .unset, .unset, .unset, .unset, .unset, .unset, .unset, .unset, .unset, .unset, .unset, .unset, .unset, .unset, .unset, .unset, .unset, .unset] [(.int x2)])
  refine Go.of (fun _ k => XS.iconst X0.here hx rfl (hb hby at_2) k) ?_
  show Go p e below _ s₁ (mkF m 3 #[.val (.long x0), .second, .val (.long x1), .second, .val (.int x2), .val (.long x3), .second, .val (.long x4), .second, .val (.int x5), .unset, .unset, .unset, .unset, .unset, .unset, .unset, .unset, .unset, .unset, .unset, .unset, .unset, .unset, .unset, .unset, .unset, .unset, .unset, .unset, .unset, .unset] [(.int (1 : Int32)), (.int x2)])
  refine Go.of (fun _ k => XS.iand X0.here hx rfl (hb hby at_3) rfl k) ?_
  show Go p e below _ s₁ (mkF m 4 #[.val (.long x0), .second, .val (.long x1), .second, .val (.int x2), .val (.long x3), .second, .val (.long x4), .second, .val (.int x5), .unset, .unset, .unset, .unset, .unset, .unset, .unset, .unset, .unset, .unset, .unset, .unset, .unset, .unset, .unset, .unset, .unset, .unset, .unset, .unset, .unset, .unset] [(.int (x2 &&& (1 : Int32)))])
  by_cases hc4_29 : (x2 &&& (1 : Int32)) = (0 : Int32)
  ·
    refine Go.of (fun _ k => XS.ifYes X0.here hx rfl (pc0 := 4) (pc' := 11) rfl (hb hby at_4) rfl (XT.i0_eq_t hc4_29) (by decide) (by decide) k) ?_
    show Go p e below _ s₁ (mkF m 11 #[.val (.long x0), .second, .val (.long x1), .second, .val (.int x2), .val (.long x3), .second, .val (.long x4), .second, .val (.int x5), .unset, .unset, .unset, .unset, .unset, .unset, .unset, .unset, .unset, .unset, .unset, .unset, .unset, .unset, .unset, .unset, .unset, .unset, .unset, .unset, .unset, .unset] [])
    refine Go.of (fun _ k => XS.iconst X0.here hx rfl (hb hby at_11) k) ?_
    show Go p e below _ s₁ (mkF m 12 #[.val (.long x0), .second, .val (.long x1), .second, .val (.int x2), .val (.long x3), .second, .val (.long x4), .second, .val (.int x5), .unset, .unset, .unset, .unset, .unset, .unset, .unset, .unset, .unset, .unset, .unset, .unset, .unset, .unset, .unset, .unset, .unset, .unset, .unset, .unset, .unset, .unset] [(.int (0 : Int32))])
    exact J12 _
  ·
    refine Go.of (fun _ k => XS.ifNo X0.here hx rfl (hb hby at_4) rfl (XT.i0_eq_f hc4_29) k) ?_
    show Go p e below _ s₁ (mkF m 7 #[.val (.long x0), .second, .val (.long x1), .second, .val (.int x2), .val (.long x3), .second, .val (.long x4), .second, .val (.int x5), .unset, .unset, .unset, .unset, .unset, .unset, .unset, .unset, .unset, .unset, .unset, .unset, .unset, .unset, .unset, .unset, .unset, .unset, .unset, .unset, .unset, .unset] [])
    refine Go.of (fun _ k => XS.iconst X0.here hx rfl (hb hby at_7) k) ?_
    show Go p e below _ s₁ (mkF m 8 #[.val (.long x0), .second, .val (.long x1), .second, .val (.int x2), .val (.long x3), .second, .val (.long x4), .second, .val (.int x5), .unset, .unset, .unset, .unset, .unset, .unset, .unset, .unset, .unset, .unset, .unset, .unset, .unset, .unset, .unset, .unset, .unset, .unset, .unset, .unset, .unset, .unset] [(.int (1 : Int32))])
    refine Go.of (fun _ k => XS.goto X0.here hx rfl (pc0 := 8) (pc' := 12) rfl (hb hby at_8) (by decide) (by decide) k) ?_
    show Go p e below _ s₁ (mkF m 12 #[.val (.long x0), .second, .val (.long x1), .second, .val (.int x2), .val (.long x3), .second, .val (.long x4), .second, .val (.int x5), .unset, .unset, .unset, .unset, .unset, .unset, .unset, .unset, .unset, .unset, .unset, .unset, .unset, .unset, .unset, .unset, .unset, .unset, .unset, .unset, .unset, .unset] [(.int (1 : Int32))])
    exact J12 _
set_option maxRecDepth 65536 in
set_option maxHeartbeats 40000000 in
theorem comes_1 {Post : Tables → Env → Array Value → State → Outcome → State → Prop} (hpost : ∀ tb e args s v u, (limb_1_1.after args s (.returned v) u = true ∧ limb_1_2.after args s (.returned v) u = true ∧ True) → FrameEnd s (.returned v) u (Jvm.fieldLocs frame_1_writes args s ++ Jvm.arrayLocs frame_1_arrays args s ++ Jvm.staticLocs frame_1_statics s) 16 128 → Post tb e args s (.returned v) u) :
    ArmFor flags0 classFile x code maxLocals ret World_1 tables_1 room_1 Calls_1 rest_1 Pre_1 Post := by
  intro l hfl _ _ p e ha hc hk s m args below hf hA hF happ hP
  obtain ⟨hcalls, hrest, hpre⟩ := hP
  obtain ⟨-, -, -, hnamed, -, -, -, hat⟩ := (Spec.applies_iff hf).mp happ
  obtain ⟨hg, hn⟩ := and_e (Cond.before_iff.mp (show (Jvm.Cond.and given_1 narrow_1).before args s = true from hpre))
  obtain ⟨g0, g1⟩ := and_e hg
  obtain ⟨x0, x1, x2, x3, x4, x5, rfl⟩ : ∃ x0 x1 x2 x3 x4 x5 : Value, args = #[x0, x1, x2, x3, x4, x5] := by
    have hs : args.size = 6 := by simpa [Cond.value, given_1] using g0
    obtain ⟨L⟩ := args
    match L, hs with
    | [x0, x1, x2, x3, x4, x5], _ => exact ⟨x0, x1, x2, x3, x4, x5, rfl⟩
  have hw := fun d (hd : d ∈ tables_1) => atoms_spec (ws := Jvm.Cond.code x code maxLocals ret :: tables_1) hat d (List.mem_cons_of_mem _ hd)
  obtain ⟨b0, c0⟩ := and_e g1
  obtain ⟨i0, z0⟩ := isL_v b0
  obtain rfl : x0 = (.long i0) := Option.some.inj z0
  obtain ⟨b1, c1⟩ := and_e c0
  obtain ⟨i1, z1⟩ := isL_v b1
  obtain rfl : x1 = (.long i1) := Option.some.inj z1
  obtain ⟨b2, c2⟩ := and_e c1
  obtain ⟨i2, z2⟩ := is_v b2
  obtain rfl : x2 = (.int i2) := Option.some.inj z2
  obtain ⟨b3, c3⟩ := and_e c2
  obtain ⟨i3, z3⟩ := isL_v b3
  obtain rfl : x3 = (.long i3) := Option.some.inj z3
  obtain ⟨b4, c4⟩ := and_e c3
  obtain ⟨i4, z4⟩ := isL_v b4
  obtain rfl : x4 = (.long i4) := Option.some.inj z4
  obtain ⟨i5, z5⟩ := is_v c4
  obtain rfl : x5 = (.int i5) := Option.some.inj z5
  obtain ⟨q0, r0⟩ := and_e hn
  obtain ⟨q1, r1⟩ := and_e r0
  obtain ⟨q2, r2⟩ := and_e r1
  obtain ⟨q3, r3⟩ := and_e r2
  obtain ⟨q4, r4⟩ := and_e r3
  obtain ⟨q5, r5⟩ := and_e r4
  obtain ⟨q6, r6⟩ := and_e r5
  obtain ⟨q7, r7⟩ := and_e r6
  obtain ⟨q8, r8⟩ := and_e r7
  obtain ⟨q9, r9⟩ := and_e r8
  obtain ⟨q10, r10⟩ := and_e r9
  obtain ⟨q11, r11⟩ := and_e r10
  obtain ⟨q12, r12⟩ := and_e r11
  obtain ⟨q13, r13⟩ := and_e r12
  obtain ⟨q14, r14⟩ := and_e r13
  have q15 := r14
  obtain ⟨w0, v0⟩ := exa_v q0
  have E0 := Exa.start v0 q0
  have S0 := Sta.start v0 (Or.inr ⟨(hw _ (List.mem_of_getElem? (i := 10) rfl)), (hw _ (List.mem_of_getElem? (i := 11) rfl))⟩)
  have F0 := own_fld v0 q12
  obtain ⟨w1, v1⟩ := exa_v q1
  have E1 := Exa.start v1 q1
  have S1 := Sta.start v1 (Or.inr ⟨(hw _ (List.mem_of_getElem? (i := 10) rfl)), (hw _ (List.mem_of_getElem? (i := 40) rfl))⟩)
  have F1 := own_fld v1 q13
  obtain ⟨w2, v2⟩ := exa_v q4
  have E2 := Exa.start v2 q4
  have S2 := Sta.start v2 (Or.inr ⟨(hw _ (List.mem_of_getElem? (i := 10) rfl)), (hw _ (List.mem_of_getElem? (i := 52) rfl))⟩)
  have F2 := own_fld v2 q6
  obtain ⟨w3, v3⟩ := exa_v q5
  have E3 := Exa.start v3 q5
  have S3 := Sta.start v3 (Or.inr ⟨(hw _ (List.mem_of_getElem? (i := 10) rfl)), (hw _ (List.mem_of_getElem? (i := 54) rfl))⟩)
  have F3 := own_fld v3 q7
  obtain ⟨w4, v4⟩ := exa_v q2
  have E4 := Exa.start v4 q2
  have S4 := Sta.start v4 (Or.inr ⟨(hw _ (List.mem_of_getElem? (i := 10) rfl)), (hw _ (List.mem_of_getElem? (i := 48) rfl))⟩)
  have F4 := own_fld v4 q15
  obtain ⟨w5, v5⟩ := exa_v q8
  have E5 := Exa.start v5 q8
  have S5 := Sta.start v5 (Or.inr ⟨(hw _ (List.mem_of_getElem? (i := 10) rfl)), (hw _ (List.mem_of_getElem? (i := 56) rfl))⟩)
  have F5 := own_fld v5 q14
  obtain ⟨w6, v6⟩ := exa_v q10
  have E6 := Exa.start v6 q10
  have S6 := Sta.start v6 (Or.inr ⟨(hw _ (List.mem_of_getElem? (i := 10) rfl)), (hw _ (List.mem_of_getElem? (i := 58) rfl))⟩)
  have F6 := own_fld v6 q11
  obtain ⟨w7, v7⟩ := exa_v q3
  have E7 := Exa.start v7 q3
  have S7 := Sta.start v7 (Or.inr ⟨(hw _ (List.mem_of_getElem? (i := 10) rfl)), (hw _ (List.mem_of_getElem? (i := 50) rfl))⟩)
  have F7 := own_fld v7 q9
  have D : Wd s s.heap (fun | 0 => w0 | 1 => w1 | 2 => w2 | 3 => w3 | 4 => w4 | 5 => w5 | 6 => w6 | _ => w7) := ⟨S0, S1, S2, S3, S4, S5, S6, S7, (fun i hi => match i, hi with | 0, _ => E0 | 1, _ => E1 | 2, _ => E2 | 3, _ => E3 | 4, _ => E4 | 5, _ => E5 | 6, _ => E6 | 7, _ => E7 | (k + 8), h => absurd h (by omega)), (fun i hi => match i, hi with | 0, _ => F0 | 1, _ => F1 | 2, _ => F2 | 3, _ => F3 | 4, _ => F4 | 5, _ => F5 | 6, _ => F6 | 7, _ => F7 | (k + 8), h => absurd h (by omega))⟩
  obtain ⟨n, o, h1, h2, h3, _, L, rfl, ⟨rfl, N⟩, hq⟩ := rm0 l s _ hw tables_1 (fun | 0 => w0 | 1 => w1 | 2 => w2 | 3 => w3 | 4 => w4 | 5 => w5 | 6 => w6 | _ => w7) s.heap s.heap.size (Nat.le_refl _) D i0 i1 i2 i3 i4 i5 p e ha hc hk s m _ below hf ((Spec.applies_iff_loose hf).mp happ).1 ⟨rfl, State.Warmed39.refl s, rfl⟩ trivial
  refine ⟨n, _, h1, h2, h3, hpost _ _ _ _ _ _ ⟨Cond.after_iff.mpr rfl, Cond.after_iff.mpr (eq_i res_at (Term.int_eval (1)) rfl), trivial⟩ ⟨hq.1, hq.2.1, (hq.2.2.sift fun y hy => Or.inr (N y hy)).mono (by decide) (by decide)⟩⟩
theorem main_1_1 : Claimed_1_1 := comes_1 fun _ _ _ _ _ _ h hF => ⟨h.1, hF⟩
theorem main_1_2 : Claimed_1_2 := comes_1 fun _ _ _ _ _ _ h hF => ⟨h.2.1, hF⟩
end Jvm.Pilot.@@N@@
namespace Jvm.Pilot.@@N@@
open Jvm Jvm.ClassFile Sem Op Lib Jvm.Free Jvm.Stand Jvm.Pilot.@@N@@.Jvm.D
/-! MADE BY PROGRAM (witnessworld.py) out of the Statement's table words and the real class files: 12 classes; the members and pool entries that the words name. The judged class is class 1, her method 2. -/
namespace start1
open Jvm.ClassFile
def u (s : String) : CpInfo := .utf8 (stringToUtf16 s)
/-- a pool by its gaps: so many unusable entries, then the entry; so many at the end -/
def gap : Nat → List CpInfo → List CpInfo
  | 0, r => r
  | n + 1, r => .unusable :: gap n r
def poolList (es : List (Nat × CpInfo)) (last : Nat) : List CpInfo := es.foldr (fun e r => gap e.1 (e.2 :: r)) (gap last [])
def pool (es : List (Nat × CpInfo)) (last : Nat) : Array CpInfo := ⟨poolList es last⟩
def fileOf (pool : Array CpInfo) (this : Nat) (attrs : Array Attribute := #[]) (ms : Array MethodInfo := #[]) (fl : Nat := 33) (sup : Nat := 0) (ifs : Array Nat := #[]) (fds : Array FieldInfo := #[]) : ClassFile where
  minorVersion := 0
  majorVersion := 65
  constantPool := pool
  accessFlags := fl
  thisClass := this
  superClass := sup
  interfaces := ifs
  fields := fds
  methods := ms
  attributes := attrs
def plain (name : String) (sup : Option ClassId) : Class where
  name := name
  kind := .ordinary
  loader := none
  accessFlags := 33
  super := sup
  interfaces := #[]
  cf := none
  fields := #[]
  methods := #[]
  instanceTypes := #[]
  staticTypes := #[]
  resolved := #[]
  callSites := []
  init := .initialized
  statics := none
  mirror := none

def pool0 : Array CpInfo := pool [(5, u "<init>"), (0, u "()V"), (1, .class_ 10), (1, u "java/lang/Object")] 113

def k0c0 : Code := { maxStack := 0, maxLocals := 1, code := object_method_1_code, exceptionTable := #[], attributes := #[] }
def k0m0 : Method := { name := "<init>", desc := "()V", sig := { parameters := [], returnType := none }, accessFlags := 1, code := some k0c0 }
/-- java/lang/Object -/
def k0 : Class := { plain "java/lang/Object" none with
  accessFlags := 33
  interfaces := #[]
  cf := some (fileOf pool0 8 #[] #[{ accessFlags := 1, nameIndex := 5, descriptorIndex := 6, attributes := #[] }] 33 0 #[] #[])
  fields := #[]
  methods := #[k0m0]
  instanceTypes := #[]
  staticTypes := #[]
  resolved := Array.replicate 124 none
  statics := none }

def pool1 : Array CpInfo := pool [(2, .class_ 4), (1, u "java/lang/Object"), (0, u "<init>"), (0, u "()V"), (0, .fieldref 8 9), (0, .class_ 10), (0, .nameAndType 11 12), (0, u "com/example/upright_meter/uprightmeter/Kind"), (0, u "REGULAR_FILE"), (0, u "Lcom/example/upright_meter/uprightmeter/Kind;"), (0, .fieldref 8 14), (0, .nameAndType 15 12), (0, u "DIRECTORY"), (0, .fieldref 8 17), (0, .nameAndType 18 12), (0, u "SYMLINK"), (0, .fieldref 8 20), (0, .nameAndType 21 12), (0, u "FIFO"), (0, .fieldref 8 23), (0, .nameAndType 24 12), (0, u "SOCKET"), (0, .fieldref 8 26), (0, .nameAndType 27 12), (0, u "CHARACTER_DEVICE"), (0, .fieldref 8 29), (0, .nameAndType 30 12), (0, u "BLOCK_DEVICE"), (0, .fieldref 8 32), (0, .nameAndType 33 12), (0, u "UNKNOWN"), (0, .integer 2147483647), (0, .integer 1000000000), (0, .class_ 37), (0, u "com/example/upright_meter/uprightmeter/ObjectStat"), (0, .methodref 39 40), (0, .class_ 41), (0, .nameAndType 42 43), (0, u "com/example/upright_meter/uprightmeter/ObjectStatIsSameObjectAsPinLaw"), (0, u "kindOf"), (0, u "(I)Lcom/example/upright_meter/uprightmeter/Kind;"), (0, .methodref 36 45), (0, .nameAndType 5 46), (0, u "(Lcom/example/upright_meter/uprightmeter/Kind;JJJJJJI)V"), (0, .long 18446744073709551615), (1, .methodref 36 50), (0, .nameAndType 51 52), (0, u "isSameObjectAs"), (0, u "(Lcom/example/upright_meter/uprightmeter/ObjectStat;)Z"), (3, u "law"), (0, u "(JJIJJI)Z")] 2

def k1m0 : Method := { name := "<init>", desc := "()V", sig := { parameters := [], returnType := none }, accessFlags := 1, code := none }
def k1c1 : Code := { maxStack := 2, maxLocals := 1, code := method_2_code, exceptionTable := #[], attributes := #[] }
def k1m1 : Method := { name := "kindOf", desc := "(I)Lcom/example/upright_meter/uprightmeter/Kind;", sig := { parameters := [.int], returnType := some (.object "com/example/upright_meter/uprightmeter/Kind") }, accessFlags := 10, code := some k1c1 }
def k1c2 : Code := { maxStack := 17, maxLocals := 32, code := code, exceptionTable := #[], attributes := #[] }
def k1m2 : Method := { name := "law", desc := "(JJIJJI)Z", sig := { parameters := [.long, .long, .int, .long, .long, .int], returnType := some .boolean }, accessFlags := 9, code := some k1c2 }
/-- com/example/upright_meter/uprightmeter/ObjectStatIsSameObjectAsPinLaw -/
def k1 : Class := { plain "com/example/upright_meter/uprightmeter/ObjectStatIsSameObjectAsPinLaw" (some 0) with
  accessFlags := 49
  interfaces := #[]
  cf := some (fileOf pool1 39 #[] #[{ accessFlags := 1, nameIndex := 5, descriptorIndex := 6, attributes := #[] }, { accessFlags := 10, nameIndex := 42, descriptorIndex := 43, attributes := #[] }, { accessFlags := 9, nameIndex := 56, descriptorIndex := 57, attributes := #[] }] 49 2 #[] #[])
  fields := #[]
  methods := #[k1m0, k1m1, k1m2]
  instanceTypes := #[]
  staticTypes := #[]
  resolved := Array.replicate 60 none
  statics := none }

def pool2 : Array CpInfo := pool [(1, .methodref 2 3), (0, .class_ 4), (0, .nameAndType 5 6), (0, u "java/lang/Object"), (0, u "<init>"), (0, u "()V"), (0, .class_ 8), (0, u "java/lang/Record")] 13

def k2c0 : Code := { maxStack := 1, maxLocals := 1, code := jdk_30_method_1_code, exceptionTable := #[], attributes := #[] }
def k2m0 : Method := { name := "<init>", desc := "()V", sig := { parameters := [], returnType := none }, accessFlags := 4, code := some k2c0 }
/-- java/lang/Record -/
def k2 : Class := { plain "java/lang/Record" (some 0) with
  accessFlags := 1057
  interfaces := #[]
  cf := some (fileOf pool2 7 #[] #[{ accessFlags := 4, nameIndex := 5, descriptorIndex := 6, attributes := #[] }] 1057 2 #[] #[])
  fields := #[]
  methods := #[k2m0]
  instanceTypes := #[]
  staticTypes := #[]
  resolved := Array.replicate 22 none
  statics := none }

def pool3 : Array CpInfo := pool [(3, .methodref 4 5), (0, .class_ 6), (0, .nameAndType 7 8), (0, u "java/lang/Record"), (0, u "<init>"), (0, u "()V"), (0, .fieldref 10 11), (0, .class_ 12), (0, .nameAndType 13 14), (0, u "com/example/upright_meter/uprightmeter/ObjectStat"), (0, u "kind"), (0, u "Lcom/example/upright_meter/uprightmeter/Kind;"), (0, .fieldref 10 16), (0, .nameAndType 17 18), (0, u "size"), (0, u "J"), (0, .fieldref 10 20), (0, .nameAndType 21 18), (0, u "allocatedBytes"), (0, .fieldref 10 23), (0, .nameAndType 24 18), (0, u "links"), (0, .fieldref 10 26), (0, .nameAndType 27 18), (0, u "device"), (0, .fieldref 10 29), (0, .nameAndType 30 18), (0, u "inode"), (0, .fieldref 10 32), (0, .nameAndType 33 18), (0, u "accessSeconds"), (0, .fieldref 10 35), (0, .nameAndType 36 37), (0, u "accessNanos"), (0, u "I"), (17, u "NO_ACCESS_TIME"), (3, u "(Lcom/example/upright_meter/uprightmeter/Kind;JJJJJJI)V"), (6, u "isSameObjectAs"), (0, u "(Lcom/example/upright_meter/uprightmeter/ObjectStat;)Z")] 32

def k3c0 : Code := { maxStack := 3, maxLocals := 15, code := prog_32_method_1_code, exceptionTable := #[], attributes := #[] }
def k3m0 : Method := { name := "<init>", desc := "(Lcom/example/upright_meter/uprightmeter/Kind;JJJJJJI)V", sig := { parameters := [(.object "com/example/upright_meter/uprightmeter/Kind"), .long, .long, .long, .long, .long, .long, .int], returnType := none }, accessFlags := 0, code := some k3c0 }
def k3c1 : Code := { maxStack := 4, maxLocals := 2, code := prog_32_method_3_code, exceptionTable := #[], attributes := #[] }
def k3m1 : Method := { name := "isSameObjectAs", desc := "(Lcom/example/upright_meter/uprightmeter/ObjectStat;)Z", sig := { parameters := [(.object "com/example/upright_meter/uprightmeter/ObjectStat")], returnType := some .boolean }, accessFlags := 0, code := some k3c1 }
/-- com/example/upright_meter/uprightmeter/ObjectStat -/
def k3 : Class := { plain "com/example/upright_meter/uprightmeter/ObjectStat" (some 2) with
  accessFlags := 48
  interfaces := #[]
  cf := some (fileOf pool3 10 #[] #[{ accessFlags := 0, nameIndex := 7, descriptorIndex := 59, attributes := #[] }, { accessFlags := 0, nameIndex := 66, descriptorIndex := 67, attributes := #[] }] 48 4 #[] #[{ accessFlags := 18, nameIndex := 13, descriptorIndex := 14, attributes := #[] }, { accessFlags := 18, nameIndex := 17, descriptorIndex := 18, attributes := #[] }, { accessFlags := 18, nameIndex := 21, descriptorIndex := 18, attributes := #[] }, { accessFlags := 18, nameIndex := 24, descriptorIndex := 18, attributes := #[] }, { accessFlags := 18, nameIndex := 27, descriptorIndex := 18, attributes := #[] }, { accessFlags := 18, nameIndex := 30, descriptorIndex := 18, attributes := #[] }, { accessFlags := 18, nameIndex := 33, descriptorIndex := 18, attributes := #[] }, { accessFlags := 18, nameIndex := 36, descriptorIndex := 37, attributes := #[] }, { accessFlags := 24, nameIndex := 55, descriptorIndex := 18, attributes := #[] }])
  fields := #[{ name := "kind", type := (.object "com/example/upright_meter/uprightmeter/Kind"), accessFlags := 18, slot := 0, constantValue := 0 }, { name := "size", type := .long, accessFlags := 18, slot := 1, constantValue := 0 }, { name := "allocatedBytes", type := .long, accessFlags := 18, slot := 2, constantValue := 0 }, { name := "links", type := .long, accessFlags := 18, slot := 3, constantValue := 0 }, { name := "device", type := .long, accessFlags := 18, slot := 4, constantValue := 0 }, { name := "inode", type := .long, accessFlags := 18, slot := 5, constantValue := 0 }, { name := "accessSeconds", type := .long, accessFlags := 18, slot := 6, constantValue := 0 }, { name := "accessNanos", type := .int, accessFlags := 18, slot := 7, constantValue := 0 }, { name := "NO_ACCESS_TIME", type := .long, accessFlags := 24, slot := 0, constantValue := 0 }]
  methods := #[k3m0, k3m1]
  instanceTypes := #[(.object "com/example/upright_meter/uprightmeter/Kind"), .long, .long, .long, .long, .long, .long, .int]
  staticTypes := #[.long]
  resolved := Array.replicate 100 none
  statics := none }

def pool4 : Array CpInfo := pool [(1, .class_ 2), (0, u "java/lang/constant/Constable"), (0, .class_ 4), (0, u "java/lang/Object")] 6

/-- java/lang/constant/Constable -/
def k4 : Class := { plain "java/lang/constant/Constable" (some 0) with
  accessFlags := 1537
  interfaces := #[]
  cf := some (fileOf pool4 1 #[] #[] 1537 3 #[] #[])
  fields := #[]
  methods := #[]
  instanceTypes := #[]
  staticTypes := #[]
  resolved := Array.replicate 11 none
  statics := none }

def pool5 : Array CpInfo := pool [(1, .class_ 2), (0, u "java/lang/Comparable"), (0, .class_ 4), (0, u "java/lang/Object")] 7

/-- java/lang/Comparable -/
def k5 : Class := { plain "java/lang/Comparable" (some 0) with
  accessFlags := 1537
  interfaces := #[]
  cf := some (fileOf pool5 1 #[] #[] 1537 3 #[] #[])
  fields := #[]
  methods := #[]
  instanceTypes := #[]
  staticTypes := #[]
  resolved := Array.replicate 12 none
  statics := none }

def pool6 : Array CpInfo := pool [(1, .class_ 2), (0, u "java/io/Serializable"), (0, .class_ 4), (0, u "java/lang/Object")] 2

/-- java/io/Serializable -/
def k6 : Class := { plain "java/io/Serializable" (some 0) with
  accessFlags := 1537
  interfaces := #[]
  cf := some (fileOf pool6 1 #[] #[] 1537 3 #[] #[])
  fields := #[]
  methods := #[]
  instanceTypes := #[]
  staticTypes := #[]
  resolved := Array.replicate 7 none
  statics := none }

def pool7 : Array CpInfo := pool [(2, .class_ 4), (1, u "java/lang/Enum"), (0, u "name"), (0, u "Ljava/lang/String;"), (2, u "ordinal"), (0, u "I"), (1, .class_ 14), (1, u "java/lang/Object"), (4, u "hash"), (86, .class_ 108), (1, u "java/lang/Enum$EnumDesc"), (2, .class_ 112), (0, u "java/lang/constant/Constable"), (0, .class_ 114), (0, u "java/lang/Comparable"), (0, .class_ 116), (0, u "java/io/Serializable")] 87

/-- java/lang/Enum -/
def k7 : Class := { plain "java/lang/Enum" (some 0) with
  accessFlags := 1057
  interfaces := #[4, 5, 6]
  cf := some (fileOf pool7 2 #[.nestMembers #[106]] #[] 1057 12 #[111, 113, 115] #[{ accessFlags := 18, nameIndex := 5, descriptorIndex := 6, attributes := #[] }, { accessFlags := 18, nameIndex := 9, descriptorIndex := 10, attributes := #[] }, { accessFlags := 2, nameIndex := 19, descriptorIndex := 10, attributes := #[] }])
  fields := #[{ name := "name", type := (.object "java/lang/String"), accessFlags := 18, slot := 0, constantValue := 0 }, { name := "ordinal", type := .int, accessFlags := 18, slot := 1, constantValue := 0 }, { name := "hash", type := .int, accessFlags := 2, slot := 2, constantValue := 0 }]
  methods := #[]
  instanceTypes := #[(.object "java/lang/String"), .int, .int]
  staticTypes := #[]
  resolved := Array.replicate 204 none
  statics := none }

def pool8 : Array CpInfo := pool [(1, .class_ 2), (0, u "com/example/upright_meter/uprightmeter/Kind"), (2, u "REGULAR_FILE"), (0, u "Lcom/example/upright_meter/uprightmeter/Kind;"), (2, u "DIRECTORY"), (2, u "SYMLINK"), (2, u "FIFO"), (2, u "SOCKET"), (2, u "CHARACTER_DEVICE"), (2, u "BLOCK_DEVICE"), (2, u "UNKNOWN"), (2, u "$VALUES"), (0, u "[Lcom/example/upright_meter/uprightmeter/Kind;"), (6, .class_ 40), (1, u "java/lang/Enum"), (8, u "type"), (0, u "I"), (2, u "letter"), (0, u "C"), (3, u "ALL"), (21, u "S_IFMT")] 18

/-- com/example/upright_meter/uprightmeter/Kind -/
def k8 : Class := { plain "com/example/upright_meter/uprightmeter/Kind" (some 7) with
  accessFlags := 16432
  interfaces := #[]
  cf := some (fileOf pool8 1 #[] #[] 16432 38 #[] #[{ accessFlags := 16409, nameIndex := 5, descriptorIndex := 6, attributes := #[] }, { accessFlags := 16409, nameIndex := 9, descriptorIndex := 6, attributes := #[] }, { accessFlags := 16409, nameIndex := 12, descriptorIndex := 6, attributes := #[] }, { accessFlags := 16409, nameIndex := 15, descriptorIndex := 6, attributes := #[] }, { accessFlags := 16409, nameIndex := 18, descriptorIndex := 6, attributes := #[] }, { accessFlags := 16409, nameIndex := 21, descriptorIndex := 6, attributes := #[] }, { accessFlags := 16409, nameIndex := 24, descriptorIndex := 6, attributes := #[] }, { accessFlags := 16409, nameIndex := 27, descriptorIndex := 6, attributes := #[] }, { accessFlags := 26, nameIndex := 80, descriptorIndex := 50, attributes := #[] }, { accessFlags := 26, nameIndex := 58, descriptorIndex := 31, attributes := #[] }, { accessFlags := 18, nameIndex := 49, descriptorIndex := 50, attributes := #[] }, { accessFlags := 18, nameIndex := 53, descriptorIndex := 54, attributes := #[] }, { accessFlags := 4122, nameIndex := 30, descriptorIndex := 31, attributes := #[] }])
  fields := #[{ name := "REGULAR_FILE", type := (.object "com/example/upright_meter/uprightmeter/Kind"), accessFlags := 16409, slot := 0, constantValue := 0 }, { name := "DIRECTORY", type := (.object "com/example/upright_meter/uprightmeter/Kind"), accessFlags := 16409, slot := 1, constantValue := 0 }, { name := "SYMLINK", type := (.object "com/example/upright_meter/uprightmeter/Kind"), accessFlags := 16409, slot := 2, constantValue := 0 }, { name := "FIFO", type := (.object "com/example/upright_meter/uprightmeter/Kind"), accessFlags := 16409, slot := 3, constantValue := 0 }, { name := "SOCKET", type := (.object "com/example/upright_meter/uprightmeter/Kind"), accessFlags := 16409, slot := 4, constantValue := 0 }, { name := "CHARACTER_DEVICE", type := (.object "com/example/upright_meter/uprightmeter/Kind"), accessFlags := 16409, slot := 5, constantValue := 0 }, { name := "BLOCK_DEVICE", type := (.object "com/example/upright_meter/uprightmeter/Kind"), accessFlags := 16409, slot := 6, constantValue := 0 }, { name := "UNKNOWN", type := (.object "com/example/upright_meter/uprightmeter/Kind"), accessFlags := 16409, slot := 7, constantValue := 0 }, { name := "S_IFMT", type := .int, accessFlags := 26, slot := 8, constantValue := 0 }, { name := "ALL", type := (.array (.object "com/example/upright_meter/uprightmeter/Kind")), accessFlags := 26, slot := 9, constantValue := 0 }, { name := "type", type := .int, accessFlags := 18, slot := 3, constantValue := 0 }, { name := "letter", type := .char, accessFlags := 18, slot := 4, constantValue := 0 }, { name := "$VALUES", type := (.array (.object "com/example/upright_meter/uprightmeter/Kind")), accessFlags := 4122, slot := 10, constantValue := 0 }]
  methods := #[]
  instanceTypes := #[(.object "java/lang/String"), .int, .int, .int, .char]
  staticTypes := #[(.object "com/example/upright_meter/uprightmeter/Kind"), (.object "com/example/upright_meter/uprightmeter/Kind"), (.object "com/example/upright_meter/uprightmeter/Kind"), (.object "com/example/upright_meter/uprightmeter/Kind"), (.object "com/example/upright_meter/uprightmeter/Kind"), (.object "com/example/upright_meter/uprightmeter/Kind"), (.object "com/example/upright_meter/uprightmeter/Kind"), (.object "com/example/upright_meter/uprightmeter/Kind"), .int, (.array (.object "com/example/upright_meter/uprightmeter/Kind")), (.array (.object "com/example/upright_meter/uprightmeter/Kind"))]
  resolved := Array.replicate 99 none
  statics := some 0 }

def pool9 : Array CpInfo := pool [(1, u "java/lang/Cloneable"), (0, .class_ 1), (0, u "java/lang/Object"), (0, .class_ 3)] 3

/-- java/lang/Cloneable -/
def k9 : Class := { plain "java/lang/Cloneable" (some 0) with
  accessFlags := 1537
  interfaces := #[]
  cf := some (fileOf pool9 2 #[] #[] 1537 4 #[] #[])
  fields := #[]
  methods := #[]
  instanceTypes := #[]
  staticTypes := #[]
  resolved := Array.replicate 8 none
  statics := none }

/-- the primitive byte -/
def k10 : Class := { plain "byte" none with kind := .primitive 'B', accessFlags := 0x411 }
/-- [B -/
def k11 : Class := { plain "[B" (some 0) with kind := .array 10 .byte, interfaces := #[9, 6], accessFlags := 1041 }

def heap : Heap := #[{ cls := 8, slots := #[.ref 1, .ref 2, .ref 3, .ref 4, .ref 5, .ref 6, .ref 7, .ref 8, .int 0, .null, .null], vm := .statics 8 },
  { cls := 8, slots := #[.null, .int 0, .int 0, .int 0, .int 0], vm := .none },
  { cls := 8, slots := #[.null, .int 1, .int 0, .int 0, .int 0], vm := .none },
  { cls := 8, slots := #[.null, .int 2, .int 0, .int 0, .int 0], vm := .none },
  { cls := 8, slots := #[.null, .int 3, .int 0, .int 0, .int 0], vm := .none },
  { cls := 8, slots := #[.null, .int 4, .int 0, .int 0, .int 0], vm := .none },
  { cls := 8, slots := #[.null, .int 5, .int 0, .int 0, .int 0], vm := .none },
  { cls := 8, slots := #[.null, .int 6, .int 0, .int 0, .int 0], vm := .none },
  { cls := 8, slots := #[.null, .int 7, .int 0, .int 0, .int 0], vm := .none }]
def classes : Array Class := #[k0, k1, k2, k3, k4, k5, k6, k7, k8, k9, k10, k11]
def interned : List (Array UInt16 × Addr) := []
def slotsUsed : Nat := 51
def theMethod : MethodId := ⟨1, 2⟩
def args0 : Array Value := #[.long 5, .long 3, .int 9, .long 1, .long 2, .int 4]
def aboutOver (below : List Frame) : State where
  vm := { classes := classes, interned := interned.toArray }
  heap := heap
  slotsUsed := slotsUsed
  threads := #[{ frames := .invoking theMethod args0 :: below }]
def below0 : List Frame := [.native { method := ⟨0, 0⟩, args := #[] }]
def about1 : State := aboutOver below0
def p0 : Program := .bare "" "" ""
def e0 : Env := launch0.env 0 0 0
theorem w_frames : about1.frames = Frame.invoking theMethod args0 :: below0 := rfl
set_option maxRecDepth 65536 in
theorem w_args : argsFit about1.vm theMethod args0 = true := by decide +kernel
set_option maxRecDepth 65536 in
theorem w_heap : heapFits about1 = true := by decide +kernel
set_option maxRecDepth 65536 in
theorem w_runnable : about1.curStatus? = some .runnable := by decide +kernel
set_option maxRecDepth 65536 in
theorem w_alone : about1.alone = true := by decide +kernel
set_option maxRecDepth 65536 in
theorem w_named : about1.methodNamed? x = some theMethod := by decide +kernel
set_option maxRecDepth 65536 in
theorem w_hears : about1.hears theMethod below0 = true := by decide +kernel
set_option maxRecDepth 65536 in
theorem w_ripe : about1.ripe theMethod args0 below0 = true := by decide +kernel
theorem w_running : about1.status = .running := rfl
set_option maxRecDepth 65536 in
theorem w_room : about1.hasRoom e0.platform room_1 = true :=
  launch0.hasRoom_least _ room_1 (by decide +kernel) (by decide +kernel) (by decide +kernel) (by decide +kernel) (by decide +kernel) (by decide +kernel)
theorem allAtoms_all (ts : List Jvm.Cond) (a : Array Jvm.Value) (st : Jvm.State) : (allAtoms ts).before a st = ts.all (fun c => c.before a st) := by
  induction ts with
  | nil => rfl
  | cons c t ih =>
    show (Jvm.Cond.and c (allAtoms t)).before a st = _
    rw [Jvm.Cond.before_and, ih, List.all_cons]
def words1 : List Jvm.Cond := Jvm.Cond.code x code maxLocals ret :: tables_1
/-- a 'code' word, met by the world's own term for the bytes: nothing is compared byte by byte -/
theorem code_word {y : MethodName} {bytes : ByteArray} {mx : Nat} {rt : Option FieldType} {a : Array Value} {s : State} {m : MethodId} {meth : Method} {c : Code} (h1 : s.methodNamed? y = some m) (h2 : s.vm.method? m = some meth) (h3 : meth.code = some c) (h4 : c.code = bytes)
    (h5 : (c.maxLocals == mx && c.exceptionTable.isEmpty && decide (c.maxStack ≤ mostOperands) && decide (meth.sig.returnType = rt) && !meth.locks && decide (parseMethodDescriptor y.desc = some meth.sig)) = true) : (Jvm.Cond.code y bytes mx rt).before a s = true := by
  simp only [Bool.and_eq_true, beq_iff_eq, Bool.not_eq_true', decide_eq_true_eq] at h5
  obtain ⟨⟨⟨⟨⟨g1, g2⟩, g3⟩, g4⟩, g5⟩, g6⟩ := h5
  simp [Cond.before, Cond.holds, Cond.value, h1, h2, h3, h4, g1, g2, g3, g4, g5, g6]
def isCode : Jvm.Cond → Bool
  | .code _ _ _ _ => true
  | _ => false
theorem all_split {L : List Jvm.Cond} {P : Jvm.Cond → Bool} (h1 : L.all (fun c => isCode c || P c) = true) (h2 : ∀ c ∈ L.filter isCode, P c = true) : L.all P = true := by
  refine List.all_eq_true.mpr fun c hc => ?_
  have h := List.all_eq_true.mp h1 c hc
  rcases Bool.eq_false_or_eq_true (isCode c) with hi | hi
  · exact h2 c (List.mem_filter.mpr ⟨hc, hi⟩)
  · simpa [hi] using h
set_option maxRecDepth 65536 in
theorem w_c0 : (Jvm.Cond.code x code maxLocals ret).before args0 about1 = true := code_word (m := ⟨1, 2⟩) (meth := k1m2) (c := k1c2) (by decide +kernel) rfl rfl rfl (by decide +kernel)
set_option maxRecDepth 65536 in
theorem w_c1 : (Jvm.Cond.code ({ cls := "com/example/upright_meter/uprightmeter/ObjectStatIsSameObjectAsPinLaw", name := "kindOf", desc := "(I)Lcom/example/upright_meter/uprightmeter/Kind;" } : Jvm.MethodName) method_2_code (1 : Nat) (Option.some (Jvm.ClassFile.FieldType.object "com/example/upright_meter/uprightmeter/Kind"))).before args0 about1 = true := code_word (m := ⟨1, 1⟩) (meth := k1m1) (c := k1c1) (by decide +kernel) rfl rfl rfl (by decide +kernel)
set_option maxRecDepth 65536 in
theorem w_c2 : (Jvm.Cond.code ({ cls := "com/example/upright_meter/uprightmeter/ObjectStat", name := "<init>", desc := "(Lcom/example/upright_meter/uprightmeter/Kind;JJJJJJI)V" } : Jvm.MethodName) prog_32_method_1_code (15 : Nat) (Option.none : Option Jvm.ClassFile.FieldType)).before args0 about1 = true := code_word (m := ⟨3, 0⟩) (meth := k3m0) (c := k3c0) (by decide +kernel) rfl rfl rfl (by decide +kernel)
set_option maxRecDepth 65536 in
theorem w_c3 : (Jvm.Cond.code ({ cls := "java/lang/Record", name := "<init>", desc := "()V" } : Jvm.MethodName) jdk_30_method_1_code (1 : Nat) (Option.none : Option Jvm.ClassFile.FieldType)).before args0 about1 = true := code_word (m := ⟨2, 0⟩) (meth := k2m0) (c := k2c0) (by decide +kernel) rfl rfl rfl (by decide +kernel)
set_option maxRecDepth 65536 in
theorem w_c4 : (Jvm.Cond.code ({ cls := "java/lang/Object", name := "<init>", desc := "()V" } : Jvm.MethodName) object_method_1_code (1 : Nat) (Option.none : Option Jvm.ClassFile.FieldType)).before args0 about1 = true := code_word (m := ⟨0, 0⟩) (meth := k0m0) (c := k0c0) (by decide +kernel) rfl rfl rfl (by decide +kernel)
set_option maxRecDepth 65536 in
theorem w_c5 : (Jvm.Cond.code ({ cls := "com/example/upright_meter/uprightmeter/ObjectStat", name := "isSameObjectAs", desc := "(Lcom/example/upright_meter/uprightmeter/ObjectStat;)Z" } : Jvm.MethodName) prog_32_method_3_code (2 : Nat) (Option.some Jvm.ClassFile.FieldType.boolean)).before args0 about1 = true := code_word (m := ⟨3, 1⟩) (meth := k3m1) (c := k3c1) (by decide +kernel) rfl rfl rfl (by decide +kernel)
def codes1 : List Jvm.Cond := [Jvm.Cond.code x code maxLocals ret, Jvm.Cond.code ({ cls := "com/example/upright_meter/uprightmeter/ObjectStatIsSameObjectAsPinLaw", name := "kindOf", desc := "(I)Lcom/example/upright_meter/uprightmeter/Kind;" } : Jvm.MethodName) method_2_code (1 : Nat) (Option.some (Jvm.ClassFile.FieldType.object "com/example/upright_meter/uprightmeter/Kind")), Jvm.Cond.code ({ cls := "com/example/upright_meter/uprightmeter/ObjectStat", name := "<init>", desc := "(Lcom/example/upright_meter/uprightmeter/Kind;JJJJJJI)V" } : Jvm.MethodName) prog_32_method_1_code (15 : Nat) (Option.none : Option Jvm.ClassFile.FieldType), Jvm.Cond.code ({ cls := "java/lang/Record", name := "<init>", desc := "()V" } : Jvm.MethodName) jdk_30_method_1_code (1 : Nat) (Option.none : Option Jvm.ClassFile.FieldType), Jvm.Cond.code ({ cls := "java/lang/Object", name := "<init>", desc := "()V" } : Jvm.MethodName) object_method_1_code (1 : Nat) (Option.none : Option Jvm.ClassFile.FieldType), Jvm.Cond.code ({ cls := "com/example/upright_meter/uprightmeter/ObjectStat", name := "isSameObjectAs", desc := "(Lcom/example/upright_meter/uprightmeter/ObjectStat;)Z" } : Jvm.MethodName) prog_32_method_3_code (2 : Nat) (Option.some Jvm.ClassFile.FieldType.boolean)]
set_option maxRecDepth 65536 in
theorem codes_eq : words1.filter isCode = codes1 := rfl
theorem w_codes : ∀ c ∈ words1.filter isCode, c.before args0 about1 = true := by
  rw [codes_eq]
  intro c hc
  simp only [codes1, List.mem_cons, List.not_mem_nil, or_false] at hc
  rcases hc with rfl | rfl | rfl | rfl | rfl | rfl
  · exact w_c0
  · exact w_c1
  · exact w_c2
  · exact w_c3
  · exact w_c4
  · exact w_c5
set_option maxRecDepth 65536 in
theorem w_t1 : (words1.take 24).all (fun c => isCode c || c.before args0 about1) = true := by decide +kernel
set_option maxRecDepth 65536 in
theorem w_t2 : ((words1.drop 24).take 24).all (fun c => isCode c || c.before args0 about1) = true := by decide +kernel
set_option maxRecDepth 65536 in
theorem w_t3 : ((words1.drop 24).drop 24).all (fun c => isCode c || c.before args0 about1) = true := by decide +kernel
theorem w_tables : (allAtoms (Jvm.Cond.code x code maxLocals ret :: tables_1)).before args0 about1 = true := by
  rw [allAtoms_all]
  show words1.all (fun c => c.before args0 about1) = true
  refine all_split ?_ w_codes
  rw [← List.take_append_drop 24 words1, List.all_append, w_t1, ← List.take_append_drop 24 (words1.drop 24), List.all_append, w_t2, w_t3]
  rfl
set_option maxRecDepth 65536 in
theorem w_case : (Jvm.Cond.and given_1 narrow_1).before args0 about1 = true := by decide +kernel
theorem w_applies : (headSpec (Jvm.Cond.code x code maxLocals ret :: tables_1) room_1).applies x e0.platform about1 = true :=
  (Spec.applies_iff w_frames).mpr ⟨w_running, w_runnable, w_alone, w_named, w_hears, w_ripe, w_room, w_tables⟩
theorem atStart : AtStart classFile x code maxLocals ret World_1 tables_1 room_1 Calls_1 rest_1 Pre_1 launch0 p0 e0 about1 theMethod args0 below0 :=
  ⟨lists_1, trivial, launch0.admits_env _ _ _, launch0.least_env, fairChoices_fair.cas, fairChoices_fair.clock, w_frames, w_args, w_heap, w_applies, trivial, trivial, w_case⟩
end start1
theorem witness_1 : WitnessClaimed_1 := ⟨start1.p0, start1.e0, start1.about1, start1.theMethod, start1.args0, start1.below0, start1.atStart⟩
end Jvm.Pilot.@@N@@
