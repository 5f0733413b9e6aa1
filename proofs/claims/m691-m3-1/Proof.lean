import JvmDerived
import JvmDerived.Pilot.@@N@@Statement
import JvmDerived.Pilot.@@N@@Code
set_option linter.unusedVariables false
set_option linter.unusedSimpArgs false
namespace Jvm.Pilot.@@N@@
open Jvm Jvm.ClassFile Sem Op Lib Jvm.Free Jvm.Stand Jvm.LawKit Jvm.RoadKit Bundle Jvm.Pilot.@@N@@.Jvm.D
section Own
/-- the run goes on from here and ends as E says -/
def Go (p : Program) (e : Env) (below : List Frame) (E : State → Prop) (T : State) (f : JFrame) : Prop := ∃ t, Steps p.tables e below (T.setTop f) t ∧ E t
theorem Go.of {p : Program} {e : Env} {below : List Frame} {E : State → Prop} {T T' : State} {f f' : JFrame} (st : ∀ t, Steps p.tables e below (T'.setTop f') t → Steps p.tables e below (T.setTop f) t) (h : Go p e below E T' f') : Go p e below E T f := by
  obtain ⟨t, h1, h2⟩ := h
  exact ⟨t, st t h1, h2⟩
theorem Go.cast {p : Program} {e : Env} {below : List Frame} {E : State → Prop} {T : State} {f f' : JFrame} (q : f = f') (h : Go p e below E T f') : Go p e below E T f := q ▸ h
/-- the end of an invocation: it has returned, and Q holds of what it returned, of the heap, of what it wrote -/
def Fine (s : State) (below : List Frame) (rm : Room) (Q : Option Value → Heap → List Loc → Prop) (t : State) : Prop :=
  ∃ o, t.status = .running ∧ Ended t below o ∧ ∃ v L, o = .returned v ∧ Q v t.heap L ∧ FrameEnd s o t L rm.cells rm.slots
/-- a contract -/
abbrev Ct (l : Launch) (Z : State) (y : MethodName) (bytes : ByteArray) (maxL : Nat) (rt : Option FieldType) (ws : List Jvm.Cond) (rm : Room) (as' : Array Value) (h : Heap) (Q : Option Value → Heap → List Loc → Prop) : Prop :=
  MetFree l y (head1 (Jvm.Cond.code y bytes maxL rt :: ws) rm) (fun a U => a = as' ∧ Z.Warmed39 U.vm ∧ U.heap = h) (fun _ _ _ _ _ => True) (fun _ U o U' => ∃ v L, o = .returned v ∧ Q v U'.heap L ∧ FrameEnd U o U' L rm.cells rm.slots)
/-- it returns V and leaves the heap as it was -/
def Pu (h : Heap) (V : Option Value) : Option Value → Heap → List Loc → Prop := fun v h' L => v = V ∧ L = [] ∧ h' = h
theorem own_met {l : Launch} {Z : State} {y : MethodName} {bytes : ByteArray} {maxL : Nat} {rt : Option FieldType} {ws : List Jvm.Cond} {rm : Room} {as' : Array Value} {h : Heap} {Q : Option Value → Heap → List Loc → Prop} (hpl : plainFor y = true)
    (body : ∀ (p : Program) (e : Env) (s : State) (m : MethodId) (below : List Frame) (meth : Method) (c : Code) (s₁ : State), Stand p l e rm s m as' below meth c s₁ [] 0 0 → p.tables.exec = Jvm.exec → c.code = bytes → c.maxLocals = maxL → meth.sig.returnType = rt →
      s.vm.findClass y.cls = some m.cls → meth.name = y.name → meth.locks = false → Z.Warmed39 s.vm → s₁.heap = h → Go p e below (Fine s below rm Q) s₁ (entryFrame m as' maxL)) : Ct l Z y bytes maxL rt ws rm as' h Q := by
  refine MetFree.of_bodySF hpl hisR ?_
  intro p e s m args below meth c s₁ Bd hml0 hP hK
  obtain ⟨rfl, hZ, hh⟩ := hP
  have X0 : Stand p l e rm s m _ below meth c s₁ [] 0 0 := Stand.of_body Bd
  obtain ⟨t, h1, o, h2, h3, h4⟩ := body p e s m below meth c s₁ X0 Bd.exec Bd.bytes hml0 Bd.returns (findClass_of_methodNamed Bd.named) (name_of_methodNamed Bd.named Bd.method).1 Bd.notSynchronized hZ (by rw [← hh, Bd.state]; rfl)
  exact ⟨t, o, h1, h2, h3, h4⟩
section Steps
variable {p : Program} {l : Launch} {e : Env} {R : Room} {s : State} {m : MethodId} {args : Array Value} {below : List Frame} {meth : Method} {c : Code} {T : State} {locs : List Loc} {cells slots : Nat} {Z : State} {a0 : Array Value} {h : Heap} {Q : Option Value → Heap → List Loc → Prop}
theorem own_retI (X : Stand p l e R s m args below meth c T locs cells slots) (hx : p.tables.exec = Jvm.exec) (hlk : meth.locks = false) {pc : Nat} {Ls : Array Slot} {z : Int32} {rest : List Value} (hret : meth.sig.returnType = some .int) (hd : decode c.code pc = .ok (.ireturn, 1))
    (hQ : Q (some (.int z)) T.heap locs) (hc : cells ≤ R.cells) (hs : slots ≤ R.slots) : Go p e below (Fine s below R Q) T (mkF m pc Ls (.int z :: rest)) := by
  obtain ⟨fs, hr, hrun, hended, hW, hsame⟩ := X.leave (v := some (.int z)) (fun h => by rw [hret] at h; cases h) hlk
  exact ⟨_, retOut X hx hret rfl (Or.inl ⟨rfl, Or.inl rfl, z, rfl⟩) hd hr, _, hrun, hended, _, _, rfl, hQ, ⟨_, rfl⟩, hW, hsame.mono hc hs⟩
theorem own_retZ (X : Stand p l e R s m args below meth c T locs cells slots) (hx : p.tables.exec = Jvm.exec) (hlk : meth.locks = false) {pc : Nat} {Ls : Array Slot} {z z' : Int32} {rest : List Value} (hret : meth.sig.returnType = some .boolean) (hd : decode c.code pc = .ok (.ireturn, 1)) (hz : nar .boolean z = z')
    (hQ : Q (some (.int z')) T.heap locs) (hc : cells ≤ R.cells) (hs : slots ≤ R.slots) : Go p e below (Fine s below R Q) T (mkF m pc Ls (.int z :: rest)) := by
  subst hz
  obtain ⟨fs, hr, hrun, hended, hW, hsame⟩ := X.leave (v := some (.int (nar .boolean z))) (fun h => by rw [hret] at h; cases h) hlk
  exact ⟨_, retN X hx (t := .boolean) hret (by simp) hd hr, _, hrun, hended, _, _, rfl, hQ, ⟨_, rfl⟩, hW, hsame.mono hc hs⟩
theorem own_retA (X : Stand p l e R s m args below meth c T locs cells slots) (hx : p.tables.exec = Jvm.exec) (hlk : meth.locks = false) {pc : Nat} {Ls : Array Slot} {w : Value} {t : FieldType} {rest : List Value} (hret : meth.sig.returnType = some t) (ht : t.isReference = true) (hw : w.isRef = true) (hd : decode c.code pc = .ok (.areturn, 1))
    (hQ : Q (some w) T.heap locs) (hc : cells ≤ R.cells) (hs : slots ≤ R.slots) : Go p e below (Fine s below R Q) T (mkF m pc Ls (w :: rest)) := by
  obtain ⟨fs, hr, hrun, hended, hW, hsame⟩ := X.leave (v := some w) (fun h => by rw [hret] at h; cases h) hlk
  have hn : narrow t w = w := by rcases ref_cases hw with rfl | ⟨q, rfl⟩ <;> cases t <;> first | rfl | (cases ht; done)
  exact ⟨_, retOut X hx hret hn (Or.inr (Or.inr (Or.inr (Or.inr ⟨rfl, ht, hw⟩)))) hd hr, _, hrun, hended, _, _, rfl, hQ, ⟨_, rfl⟩, hW, hsame.mono hc hs⟩
theorem own_retV (X : Stand p l e R s m args below meth c T locs cells slots) (hx : p.tables.exec = Jvm.exec) (hlk : meth.locks = false) {pc : Nat} {Ls : Array Slot} (hret : meth.sig.returnType = none) (hd : decode c.code pc = .ok (.return_, 1))
    (hQ : Q none T.heap locs) (hc : cells ≤ R.cells) (hs : slots ≤ R.slots) : Go p e below (Fine s below R Q) T (mkF m pc Ls []) := by
  obtain ⟨fs, hr, hrun, hended, hW, hsame⟩ := X.leave (v := none) (fun _ => rfl) hlk
  exact ⟨_, X.returnOut hx hret hd hr, _, hrun, hended, _, _, rfl, hQ, ⟨_, rfl⟩, hW, hsame.mono hc hs⟩
/-- a static call by a contract -/
theorem own_callSQ (X : Stand p l e R s m args below meth c T locs cells slots) (hx : p.tables.exec = Jvm.exec) (hZ : Z.Warmed39 s.vm) {own : String} {index : Nat} {y : MethodName} {bytes : ByteArray} {maxL : Nat} {rt : Option FieldType} (hown : s.vm.findClass own = some m.cls)
    (w1 : (Jvm.Cond.methodLink own index y).before a0 Z = true) (w2 : (Jvm.Cond.static y).before a0 Z = true) (w3 : (Jvm.Cond.initialized y.cls).before a0 Z = true) (w4 : (Jvm.Cond.code y bytes maxL rt).before a0 Z = true) (hy : y.cls ≠ "java/lang/invoke/MethodHandle" ∧ y.cls ≠ "java/lang/invoke/VarHandle")
    {rm : Room} {as' : Array Value} (hM : Ct l Z y bytes maxL rt [] rm as' h Q) (hf : rm.frames + 1 ≤ R.frames) (W : Nat) (hl : W + (maxL + 11) + rm.locals ≤ R.locals) (hc : cells + rm.cells ≤ R.cells) (hs : slots + rm.slots ≤ R.slots) (eT : T.heap = h)
    {g : JFrame} (hg : g.method = m) (hsize : g.locals.size = c.maxLocals) (argsL rest : List Value) (hlen : ∀ sig, parseMethodDescriptor y.desc = some sig → argsL.length = sig.parameters.length) (hstack : g.stack = argsL.reverse ++ rest) (hW : 2 * g.monitorRoom + (rest.map fun v => v.category).sum ≤ W) (has : argsL.toArray = as')
    (hd : decode c.code g.pc = .ok (.invokestatic index, 3)) : ∃ T' L v, Stand p l e R s m args below meth c T' (locs ++ L) (cells + rm.cells) (slots + rm.slots) ∧ Q v T'.heap L ∧ ∀ t, Steps p.tables e below (T'.setTop { g with pc := g.pc + 3, stack := v.toList ++ rest }) t → Steps p.tables e below (T.setTop g) t := by
  obtain ⟨v, _, ⟨T', L', k', n'⟩, -, X', ⟨L, hQ, q1, q2, q3⟩, st⟩ := Jvm.LawKit.callS X hx (y := y) hown (mvT hZ w1) (mvT hZ w2) (mvT hZ w3) (mvT hZ w4) hy (backOf (W := W) hM hZ w4 w3 hf hl) hg hsize (argsL := argsL) (rest := rest) hlen hstack hW hd (fun _ _ => ⟨has, eT, hc, hs⟩)
  dsimp only [Pt.U, Pt.locs, Pt.cells, Pt.slots] at X' q1 q2 q3 st hQ
  subst q1 q2 q3
  exact ⟨T', L, v, X', hQ, st⟩
/-- an instance call by a contract -/
theorem own_callVQ (X : Stand p l e R s m args below meth c T locs cells slots) (hx : p.tables.exec = Jvm.exec) (hZ : Z.Warmed39 s.vm) {own C : String} {index : Nat} {y z : MethodName} {bytes : ByteArray} {maxL : Nat} {rt : Option FieldType} (hown : s.vm.findClass own = some m.cls)
    (w1 : (Jvm.Cond.methodLink own index y).before a0 Z = true) (w2 : (Jvm.Cond.declares y).before a0 Z = true) (w2' : (Jvm.Cond.selects y.cls y y).before a0 Z = true) (w3 : (Jvm.Cond.selects C y z).before a0 Z = true) (w4 : (Jvm.Cond.instanceMethod z).before a0 Z = true) (w5 : (Jvm.Cond.code z bytes maxL rt).before a0 Z = true) (w6 : (Jvm.Cond.initialized z.cls).before a0 Z = true) (hy : y.cls ≠ "java/lang/invoke/MethodHandle" ∧ y.cls ≠ "java/lang/invoke/VarHandle")
    {rm : Room} {as' : Array Value} (hM : Ct l Z z bytes maxL rt [] rm as' h Q) (hf : rm.frames + 1 ≤ R.frames) (W : Nat) (hl : W + (maxL + 11) + rm.locals ≤ R.locals) (hc : cells + rm.cells ≤ R.cells) (hs : slots + rm.slots ≤ R.slots) (eT : T.heap = h) {b : Addr} (hE : Exa Z h b C)
    {g : JFrame} (hg : g.method = m) (hsize : g.locals.size = c.maxLocals) (argsL rest : List Value) (hlen : ∀ sig, parseMethodDescriptor y.desc = some sig → argsL.length = sig.parameters.length) (hstack : g.stack = argsL.reverse ++ .ref b :: rest) (hW : 2 * g.monitorRoom + (rest.map fun v => v.category).sum ≤ W) (has : (.ref b :: argsL).toArray = as')
    (hd : decode c.code g.pc = .ok (.invokevirtual index, 3)) : ∃ T' L v, Stand p l e R s m args below meth c T' (locs ++ L) (cells + rm.cells) (slots + rm.slots) ∧ Q v T'.heap L ∧ ∀ t, Steps p.tables e below (T'.setTop { g with pc := g.pc + 3, stack := v.toList ++ rest }) t → Steps p.tables e below (T.setTop g) t := by
  obtain ⟨cq, kq, qa, qb, qc⟩ := isOf (s := s) hZ eT hE
  obtain ⟨v, _, ⟨T', L', k', n'⟩, -, X', ⟨L, hQ, q1, q2, q3⟩, st⟩ := X.virtualBack hx (y := y) (z := z) hown (mvT hZ w1) (mvT hZ w2) (notFace_of_selects (args := #[]) (mvT hZ w2')) (mvT hZ w3) (mvT hZ w4) hy (backOf (W := W) hM hZ w5 w6 hf hl) qa qc hg hsize (Steps.refl _) (argsL := argsL) (rest := rest) hlen hstack hW hd (fun _ _ => ⟨has, eT, hc, hs⟩)
  dsimp only [Pt.U, Pt.locs, Pt.cells, Pt.slots] at X' q1 q2 q3 st hQ
  subst q1 q2 q3
  exact ⟨T', L, v, X', hQ, fun t k => st.trans k⟩
/-- an instance call of a method that a class above declares -/
theorem own_callUQ (X : Stand p l e R s m args below meth c T locs cells slots) (hx : p.tables.exec = Jvm.exec) (hZ : Z.Warmed39 s.vm) {own C owner : String} {index : Nat} {y z : MethodName} {bytes : ByteArray} {maxL : Nat} {rt : Option FieldType} (hown : s.vm.findClass own = some m.cls)
    (w1 : (Jvm.Cond.methodLink own index y).before a0 Z = true) (w2 : (Jvm.Cond.sameMethod y.cls owner y.name y.desc).before a0 Z = true) (w2' : (Jvm.Cond.declares ⟨owner, y.name, y.desc⟩).before a0 Z = true) (hy : owner ≠ "java/lang/invoke/MethodHandle" ∧ owner ≠ "java/lang/invoke/VarHandle") (w3 : (Jvm.Cond.selects C y z).before a0 Z = true) (w4 : (Jvm.Cond.instanceMethod z).before a0 Z = true) (w5 : (Jvm.Cond.code z bytes maxL rt).before a0 Z = true) (w6 : (Jvm.Cond.initialized z.cls).before a0 Z = true)
    {rm : Room} {as' : Array Value} (hM : Ct l Z z bytes maxL rt [] rm as' h Q) (hf : rm.frames + 1 ≤ R.frames) (W : Nat) (hl : W + (maxL + 11) + rm.locals ≤ R.locals) (hc : cells + rm.cells ≤ R.cells) (hs : slots + rm.slots ≤ R.slots) (eT : T.heap = h) {b : Addr} (hE : Exa Z h b C)
    {g : JFrame} (hg : g.method = m) (hsize : g.locals.size = c.maxLocals) (argsL rest : List Value) (hlen : ∀ sig, parseMethodDescriptor y.desc = some sig → argsL.length = sig.parameters.length) (hstack : g.stack = argsL.reverse ++ .ref b :: rest) (hW : 2 * g.monitorRoom + (rest.map fun v => v.category).sum ≤ W) (has : (.ref b :: argsL).toArray = as')
    (hd : decode c.code g.pc = .ok (.invokevirtual index, 3)) : ∃ T' L v, Stand p l e R s m args below meth c T' (locs ++ L) (cells + rm.cells) (slots + rm.slots) ∧ Q v T'.heap L ∧ ∀ t, Steps p.tables e below (T'.setTop { g with pc := g.pc + 3, stack := v.toList ++ rest }) t → Steps p.tables e below (T.setTop g) t := by
  obtain ⟨cq, kq, qa, qb, qc⟩ := isOf (s := s) hZ eT hE
  obtain ⟨v, _, ⟨T', L', k', n'⟩, -, X', ⟨L, hQ, q1, q2, q3⟩, st⟩ := X.virtualBackUp hx (x := y) (y := z) hown (mvT hZ w1) (mvT hZ w2) (mvT hZ w2') hy (mvT hZ w3) (mvT hZ w4) (backOf (W := W) hM hZ w5 w6 hf hl) qa qc hg hsize (Steps.refl _) (argsL := argsL) (rest := rest) hlen hstack hW hd (fun _ _ => ⟨has, eT, hc, hs⟩)
  dsimp only [Pt.U, Pt.locs, Pt.cells, Pt.slots] at X' q1 q2 q3 st hQ
  subst q1 q2 q3
  exact ⟨T', L, v, X', hQ, fun t k => st.trans k⟩
/-- a constructor by a contract -/
theorem own_callCQ (X : Stand p l e R s m args below meth c T locs cells slots) (hx : p.tables.exec = Jvm.exec) (hZ : Z.Warmed39 s.vm) {own : String} {index : Nat} {y : MethodName} {bytes : ByteArray} {maxL : Nat} (hy1 : y.name = "<init>") (hown : s.vm.findClass own = some m.cls)
    (w1 : (Jvm.Cond.methodLink own index y).before a0 Z = true) (w2 : (Jvm.Cond.instanceMethod y).before a0 Z = true) (w5 : (Jvm.Cond.code y bytes maxL none).before a0 Z = true) (w6 : (Jvm.Cond.initialized y.cls).before a0 Z = true) (hy : y.cls ≠ "java/lang/invoke/MethodHandle" ∧ y.cls ≠ "java/lang/invoke/VarHandle")
    {rm : Room} {as' : Array Value} (hM : Ct l Z y bytes maxL none [] rm as' h Q) (hf : rm.frames + 1 ≤ R.frames) (W : Nat) (hl : W + (maxL + 11) + rm.locals ≤ R.locals) (hc : cells + rm.cells ≤ R.cells) (hs : slots + rm.slots ≤ R.slots) (eT : T.heap = h) {b : Addr}
    {g : JFrame} (hg : g.method = m) (hsize : g.locals.size = c.maxLocals) (argsL rest : List Value) (hlen : ∀ sig, parseMethodDescriptor y.desc = some sig → argsL.length = sig.parameters.length) (hstack : g.stack = argsL.reverse ++ .ref b :: rest) (hW : 2 * g.monitorRoom + (rest.map fun v => v.category).sum ≤ W) (has : (.ref b :: argsL).toArray = as')
    (hd : decode c.code g.pc = .ok (.invokespecial index, 3)) : ∃ T' L v, Stand p l e R s m args below meth c T' (locs ++ L) (cells + rm.cells) (slots + rm.slots) ∧ Q v T'.heap L ∧ ∀ t, Steps p.tables e below (T'.setTop { g with pc := g.pc + 3, stack := v.toList ++ rest }) t → Steps p.tables e below (T.setTop g) t := by
  obtain ⟨v, _, ⟨T', L', k', n'⟩, -, X', ⟨L, hQ, q1, q2, q3⟩, st⟩ := X.specialBack hx (y := y) hy1 hown (mvT hZ w1) (mvT hZ w2) (mvT hZ w5) hy (backOf (W := W) hM hZ w5 w6 hf hl) hg hsize (Steps.refl _) (a := b) (argsL := argsL) (rest := rest) hlen hstack hW hd (fun _ _ => ⟨has, eT, hc, hs⟩)
  dsimp only [Pt.U, Pt.locs, Pt.cells, Pt.slots] at X' q1 q2 q3 st hQ
  subst q1 q2 q3
  exact ⟨T', L, v, X', hQ, fun t k => st.trans k⟩
/-- behind a call whose contract is 'Pu': nothing has moved -/
theorem own_pure {g : JFrame} {rest : List Value} {V : Value} {rc rs : Nat} (h1 : rc = 0) (h2 : rs = 0)
    (q : ∃ T' L v, Stand p l e R s m args below meth c T' (locs ++ L) (cells + rc) (slots + rs) ∧ Pu h (some V) v T'.heap L ∧ ∀ t, Steps p.tables e below (T'.setTop { g with pc := g.pc + 3, stack := v.toList ++ rest }) t → Steps p.tables e below (T.setTop g) t) :
    ∃ T', Stand p l e R s m args below meth c T' locs cells slots ∧ T'.heap = h ∧ ∀ t, Steps p.tables e below (T'.setTop { g with pc := g.pc + 3, stack := V :: rest }) t → Steps p.tables e below (T.setTop g) t := by
  subst h1 h2
  obtain ⟨T', L, v, X', ⟨rfl, rfl, e'⟩, st⟩ := q
  rw [List.append_nil] at X'
  exact ⟨T', X', e', st⟩
/-- the same for a call that returns nothing -/
theorem own_pureN {g : JFrame} {rest : List Value} {rc rs : Nat} (h1 : rc = 0) (h2 : rs = 0)
    (q : ∃ T' L v, Stand p l e R s m args below meth c T' (locs ++ L) (cells + rc) (slots + rs) ∧ Pu h none v T'.heap L ∧ ∀ t, Steps p.tables e below (T'.setTop { g with pc := g.pc + 3, stack := v.toList ++ rest }) t → Steps p.tables e below (T.setTop g) t) :
    ∃ T', Stand p l e R s m args below meth c T' locs cells slots ∧ T'.heap = h ∧ ∀ t, Steps p.tables e below (T'.setTop { g with pc := g.pc + 3, stack := rest }) t → Steps p.tables e below (T.setTop g) t := by
  subst h1 h2
  obtain ⟨T', L, v, X', ⟨rfl, rfl, e'⟩, st⟩ := q
  rw [List.append_nil] at X'
  exact ⟨T', X', e', st⟩
end Steps
/-- the same Stand at another state -/
def Same {p : Program} {l : Launch} {e : Env} {R : Room} {s : State} {m : MethodId} {args : Array Value} {below : List Frame} {meth : Method} {c : Code} {T : State} {locs : List Loc} {cells slots : Nat} (X : Stand p l e R s m args below meth c T locs cells slots) (T' : State) : Prop := Stand p l e R s m args below meth c T' locs cells slots
theorem Same.out {p : Program} {l : Launch} {e : Env} {R : Room} {s : State} {m : MethodId} {args : Array Value} {below : List Frame} {meth : Method} {c : Code} {T : State} {locs : List Loc} {cells slots : Nat} {X : Stand p l e R s m args below meth c T locs cells slots} {T' : State} (h : Same X T') : Stand p l e R s m args below meth c T' locs cells slots := h
theorem Same.mk {p : Program} {l : Launch} {e : Env} {R : Room} {s : State} {m : MethodId} {args : Array Value} {below : List Frame} {meth : Method} {c : Code} {T : State} {locs : List Loc} {cells slots : Nat} {X : Stand p l e R s m args below meth c T locs cells slots} {T' : State} (h : Stand p l e R s m args below meth c T' locs cells slots) : Same X T' := h
/-! heaps that keep the old cells -/
theorem own_ext0 (h : Heap) : Ext h h := ⟨Nat.le_refl _, fun _ _ q => q⟩
theorem own_extT {h1 h2 h3 : Heap} (a : Ext h1 h2) (b : Ext h2 h3) : Ext h1 h3 := ⟨Nat.le_trans a.1 b.1, fun x c q => b.2 x c (a.2 x c q)⟩
theorem own_extW {h0 h h' : Heap} {a : Addr} {sl : Nat} {v : Value} (x : Ext h0 h) (W : Wr h h' a sl v) (ha : h0.size ≤ a) : Ext h0 h' := by
  refine ⟨by rw [W.size]; exact x.1, fun b c q => ?_⟩
  obtain ⟨c', e1, -, -, -, e5, -⟩ := wr_at W (x.2 b c q)
  have hb : b < h0.size := (Array.getElem?_eq_some_iff.mp q).1
  rw [e1, e5 (fun z => absurd ha (by rw [← z]; exact Nat.not_le.mpr hb))]
/-- an array of references: just these values -/
def Al (Z : State) (h : Heap) (a : Addr) (k : ClassId) (C : String) (vs : List Value) : Prop := ∃ c : Cell, Arr Z h a c (.object C) ∧ c.cls = k ∧ c.slots = vs.toArray
theorem own_newA {Z : State} {h : Heap} {a : Addr} {k : ClassId} {C : String} {n : Int32} {vs : List Value} (A : Arr Z h a (newA k (.object C) n) (.object C)) (hv : List.replicate n.toNatClampNeg .null = vs) : Al Z h a k C vs := by
  subst hv
  exact ⟨_, A, rfl, by simp [newA, defaultValue]⟩
theorem Al.ext {Z : State} {h h' : Heap} {a : Addr} {k : ClassId} {C : String} {vs : List Value} (F : Al Z h a k C vs) (x : Ext h h') : Al Z h' a k C vs := by
  obtain ⟨c, A, q⟩ := F
  exact ⟨c, A.ext x, q⟩
theorem own_stA {p : Program} {l : Launch} {e : Env} {R : Room} {s : State} {m : MethodId} {args : Array Value} {below : List Frame} {meth : Method} {c : Code} {T : State} {locs : List Loc} {cells slots : Nat} {Z : State} {h : Heap} (X : Stand p l e R s m args below meth c T locs cells slots) (hx : p.tables.exec = Jvm.exec) (hZ : Z.Warmed39 s.vm) (eT : T.heap = h)
    {a : Addr} {k : ClassId} {C : String} {vs : List Value} (A : Al Z h a k C vs) (O : Ovr Z k C) {j : Int32} {v : Value} (hj : ¬ j < 0) (hl : j.toNatClampNeg < vs.length) (F : v = .null ∨ ∃ y, v = .ref y ∧ Exa Z h y C) {vs' : List Value} (hv : vs.set j.toNatClampNeg v = vs')
    {g : JFrame} (hg : g.method = m) {rest : List Value} (hs : g.stack = v :: .int j :: .ref a :: rest) (hd : decode c.code g.pc = .ok (.aastore, 1)) :
    ∃ T' h', Stand p l e R s m args below meth c T' (locs ++ [⟨a, j.toNatClampNeg⟩]) cells slots ∧ T'.heap = h' ∧ Wr h h' a j.toNatClampNeg v ∧ Al Z h' a k C vs' ∧ ∀ target, Steps p.tables e below (T'.setTop { g with pc := g.pc + 1, stack := rest }) target → Steps p.tables e below (T.setTop g) target := by
  obtain ⟨cl, A1, q1, q2⟩ := A
  subst hv
  have S : Sto Z h a v := by
    rcases F with rfl | ⟨y, rfl, E⟩
    · exact Or.inl rfl
    · exact Sto.ofV A1 q1 O (Ins.self E)
  obtain ⟨T', h', X', e', W, st⟩ := stR X hx hZ eT A1 (j := j) (fun q => q.elim hj (fun z => by rw [q2] at z; simp at z; omega)) rfl S hg hs hd
  exact ⟨T', h', X', e', W, ⟨_, Arr.same W A1, q1, by simp [Cell.setSlot, q2]⟩, st⟩
/-! from a case's words to facts of the heap -/
section Words
variable {Z : State} {args : Array Value}
theorem own_fld {t : Term} {C n d : String} {a : Addr} {k : Int32} (ev : t.eval args Z none [] Z = some (.ref a)) (h : (Jvm.Cond.eq (.field t C n d) (.int k)).value args Z none Z [] = some true) : Fld Z Z.heap a C n d (.int k) := by
  obtain ⟨x, y, h1, h2, -, h4⟩ := cmp_v (Or.inl h)
  cases h2
  obtain ⟨z, rfl⟩ := h4
  have h3 := h1
  rw [fld_at ev] at h3
  have e2 : (Term.int k).eval args Z none [] Z = some (.int k) := rfl
  have : z = k := by simpa [Jvm.Cond.value, h1, e2] using h
  subst this
  exact Fld.start h3
theorem own_ne {Z : State} {h : Heap} {a b : Addr} {C n d : String} {v w : Value} (F : Fld Z h a C n d v) (G : Fld Z h b C n d w) (hn : v ≠ w) : a ≠ b := fun q => by
  subst q
  obtain ⟨c1, _, _, _, f1, h1, h2, -, -, -, -, h7⟩ := F
  obtain ⟨c2, _, _, _, f2, g1, g2, -, -, -, -, g7⟩ := G
  cases h1.symm.trans g1
  cases h2.symm.trans g2
  exact hn (Option.some.inj (h7.symm.trans g7))
end Words
end Own
theorem own_len {Z : State} {args : Array Value} {t : Term} {a : Addr} {cl : Cell} {ty : FieldType} {k : Int32} {n : Nat} (ev : t.eval args Z none [] Z = some (.ref a)) (A : Arr Z Z.heap a cl ty) (h : (Jvm.Cond.eq (.length t) (.int k)).value args Z none Z [] = some true) (hk : k = Int32.ofNat n ∧ n < 2 ^ 31) : cl.slots.size = n := by
  obtain ⟨rfl, hn⟩ := hk
  have ha := Arr.fin (U := Z) (Vm.Alike.refl _) A
  obtain ⟨x, y, h1, h2, -, -⟩ := cmp_v (Or.inl h)
  by_cases hl : cl.slots.size < 2 ^ 31
  · have e1 := len_f ev ha hl
    have e2 : (Term.int (Int32.ofNat n)).eval args Z none [] Z = some (.int (Int32.ofNat n)) := rfl
    have q : cl.slots.size.toInt32 = Int32.ofNat n := by simpa [Jvm.Cond.value, e1, e2] using h
    have q2 := congrArg Int32.toInt q
    have q3 := len_toInt hl
    have q4 : (Int32.ofNat n).toInt = n := Int32.toInt_ofNat_small hn
    omega
  · exfalso
    have : (Term.length t).eval args Z none [] Z = none := by simp [Term.eval, ev, ha, hl]
    rw [this] at h1; cases h1
theorem own_elem {Z : State} {args : Array Value} {t u : Term} {a b : Addr} {cl : Cell} {ty : FieldType} {k : Int32} {n : Nat} (ev : t.eval args Z none [] Z = some (.ref a)) (A : Arr Z Z.heap a cl ty) (ev2 : u.eval args Z none [] Z = some (.ref b)) (h : (Jvm.Cond.eq (.elem t (.int k)) u).value args Z none Z [] = some true) (hk : ¬ k < 0) (hn : k.toNatClampNeg = n) : cl.slots[n]? = some (.ref b) := by
  subst hn
  have ha := Arr.fin (U := Z) (Vm.Alike.refl _) A
  obtain ⟨x, y, h1, h2, h3, -⟩ := cmp_v (Or.inl h)
  have e1 := elem_f ev (rfl : (Term.int k).eval args Z none [] Z = some (.int k)) ha hk
  rw [ev2] at h2
  cases h2
  rw [h1] at e1
  rw [← e1]
  cases x <;> simp [Kin, Value.isRef] at h3
  · simp [Jvm.Cond.value, h1, ev2] at h
  · simpa [Jvm.Cond.value, h1, ev2] using h
def Wd (Z : State) (h : Heap) (w : Nat → Addr) : Prop := Sta Z h "com/example/upright_meter/uprightmeter/Kind" "REGULAR_FILE" "Lcom/example/upright_meter/uprightmeter/Kind;" (.ref (w 0)) ∧ Sta Z h "com/example/upright_meter/uprightmeter/Kind" "DIRECTORY" "Lcom/example/upright_meter/uprightmeter/Kind;" (.ref (w 1)) ∧ Sta Z h "com/example/upright_meter/uprightmeter/Kind" "SYMLINK" "Lcom/example/upright_meter/uprightmeter/Kind;" (.ref (w 2)) ∧ Sta Z h "com/example/upright_meter/uprightmeter/Kind" "FIFO" "Lcom/example/upright_meter/uprightmeter/Kind;" (.ref (w 3)) ∧ Sta Z h "com/example/upright_meter/uprightmeter/Kind" "SOCKET" "Lcom/example/upright_meter/uprightmeter/Kind;" (.ref (w 4)) ∧ Sta Z h "com/example/upright_meter/uprightmeter/Kind" "CHARACTER_DEVICE" "Lcom/example/upright_meter/uprightmeter/Kind;" (.ref (w 5)) ∧ Sta Z h "com/example/upright_meter/uprightmeter/Kind" "BLOCK_DEVICE" "Lcom/example/upright_meter/uprightmeter/Kind;" (.ref (w 6)) ∧ Sta Z h "com/example/upright_meter/uprightmeter/Kind" "UNKNOWN" "Lcom/example/upright_meter/uprightmeter/Kind;" (.ref (w 7)) ∧ (∀ i, i < 8 → Exa Z h (w i) "com/example/upright_meter/uprightmeter/Kind") ∧ (∀ i, i < 8 → Fld Z h (w i) "java/lang/Enum" "ordinal" "I" (.int (Int32.ofNat i))) ∧ Fld Z h (w 0) "com/example/upright_meter/uprightmeter/Kind" "type" "I" (.int (32768 : Int32)) ∧ Fld Z h (w 1) "com/example/upright_meter/uprightmeter/Kind" "type" "I" (.int (16384 : Int32)) ∧ Fld Z h (w 2) "com/example/upright_meter/uprightmeter/Kind" "type" "I" (.int (40960 : Int32)) ∧ Fld Z h (w 3) "com/example/upright_meter/uprightmeter/Kind" "type" "I" (.int (4096 : Int32)) ∧ Fld Z h (w 4) "com/example/upright_meter/uprightmeter/Kind" "type" "I" (.int (49152 : Int32)) ∧ Fld Z h (w 5) "com/example/upright_meter/uprightmeter/Kind" "type" "I" (.int (8192 : Int32)) ∧ Fld Z h (w 6) "com/example/upright_meter/uprightmeter/Kind" "type" "I" (.int (24576 : Int32)) ∧ Fld Z h (w 7) "com/example/upright_meter/uprightmeter/Kind" "type" "I" (.int (-1 : Int32)) ∧ (∃ aa cl, Sta Z h "com/example/upright_meter/uprightmeter/Kind" "ALL" "[Lcom/example/upright_meter/uprightmeter/Kind;" (.ref aa) ∧ Arr Z h aa cl (.object "com/example/upright_meter/uprightmeter/Kind") ∧ cl.slots.size = 8 ∧ cl.slots[0]? = some (.ref (w 0)) ∧ cl.slots[1]? = some (.ref (w 1)) ∧ cl.slots[2]? = some (.ref (w 2)) ∧ cl.slots[3]? = some (.ref (w 3)) ∧ cl.slots[4]? = some (.ref (w 4)) ∧ cl.slots[5]? = some (.ref (w 5)) ∧ cl.slots[6]? = some (.ref (w 6)) ∧ cl.slots[7]? = some (.ref (w 7)))
theorem own_inj {Z : State} {h : Heap} {w : Nat → Addr} (F : ∀ i, i < 8 → Fld Z h (w i) "java/lang/Enum" "ordinal" "I" (.int (Int32.ofNat i))) {i j : Nat} (hi : i < 8) (hj : j < 8) (hn : Int32.ofNat i ≠ Int32.ofNat j) : ¬ w i = w j := own_ne (F i hi) (F j hj) (fun q => hn (Value.int.inj q))
def ofN (t : Int32) : Nat := if (32768 : Int32) = t then 0 else if (16384 : Int32) = t then 1 else if (40960 : Int32) = t then 2 else if (4096 : Int32) = t then 3 else if (49152 : Int32) = t then 4 else if (8192 : Int32) = t then 5 else if (24576 : Int32) = t then 6 else 7
theorem ofN_lt (t : Int32) : ofN t < 8 := by
  unfold ofN
  repeat' split
  all_goals decide
def spc (w : Nat → Addr) (a : Addr) : Int32 := if a = w 0 then 0 else if a = w 1 then 0 else if a = w 2 then 0 else 1
theorem ofN_no {t : Int32} (h0 : ¬ t = 32768) (h1 : ¬ t = 16384) (h2 : ¬ t = 40960) : 3 ≤ ofN t ∧ ofN t < 8 := by
  rw [ofN, if_neg (Ne.symm h0), if_neg (Ne.symm h1), if_neg (Ne.symm h2)]
  repeat' split
  all_goals decide
theorem spc_no {w : Nat → Addr} (hI : ∀ i j, i < 8 → j < 8 → i ≠ j → ¬ w i = w j) {n : Nat} (h : 3 ≤ n ∧ n < 8) : spc w (w n) = 1 := by
  rw [spc, if_neg (hI n 0 h.2 (by decide) (by omega)), if_neg (hI n 1 h.2 (by decide) (by omega)), if_neg (hI n 2 h.2 (by decide) (by omega))]
theorem own_ofNat {i j : Nat} (hi : i < 8) (hj : j < 8) (hn : i ≠ j) : Int32.ofNat i ≠ Int32.ofNat j := fun q => hn (by
  have h := congrArg Int32.toInt q
  rw [Int32.toInt_ofNat_small (by omega), Int32.toInt_ofNat_small (by omega)] at h
  omega)
theorem dc1_0 : decode prog_27_method_6_code 0 = .ok (.aload_n 0, 1) := by decide +kernel
theorem dc1_1 : decode prog_27_method_6_code 1 = .ok (.getstatic 3, 3) := by decide +kernel
theorem dc1_4 : decode prog_27_method_6_code 4 = .ok (.if_acmp .eq 21, 3) := by decide +kernel
theorem dc1_7 : decode prog_27_method_6_code 7 = .ok (.aload_n 0, 1) := by decide +kernel
theorem dc1_8 : decode prog_27_method_6_code 8 = .ok (.getstatic 7, 3) := by decide +kernel
theorem dc1_11 : decode prog_27_method_6_code 11 = .ok (.if_acmp .eq 14, 3) := by decide +kernel
theorem dc1_14 : decode prog_27_method_6_code 14 = .ok (.aload_n 0, 1) := by decide +kernel
theorem dc1_15 : decode prog_27_method_6_code 15 = .ok (.getstatic 10, 3) := by decide +kernel
theorem dc1_18 : decode prog_27_method_6_code 18 = .ok (.if_acmp .eq 7, 3) := by decide +kernel
theorem dc1_21 : decode prog_27_method_6_code 21 = .ok (.iconst 1, 1) := by decide +kernel
theorem dc1_22 : decode prog_27_method_6_code 22 = .ok (.goto 4, 3) := by decide +kernel
theorem dc1_25 : decode prog_27_method_6_code 25 = .ok (.iconst 0, 1) := by decide +kernel
theorem dc1_26 : decode prog_27_method_6_code 26 = .ok (.ireturn, 1) := by decide +kernel
theorem pn_c1 : plainFor (⟨"com/example/upright_meter/uprightmeter/Kind", "isSpecial", "()Z"⟩ : MethodName) = true := by first | (refine plainFor_of_name ?_; simp [plainName, overriddenIn]; done) | (refine plainFor_of_name ?_; decide +kernel) | decide +kernel
theorem ef_c1 (m : MethodId) (a : Addr) : entryFrame m #[(.ref a)] 1 = mkF m 0 #[.val (.ref a)] [] := by first | (simp [entryFrame, mkF, argsToLocals, Value.category]; done) | rfl
set_option maxRecDepth 65536 in
set_option maxHeartbeats 40000000 in
theorem c1 (l : Launch) (Z : State) (a0 : Array Value) (hw : ∀ d ∈ tables_1, d.before a0 Z = true) (w : Nat → Addr) (h0 : Heap) (D : Wd Z h0 w) (a : Addr) (r : Int32) (hr : spc w a = r) :
    Ct l Z (⟨"com/example/upright_meter/uprightmeter/Kind", "isSpecial", "()Z"⟩ : MethodName) prog_27_method_6_code 1 (some .boolean) [] ({ frames := 0, cells := 0, slots := 0, locals := 0 } : Room) #[(.ref a)] h0 (Pu h0 (some (.int r))) := by
  refine own_met pn_c1 ?_
  intro p e s m below meth c s₁ X0 hx hby hml hret hown hnm hlk hZ e0
  subst hr
  obtain ⟨S0, S1, S2, S3, S4, S5, S6, S7, Ex, Fo, G0_0, G0_1, G0_2, G0_3, G0_4, G0_5, G0_6, G0_7, ⟨aa, cl, Sall, Aall, Nall, El0, El1, El2, El3, El4, El5, El6, El7⟩⟩ := D
  refine Go.cast (ef_c1 m a) ?_
  show Go p e below _ s₁ (mkF m 0 #[.val (.ref a)] [])
  refine Go.of (fun _ k => XS.aloadN X0.here hx rfl (hb hby dc1_0) rfl rfl k) ?_
  show Go p e below _ s₁ (mkF m 1 #[.val (.ref a)] [(.ref a)])
  obtain ⟨T1, X1, e1, st1⟩ := getS2 X0 hx hZ hown (host := "") (Or.inl (hw _ (List.mem_of_getElem? (i := 26) rfl))) Via.refl e0 S0 (g := (mkF m 1 #[.val (.ref a)] [(.ref a)])) rfl (hb hby dc1_1)
  refine Go.of st1 ?_
  show Go p e below _ T1 (mkF m 4 #[.val (.ref a)] [(.ref (w 0)), (.ref a)])
  by_cases hc4_2 : a = (w 0)
  ·
    refine Go.of (fun _ k => XT.acmpYes X1.here hx rfl (pc0 := 4) (pc' := 25) rfl (hb hby dc1_4) rfl rfl rfl (XT.aa_eq_t (congrArg Value.ref hc4_2)) (by decide) (by decide) k) ?_
    show Go p e below _ T1 (mkF m 25 #[.val (.ref a)] [])
    refine Go.of (fun _ k => XS.iconst X1.here hx rfl (hb hby dc1_25) k) ?_
    show Go p e below _ T1 (mkF m 26 #[.val (.ref a)] [(.int (0 : Int32))])
    exact own_retZ (z' := (0 : Int32)) X1 hx hlk hret (hb hby dc1_26) rfl ⟨by rw [spc, if_pos hc4_2], rfl, e1⟩ (by decide) (by decide)
  ·
    refine Go.of (fun _ k => XT.acmpNo X1.here hx rfl (hb hby dc1_4) rfl rfl rfl (XT.aa_eq_f (fun q => hc4_2 (Value.ref.inj q))) k) ?_
    show Go p e below _ T1 (mkF m 7 #[.val (.ref a)] [])
    refine Go.of (fun _ k => XS.aloadN X1.here hx rfl (hb hby dc1_7) rfl rfl k) ?_
    show Go p e below _ T1 (mkF m 8 #[.val (.ref a)] [(.ref a)])
    obtain ⟨T3, X3, e3, st3⟩ := getS2 X1 hx hZ hown (host := "") (Or.inl (hw _ (List.mem_of_getElem? (i := 27) rfl))) Via.refl e1 S1 (g := (mkF m 8 #[.val (.ref a)] [(.ref a)])) rfl (hb hby dc1_8)
    refine Go.of st3 ?_
    show Go p e below _ T3 (mkF m 11 #[.val (.ref a)] [(.ref (w 1)), (.ref a)])
    by_cases hc11_4 : a = (w 1)
    ·
      refine Go.of (fun _ k => XT.acmpYes X3.here hx rfl (pc0 := 11) (pc' := 25) rfl (hb hby dc1_11) rfl rfl rfl (XT.aa_eq_t (congrArg Value.ref hc11_4)) (by decide) (by decide) k) ?_
      show Go p e below _ T3 (mkF m 25 #[.val (.ref a)] [])
      refine Go.of (fun _ k => XS.iconst X3.here hx rfl (hb hby dc1_25) k) ?_
      show Go p e below _ T3 (mkF m 26 #[.val (.ref a)] [(.int (0 : Int32))])
      exact own_retZ (z' := (0 : Int32)) X3 hx hlk hret (hb hby dc1_26) rfl ⟨by rw [spc, if_neg hc4_2, if_pos hc11_4], rfl, e3⟩ (by decide) (by decide)
    ·
      refine Go.of (fun _ k => XT.acmpNo X3.here hx rfl (hb hby dc1_11) rfl rfl rfl (XT.aa_eq_f (fun q => hc11_4 (Value.ref.inj q))) k) ?_
      show Go p e below _ T3 (mkF m 14 #[.val (.ref a)] [])
      refine Go.of (fun _ k => XS.aloadN X3.here hx rfl (hb hby dc1_14) rfl rfl k) ?_
      show Go p e below _ T3 (mkF m 15 #[.val (.ref a)] [(.ref a)])
      obtain ⟨T5, X5, e5, st5⟩ := getS2 X3 hx hZ hown (host := "") (Or.inl (hw _ (List.mem_of_getElem? (i := 28) rfl))) Via.refl e3 S2 (g := (mkF m 15 #[.val (.ref a)] [(.ref a)])) rfl (hb hby dc1_15)
      refine Go.of st5 ?_
      show Go p e below _ T5 (mkF m 18 #[.val (.ref a)] [(.ref (w 2)), (.ref a)])
      by_cases hc18_6 : a = (w 2)
      ·
        refine Go.of (fun _ k => XT.acmpYes X5.here hx rfl (pc0 := 18) (pc' := 25) rfl (hb hby dc1_18) rfl rfl rfl (XT.aa_eq_t (congrArg Value.ref hc18_6)) (by decide) (by decide) k) ?_
        show Go p e below _ T5 (mkF m 25 #[.val (.ref a)] [])
        refine Go.of (fun _ k => XS.iconst X5.here hx rfl (hb hby dc1_25) k) ?_
        show Go p e below _ T5 (mkF m 26 #[.val (.ref a)] [(.int (0 : Int32))])
        exact own_retZ (z' := (0 : Int32)) X5 hx hlk hret (hb hby dc1_26) rfl ⟨by rw [spc, if_neg hc4_2, if_neg hc11_4, if_pos hc18_6], rfl, e5⟩ (by decide) (by decide)
      ·
        refine Go.of (fun _ k => XT.acmpNo X5.here hx rfl (hb hby dc1_18) rfl rfl rfl (XT.aa_eq_f (fun q => hc18_6 (Value.ref.inj q))) k) ?_
        show Go p e below _ T5 (mkF m 21 #[.val (.ref a)] [])
        refine Go.of (fun _ k => XS.iconst X5.here hx rfl (hb hby dc1_21) k) ?_
        show Go p e below _ T5 (mkF m 22 #[.val (.ref a)] [(.int (1 : Int32))])
        refine Go.of (fun _ k => XS.goto X5.here hx rfl (pc0 := 22) (pc' := 26) rfl (hb hby dc1_22) (by decide) (by decide) k) ?_
        show Go p e below _ T5 (mkF m 26 #[.val (.ref a)] [(.int (1 : Int32))])
        exact own_retZ (z' := (1 : Int32)) X5 hx hlk hret (hb hby dc1_26) rfl ⟨by rw [spc, if_neg hc4_2, if_neg hc11_4, if_neg hc18_6], rfl, e5⟩ (by decide) (by decide)
theorem dc2_0 : decode prog_27_method_4_code 0 = .ok (.iload_n 0, 1) := by decide +kernel
theorem dc2_1 : decode prog_27_method_4_code 1 = .ok (.ldc 55, 2) := by decide +kernel
theorem dc2_3 : decode prog_27_method_4_code 3 = .ok (.iand, 1) := by decide +kernel
theorem dc2_4 : decode prog_27_method_4_code 4 = .ok (.istore_n 1, 1) := by decide +kernel
theorem dc2_5 : decode prog_27_method_4_code 5 = .ok (.getstatic 56, 3) := by decide +kernel
theorem dc2_8 : decode prog_27_method_4_code 8 = .ok (.astore_n 2, 1) := by decide +kernel
theorem dc2_9 : decode prog_27_method_4_code 9 = .ok (.aload_n 2, 1) := by decide +kernel
theorem dc2_10 : decode prog_27_method_4_code 10 = .ok (.arraylength, 1) := by decide +kernel
theorem dc2_11 : decode prog_27_method_4_code 11 = .ok (.istore_n 3, 1) := by decide +kernel
theorem dc2_12 : decode prog_27_method_4_code 12 = .ok (.iconst 0, 1) := by decide +kernel
theorem dc2_13 : decode prog_27_method_4_code 13 = .ok (.istore 4, 2) := by decide +kernel
theorem dc2_15 : decode prog_27_method_4_code 15 = .ok (.iload 4, 2) := by decide +kernel
theorem dc2_17 : decode prog_27_method_4_code 17 = .ok (.iload_n 3, 1) := by decide +kernel
theorem dc2_18 : decode prog_27_method_4_code 18 = .ok (.if_icmp .ge 27, 3) := by decide +kernel
theorem dc2_21 : decode prog_27_method_4_code 21 = .ok (.aload_n 2, 1) := by decide +kernel
theorem dc2_22 : decode prog_27_method_4_code 22 = .ok (.iload 4, 2) := by decide +kernel
theorem dc2_24 : decode prog_27_method_4_code 24 = .ok (.aaload, 1) := by decide +kernel
theorem dc2_25 : decode prog_27_method_4_code 25 = .ok (.astore 5, 2) := by decide +kernel
theorem dc2_27 : decode prog_27_method_4_code 27 = .ok (.aload 5, 2) := by decide +kernel
theorem dc2_29 : decode prog_27_method_4_code 29 = .ok (.getfield 47, 3) := by decide +kernel
theorem dc2_32 : decode prog_27_method_4_code 32 = .ok (.iload_n 1, 1) := by decide +kernel
theorem dc2_33 : decode prog_27_method_4_code 33 = .ok (.if_icmp .ne 6, 3) := by decide +kernel
theorem dc2_36 : decode prog_27_method_4_code 36 = .ok (.aload 5, 2) := by decide +kernel
theorem dc2_38 : decode prog_27_method_4_code 38 = .ok (.areturn, 1) := by decide +kernel
theorem dc2_39 : decode prog_27_method_4_code 39 = .ok (.iinc 4 1, 3) := by decide +kernel
theorem dc2_42 : decode prog_27_method_4_code 42 = .ok (.goto (-27), 3) := by decide +kernel
theorem dc2_45 : decode prog_27_method_4_code 45 = .ok (.getstatic 25, 3) := by decide +kernel
theorem dc2_48 : decode prog_27_method_4_code 48 = .ok (.areturn, 1) := by decide +kernel
theorem pn_c2 : plainFor (⟨"com/example/upright_meter/uprightmeter/Kind", "ofMode", "(I)Lcom/example/upright_meter/uprightmeter/Kind;"⟩ : MethodName) = true := by first | (refine plainFor_of_name ?_; simp [plainName, overriddenIn]; done) | (refine plainFor_of_name ?_; decide +kernel) | decide +kernel
theorem ef_c2 (m : MethodId) (mode : Int32) : entryFrame m #[(.int mode)] 6 = mkF m 0 #[.val (.int mode), .unset, .unset, .unset, .unset, .unset] [] := by first | (simp [entryFrame, mkF, argsToLocals, Value.category]; done) | rfl
set_option maxRecDepth 65536 in
set_option maxHeartbeats 40000000 in
theorem c2 (l : Launch) (Z : State) (a0 : Array Value) (hw : ∀ d ∈ tables_1, d.before a0 Z = true) (w : Nat → Addr) (h0 : Heap) (D : Wd Z h0 w) (mode : Int32) (r : Nat) (hr : ofN (mode &&& (61440 : Int32)) = r) :
    Ct l Z (⟨"com/example/upright_meter/uprightmeter/Kind", "ofMode", "(I)Lcom/example/upright_meter/uprightmeter/Kind;"⟩ : MethodName) prog_27_method_4_code 6 (some (.object "com/example/upright_meter/uprightmeter/Kind")) [] ({ frames := 0, cells := 0, slots := 0, locals := 0 } : Room) #[(.int mode)] h0 (Pu h0 (some (.ref (w r)))) := by
  refine own_met pn_c2 ?_
  intro p e s m below meth c s₁ X0 hx hby hml hret hown hnm hlk hZ e0
  obtain ⟨S0, S1, S2, S3, S4, S5, S6, S7, Ex, Fo, G0_0, G0_1, G0_2, G0_3, G0_4, G0_5, G0_6, G0_7, ⟨aa, cl, Sall, Aall, Nall, El0, El1, El2, El3, El4, El5, El6, El7⟩⟩ := D
  refine Go.cast (ef_c2 m mode) ?_
  show Go p e below _ s₁ (mkF m 0 #[.val (.int mode), .unset, .unset, .unset, .unset, .unset] [])
  refine Go.of (fun _ k => XS.iloadN X0.here hx rfl (hb hby dc2_0) rfl k) ?_
  show Go p e below _ s₁ (mkF m 1 #[.val (.int mode), .unset, .unset, .unset, .unset, .unset] [(.int mode)])
  refine Go.of (fun _ k => X0.ldcI hx hown (mvT hZ (hw _ (List.mem_of_getElem? (i := 4) rfl))) rfl (hb hby dc2_1) k) ?_
  show Go p e below _ s₁ (mkF m 3 #[.val (.int mode), .unset, .unset, .unset, .unset, .unset] [(.int (61440 : Int32)), (.int mode)])
  refine Go.of (fun _ k => XS.iand X0.here hx rfl (hb hby dc2_3) rfl k) ?_
  show Go p e below _ s₁ (mkF m 4 #[.val (.int mode), .unset, .unset, .unset, .unset, .unset] [(.int (mode &&& (61440 : Int32)))])
  generalize htm : (mode &&& (61440 : Int32)) = tm
  show Go p e below _ s₁ (mkF m 4 #[.val (.int mode), .unset, .unset, .unset, .unset, .unset] [(.int tm)])
  refine Go.of (fun _ k => XS.istoreN X0.here hx rfl (hb hby dc2_4) rfl (l' := #[.val (.int mode), .val (.int tm), .unset, .unset, .unset, .unset]) rfl k) ?_
  show Go p e below _ s₁ (mkF m 5 #[.val (.int mode), .val (.int tm), .unset, .unset, .unset, .unset] [])
  obtain ⟨T1, X1, e1, st1⟩ := getS2 X0 hx hZ hown (host := "") (Or.inl (hw _ (List.mem_of_getElem? (i := 5) rfl))) Via.refl e0 Sall (g := (mkF m 5 #[.val (.int mode), .val (.int tm), .unset, .unset, .unset, .unset] [])) rfl (hb hby dc2_5)
  refine Go.of st1 ?_
  show Go p e below _ T1 (mkF m 8 #[.val (.int mode), .val (.int tm), .unset, .unset, .unset, .unset] [(.ref aa)])
  refine Go.of (fun _ k => XS.astoreN X1.here hx rfl (hb hby dc2_8) rfl rfl (l' := #[.val (.int mode), .val (.int tm), .val (.ref aa), .unset, .unset, .unset]) rfl k) ?_
  show Go p e below _ T1 (mkF m 9 #[.val (.int mode), .val (.int tm), .val (.ref aa), .unset, .unset, .unset] [])
  refine Go.of (fun _ k => XS.aloadN X1.here hx rfl (hb hby dc2_9) rfl rfl k) ?_
  show Go p e below _ T1 (mkF m 10 #[.val (.int mode), .val (.int tm), .val (.ref aa), .unset, .unset, .unset] [(.ref aa)])
  refine Go.of (X1.arraylength hx (by rw [e1]; exact Aall.1) (State.isArrayOf_alike hZ.alike Aall.2.1) (g := (mkF m 10 #[.val (.int mode), .val (.int tm), .val (.ref aa), .unset, .unset, .unset] [(.ref aa)])) rfl rfl (hb hby dc2_10)) ?_
  rw [Nall]
  show Go p e below _ T1 (mkF m 11 #[.val (.int mode), .val (.int tm), .val (.ref aa), .unset, .unset, .unset] [(.int (8 : Int32))])
  refine Go.of (fun _ k => XS.istoreN X1.here hx rfl (hb hby dc2_11) rfl (l' := #[.val (.int mode), .val (.int tm), .val (.ref aa), .val (.int (8 : Int32)), .unset, .unset]) rfl k) ?_
  show Go p e below _ T1 (mkF m 12 #[.val (.int mode), .val (.int tm), .val (.ref aa), .val (.int (8 : Int32)), .unset, .unset] [])
  refine Go.of (fun _ k => XS.iconst X1.here hx rfl (hb hby dc2_12) k) ?_
  show Go p e below _ T1 (mkF m 13 #[.val (.int mode), .val (.int tm), .val (.ref aa), .val (.int (8 : Int32)), .unset, .unset] [(.int (0 : Int32))])
  refine Go.of (fun _ k => XS.istore X1.here hx rfl (hb hby dc2_13) rfl (l' := #[.val (.int mode), .val (.int tm), .val (.ref aa), .val (.int (8 : Int32)), .val (.int (0 : Int32)), .unset]) rfl k) ?_
  show Go p e below _ T1 (mkF m 15 #[.val (.int mode), .val (.int tm), .val (.ref aa), .val (.int (8 : Int32)), .val (.int (0 : Int32)), .unset] [])
  refine Go.of (fun _ k => XS.iload X1.here hx rfl (hb hby dc2_15) rfl k) ?_
  show Go p e below _ T1 (mkF m 17 #[.val (.int mode), .val (.int tm), .val (.ref aa), .val (.int (8 : Int32)), .val (.int (0 : Int32)), .unset] [(.int (0 : Int32))])
  refine Go.of (fun _ k => XS.iloadN X1.here hx rfl (hb hby dc2_17) rfl k) ?_
  show Go p e below _ T1 (mkF m 18 #[.val (.int mode), .val (.int tm), .val (.ref aa), .val (.int (8 : Int32)), .val (.int (0 : Int32)), .unset] [(.int (8 : Int32)), (.int (0 : Int32))])
  refine Go.of (fun _ k => XS.icmpNo X1.here hx rfl (hb hby dc2_18) rfl (XT.ii_ge_f (by decide)) k) ?_
  show Go p e below _ T1 (mkF m 21 #[.val (.int mode), .val (.int tm), .val (.ref aa), .val (.int (8 : Int32)), .val (.int (0 : Int32)), .unset] [])
  refine Go.of (fun _ k => XS.aloadN X1.here hx rfl (hb hby dc2_21) rfl rfl k) ?_
  show Go p e below _ T1 (mkF m 22 #[.val (.int mode), .val (.int tm), .val (.ref aa), .val (.int (8 : Int32)), .val (.int (0 : Int32)), .unset] [(.ref aa)])
  refine Go.of (fun _ k => XS.iload X1.here hx rfl (hb hby dc2_22) rfl k) ?_
  show Go p e below _ T1 (mkF m 24 #[.val (.int mode), .val (.int tm), .val (.ref aa), .val (.int (8 : Int32)), .val (.int (0 : Int32)), .unset] [(.int (0 : Int32)), (.ref aa)])
  refine Go.of (X1.aaload hx (j := (0 : Int32)) (v := (.ref (w 0))) (by rw [e1]; exact Aall.1) (State.isArrayOf_alike hZ.alike Aall.2.1) rfl Aall.2.2 (by rw [Nall]; decide) (show cl.slots[((0 : Int32)).toNatClampNeg]? = some (.ref (w 0)) from El0) (g := (mkF m 24 #[.val (.int mode), .val (.int tm), .val (.ref aa), .val (.int (8 : Int32)), .val (.int (0 : Int32)), .unset] [(.int (0 : Int32)), (.ref aa)])) rfl rfl (hb hby dc2_24)) ?_
  show Go p e below _ T1 (mkF m 25 #[.val (.int mode), .val (.int tm), .val (.ref aa), .val (.int (8 : Int32)), .val (.int (0 : Int32)), .unset] [(.ref (w 0))])
  refine Go.of (fun _ k => XS.astore X1.here hx rfl (hb hby dc2_25) rfl rfl (l' := #[.val (.int mode), .val (.int tm), .val (.ref aa), .val (.int (8 : Int32)), .val (.int (0 : Int32)), .val (.ref (w 0))]) rfl k) ?_
  show Go p e below _ T1 (mkF m 27 #[.val (.int mode), .val (.int tm), .val (.ref aa), .val (.int (8 : Int32)), .val (.int (0 : Int32)), .val (.ref (w 0))] [])
  refine Go.of (fun _ k => XS.aload X1.here hx rfl (hb hby dc2_27) rfl rfl k) ?_
  show Go p e below _ T1 (mkF m 29 #[.val (.int mode), .val (.int tm), .val (.ref aa), .val (.int (8 : Int32)), .val (.int (0 : Int32)), .val (.ref (w 0))] [(.ref (w 0))])
  obtain ⟨T2, X2, e2, st2⟩ := getF X1 hx hZ hown (host := "") (Or.inl (hw _ (List.mem_of_getElem? (i := 8) rfl))) Via.refl e1 G0_0 (g := (mkF m 29 #[.val (.int mode), .val (.int tm), .val (.ref aa), .val (.int (8 : Int32)), .val (.int (0 : Int32)), .val (.ref (w 0))] [(.ref (w 0))])) rfl rfl (hb hby dc2_29)
  refine Go.of st2 ?_
  show Go p e below _ T2 (mkF m 32 #[.val (.int mode), .val (.int tm), .val (.ref aa), .val (.int (8 : Int32)), .val (.int (0 : Int32)), .val (.ref (w 0))] [(.int (32768 : Int32))])
  refine Go.of (fun _ k => XS.iloadN X2.here hx rfl (hb hby dc2_32) rfl k) ?_
  show Go p e below _ T2 (mkF m 33 #[.val (.int mode), .val (.int tm), .val (.ref aa), .val (.int (8 : Int32)), .val (.int (0 : Int32)), .val (.ref (w 0))] [(.int tm), (.int (32768 : Int32))])
  by_cases hc33_3 : (32768 : Int32) = tm
  ·
    refine Go.of (fun _ k => XS.icmpNo X2.here hx rfl (hb hby dc2_33) rfl (XT.ii_ne_f hc33_3) k) ?_
    show Go p e below _ T2 (mkF m 36 #[.val (.int mode), .val (.int tm), .val (.ref aa), .val (.int (8 : Int32)), .val (.int (0 : Int32)), .val (.ref (w 0))] [])
    refine Go.of (fun _ k => XS.aload X2.here hx rfl (hb hby dc2_36) rfl rfl k) ?_
    show Go p e below _ T2 (mkF m 38 #[.val (.int mode), .val (.int tm), .val (.ref aa), .val (.int (8 : Int32)), .val (.int (0 : Int32)), .val (.ref (w 0))] [(.ref (w 0))])
    exact own_retA X2 hx hlk hret rfl rfl (hb hby dc2_38) ⟨by rw [htm] at hr; rw [← hr, ofN, if_pos hc33_3], rfl, e2⟩ (by decide) (by decide)
  ·
    refine Go.of (fun _ k => XS.icmpYes X2.here hx rfl (pc0 := 33) (pc' := 39) rfl (hb hby dc2_33) rfl (XT.ii_ne_t hc33_3) (by decide) (by decide) k) ?_
    show Go p e below _ T2 (mkF m 39 #[.val (.int mode), .val (.int tm), .val (.ref aa), .val (.int (8 : Int32)), .val (.int (0 : Int32)), .val (.ref (w 0))] [])
    refine Go.of (fun _ k => XS.iinc X2.here hx rfl (hb hby dc2_39) rfl (l' := #[.val (.int mode), .val (.int tm), .val (.ref aa), .val (.int (8 : Int32)), .val (.int (1 : Int32)), .val (.ref (w 0))]) rfl k) ?_
    show Go p e below _ T2 (mkF m 42 #[.val (.int mode), .val (.int tm), .val (.ref aa), .val (.int (8 : Int32)), .val (.int (1 : Int32)), .val (.ref (w 0))] [])
    refine Go.of (fun _ k => XS.goto X2.here hx rfl (pc0 := 42) (pc' := 15) rfl (hb hby dc2_42) (by decide) (by decide) k) ?_
    show Go p e below _ T2 (mkF m 15 #[.val (.int mode), .val (.int tm), .val (.ref aa), .val (.int (8 : Int32)), .val (.int (1 : Int32)), .val (.ref (w 0))] [])
    refine Go.of (fun _ k => XS.iload X2.here hx rfl (hb hby dc2_15) rfl k) ?_
    show Go p e below _ T2 (mkF m 17 #[.val (.int mode), .val (.int tm), .val (.ref aa), .val (.int (8 : Int32)), .val (.int (1 : Int32)), .val (.ref (w 0))] [(.int (1 : Int32))])
    refine Go.of (fun _ k => XS.iloadN X2.here hx rfl (hb hby dc2_17) rfl k) ?_
    show Go p e below _ T2 (mkF m 18 #[.val (.int mode), .val (.int tm), .val (.ref aa), .val (.int (8 : Int32)), .val (.int (1 : Int32)), .val (.ref (w 0))] [(.int (8 : Int32)), (.int (1 : Int32))])
    refine Go.of (fun _ k => XS.icmpNo X2.here hx rfl (hb hby dc2_18) rfl (XT.ii_ge_f (by decide)) k) ?_
    show Go p e below _ T2 (mkF m 21 #[.val (.int mode), .val (.int tm), .val (.ref aa), .val (.int (8 : Int32)), .val (.int (1 : Int32)), .val (.ref (w 0))] [])
    refine Go.of (fun _ k => XS.aloadN X2.here hx rfl (hb hby dc2_21) rfl rfl k) ?_
    show Go p e below _ T2 (mkF m 22 #[.val (.int mode), .val (.int tm), .val (.ref aa), .val (.int (8 : Int32)), .val (.int (1 : Int32)), .val (.ref (w 0))] [(.ref aa)])
    refine Go.of (fun _ k => XS.iload X2.here hx rfl (hb hby dc2_22) rfl k) ?_
    show Go p e below _ T2 (mkF m 24 #[.val (.int mode), .val (.int tm), .val (.ref aa), .val (.int (8 : Int32)), .val (.int (1 : Int32)), .val (.ref (w 0))] [(.int (1 : Int32)), (.ref aa)])
    refine Go.of (X2.aaload hx (j := (1 : Int32)) (v := (.ref (w 1))) (by rw [e2]; exact Aall.1) (State.isArrayOf_alike hZ.alike Aall.2.1) rfl Aall.2.2 (by rw [Nall]; decide) (show cl.slots[((1 : Int32)).toNatClampNeg]? = some (.ref (w 1)) from El1) (g := (mkF m 24 #[.val (.int mode), .val (.int tm), .val (.ref aa), .val (.int (8 : Int32)), .val (.int (1 : Int32)), .val (.ref (w 0))] [(.int (1 : Int32)), (.ref aa)])) rfl rfl (hb hby dc2_24)) ?_
    show Go p e below _ T2 (mkF m 25 #[.val (.int mode), .val (.int tm), .val (.ref aa), .val (.int (8 : Int32)), .val (.int (1 : Int32)), .val (.ref (w 0))] [(.ref (w 1))])
    refine Go.of (fun _ k => XS.astore X2.here hx rfl (hb hby dc2_25) rfl rfl (l' := #[.val (.int mode), .val (.int tm), .val (.ref aa), .val (.int (8 : Int32)), .val (.int (1 : Int32)), .val (.ref (w 1))]) rfl k) ?_
    show Go p e below _ T2 (mkF m 27 #[.val (.int mode), .val (.int tm), .val (.ref aa), .val (.int (8 : Int32)), .val (.int (1 : Int32)), .val (.ref (w 1))] [])
    refine Go.of (fun _ k => XS.aload X2.here hx rfl (hb hby dc2_27) rfl rfl k) ?_
    show Go p e below _ T2 (mkF m 29 #[.val (.int mode), .val (.int tm), .val (.ref aa), .val (.int (8 : Int32)), .val (.int (1 : Int32)), .val (.ref (w 1))] [(.ref (w 1))])
    obtain ⟨T4, X4, e4, st4⟩ := getF X2 hx hZ hown (host := "") (Or.inl (hw _ (List.mem_of_getElem? (i := 8) rfl))) Via.refl e2 G0_1 (g := (mkF m 29 #[.val (.int mode), .val (.int tm), .val (.ref aa), .val (.int (8 : Int32)), .val (.int (1 : Int32)), .val (.ref (w 1))] [(.ref (w 1))])) rfl rfl (hb hby dc2_29)
    refine Go.of st4 ?_
    show Go p e below _ T4 (mkF m 32 #[.val (.int mode), .val (.int tm), .val (.ref aa), .val (.int (8 : Int32)), .val (.int (1 : Int32)), .val (.ref (w 1))] [(.int (16384 : Int32))])
    refine Go.of (fun _ k => XS.iloadN X4.here hx rfl (hb hby dc2_32) rfl k) ?_
    show Go p e below _ T4 (mkF m 33 #[.val (.int mode), .val (.int tm), .val (.ref aa), .val (.int (8 : Int32)), .val (.int (1 : Int32)), .val (.ref (w 1))] [(.int tm), (.int (16384 : Int32))])
    by_cases hc33_5 : (16384 : Int32) = tm
    ·
      refine Go.of (fun _ k => XS.icmpNo X4.here hx rfl (hb hby dc2_33) rfl (XT.ii_ne_f hc33_5) k) ?_
      show Go p e below _ T4 (mkF m 36 #[.val (.int mode), .val (.int tm), .val (.ref aa), .val (.int (8 : Int32)), .val (.int (1 : Int32)), .val (.ref (w 1))] [])
      refine Go.of (fun _ k => XS.aload X4.here hx rfl (hb hby dc2_36) rfl rfl k) ?_
      show Go p e below _ T4 (mkF m 38 #[.val (.int mode), .val (.int tm), .val (.ref aa), .val (.int (8 : Int32)), .val (.int (1 : Int32)), .val (.ref (w 1))] [(.ref (w 1))])
      exact own_retA X4 hx hlk hret rfl rfl (hb hby dc2_38) ⟨by rw [htm] at hr; rw [← hr, ofN, if_neg hc33_3, if_pos hc33_5], rfl, e4⟩ (by decide) (by decide)
    ·
      refine Go.of (fun _ k => XS.icmpYes X4.here hx rfl (pc0 := 33) (pc' := 39) rfl (hb hby dc2_33) rfl (XT.ii_ne_t hc33_5) (by decide) (by decide) k) ?_
      show Go p e below _ T4 (mkF m 39 #[.val (.int mode), .val (.int tm), .val (.ref aa), .val (.int (8 : Int32)), .val (.int (1 : Int32)), .val (.ref (w 1))] [])
      refine Go.of (fun _ k => XS.iinc X4.here hx rfl (hb hby dc2_39) rfl (l' := #[.val (.int mode), .val (.int tm), .val (.ref aa), .val (.int (8 : Int32)), .val (.int (2 : Int32)), .val (.ref (w 1))]) rfl k) ?_
      show Go p e below _ T4 (mkF m 42 #[.val (.int mode), .val (.int tm), .val (.ref aa), .val (.int (8 : Int32)), .val (.int (2 : Int32)), .val (.ref (w 1))] [])
      refine Go.of (fun _ k => XS.goto X4.here hx rfl (pc0 := 42) (pc' := 15) rfl (hb hby dc2_42) (by decide) (by decide) k) ?_
      show Go p e below _ T4 (mkF m 15 #[.val (.int mode), .val (.int tm), .val (.ref aa), .val (.int (8 : Int32)), .val (.int (2 : Int32)), .val (.ref (w 1))] [])
      refine Go.of (fun _ k => XS.iload X4.here hx rfl (hb hby dc2_15) rfl k) ?_
      show Go p e below _ T4 (mkF m 17 #[.val (.int mode), .val (.int tm), .val (.ref aa), .val (.int (8 : Int32)), .val (.int (2 : Int32)), .val (.ref (w 1))] [(.int (2 : Int32))])
      refine Go.of (fun _ k => XS.iloadN X4.here hx rfl (hb hby dc2_17) rfl k) ?_
      show Go p e below _ T4 (mkF m 18 #[.val (.int mode), .val (.int tm), .val (.ref aa), .val (.int (8 : Int32)), .val (.int (2 : Int32)), .val (.ref (w 1))] [(.int (8 : Int32)), (.int (2 : Int32))])
      refine Go.of (fun _ k => XS.icmpNo X4.here hx rfl (hb hby dc2_18) rfl (XT.ii_ge_f (by decide)) k) ?_
      show Go p e below _ T4 (mkF m 21 #[.val (.int mode), .val (.int tm), .val (.ref aa), .val (.int (8 : Int32)), .val (.int (2 : Int32)), .val (.ref (w 1))] [])
      refine Go.of (fun _ k => XS.aloadN X4.here hx rfl (hb hby dc2_21) rfl rfl k) ?_
      show Go p e below _ T4 (mkF m 22 #[.val (.int mode), .val (.int tm), .val (.ref aa), .val (.int (8 : Int32)), .val (.int (2 : Int32)), .val (.ref (w 1))] [(.ref aa)])
      refine Go.of (fun _ k => XS.iload X4.here hx rfl (hb hby dc2_22) rfl k) ?_
      show Go p e below _ T4 (mkF m 24 #[.val (.int mode), .val (.int tm), .val (.ref aa), .val (.int (8 : Int32)), .val (.int (2 : Int32)), .val (.ref (w 1))] [(.int (2 : Int32)), (.ref aa)])
      refine Go.of (X4.aaload hx (j := (2 : Int32)) (v := (.ref (w 2))) (by rw [e4]; exact Aall.1) (State.isArrayOf_alike hZ.alike Aall.2.1) rfl Aall.2.2 (by rw [Nall]; decide) (show cl.slots[((2 : Int32)).toNatClampNeg]? = some (.ref (w 2)) from El2) (g := (mkF m 24 #[.val (.int mode), .val (.int tm), .val (.ref aa), .val (.int (8 : Int32)), .val (.int (2 : Int32)), .val (.ref (w 1))] [(.int (2 : Int32)), (.ref aa)])) rfl rfl (hb hby dc2_24)) ?_
      show Go p e below _ T4 (mkF m 25 #[.val (.int mode), .val (.int tm), .val (.ref aa), .val (.int (8 : Int32)), .val (.int (2 : Int32)), .val (.ref (w 1))] [(.ref (w 2))])
      refine Go.of (fun _ k => XS.astore X4.here hx rfl (hb hby dc2_25) rfl rfl (l' := #[.val (.int mode), .val (.int tm), .val (.ref aa), .val (.int (8 : Int32)), .val (.int (2 : Int32)), .val (.ref (w 2))]) rfl k) ?_
      show Go p e below _ T4 (mkF m 27 #[.val (.int mode), .val (.int tm), .val (.ref aa), .val (.int (8 : Int32)), .val (.int (2 : Int32)), .val (.ref (w 2))] [])
      refine Go.of (fun _ k => XS.aload X4.here hx rfl (hb hby dc2_27) rfl rfl k) ?_
      show Go p e below _ T4 (mkF m 29 #[.val (.int mode), .val (.int tm), .val (.ref aa), .val (.int (8 : Int32)), .val (.int (2 : Int32)), .val (.ref (w 2))] [(.ref (w 2))])
      obtain ⟨T6, X6, e6, st6⟩ := getF X4 hx hZ hown (host := "") (Or.inl (hw _ (List.mem_of_getElem? (i := 8) rfl))) Via.refl e4 G0_2 (g := (mkF m 29 #[.val (.int mode), .val (.int tm), .val (.ref aa), .val (.int (8 : Int32)), .val (.int (2 : Int32)), .val (.ref (w 2))] [(.ref (w 2))])) rfl rfl (hb hby dc2_29)
      refine Go.of st6 ?_
      show Go p e below _ T6 (mkF m 32 #[.val (.int mode), .val (.int tm), .val (.ref aa), .val (.int (8 : Int32)), .val (.int (2 : Int32)), .val (.ref (w 2))] [(.int (40960 : Int32))])
      refine Go.of (fun _ k => XS.iloadN X6.here hx rfl (hb hby dc2_32) rfl k) ?_
      show Go p e below _ T6 (mkF m 33 #[.val (.int mode), .val (.int tm), .val (.ref aa), .val (.int (8 : Int32)), .val (.int (2 : Int32)), .val (.ref (w 2))] [(.int tm), (.int (40960 : Int32))])
      by_cases hc33_7 : (40960 : Int32) = tm
      ·
        refine Go.of (fun _ k => XS.icmpNo X6.here hx rfl (hb hby dc2_33) rfl (XT.ii_ne_f hc33_7) k) ?_
        show Go p e below _ T6 (mkF m 36 #[.val (.int mode), .val (.int tm), .val (.ref aa), .val (.int (8 : Int32)), .val (.int (2 : Int32)), .val (.ref (w 2))] [])
        refine Go.of (fun _ k => XS.aload X6.here hx rfl (hb hby dc2_36) rfl rfl k) ?_
        show Go p e below _ T6 (mkF m 38 #[.val (.int mode), .val (.int tm), .val (.ref aa), .val (.int (8 : Int32)), .val (.int (2 : Int32)), .val (.ref (w 2))] [(.ref (w 2))])
        exact own_retA X6 hx hlk hret rfl rfl (hb hby dc2_38) ⟨by rw [htm] at hr; rw [← hr, ofN, if_neg hc33_3, if_neg hc33_5, if_pos hc33_7], rfl, e6⟩ (by decide) (by decide)
      ·
        refine Go.of (fun _ k => XS.icmpYes X6.here hx rfl (pc0 := 33) (pc' := 39) rfl (hb hby dc2_33) rfl (XT.ii_ne_t hc33_7) (by decide) (by decide) k) ?_
        show Go p e below _ T6 (mkF m 39 #[.val (.int mode), .val (.int tm), .val (.ref aa), .val (.int (8 : Int32)), .val (.int (2 : Int32)), .val (.ref (w 2))] [])
        refine Go.of (fun _ k => XS.iinc X6.here hx rfl (hb hby dc2_39) rfl (l' := #[.val (.int mode), .val (.int tm), .val (.ref aa), .val (.int (8 : Int32)), .val (.int (3 : Int32)), .val (.ref (w 2))]) rfl k) ?_
        show Go p e below _ T6 (mkF m 42 #[.val (.int mode), .val (.int tm), .val (.ref aa), .val (.int (8 : Int32)), .val (.int (3 : Int32)), .val (.ref (w 2))] [])
        refine Go.of (fun _ k => XS.goto X6.here hx rfl (pc0 := 42) (pc' := 15) rfl (hb hby dc2_42) (by decide) (by decide) k) ?_
        show Go p e below _ T6 (mkF m 15 #[.val (.int mode), .val (.int tm), .val (.ref aa), .val (.int (8 : Int32)), .val (.int (3 : Int32)), .val (.ref (w 2))] [])
        refine Go.of (fun _ k => XS.iload X6.here hx rfl (hb hby dc2_15) rfl k) ?_
        show Go p e below _ T6 (mkF m 17 #[.val (.int mode), .val (.int tm), .val (.ref aa), .val (.int (8 : Int32)), .val (.int (3 : Int32)), .val (.ref (w 2))] [(.int (3 : Int32))])
        refine Go.of (fun _ k => XS.iloadN X6.here hx rfl (hb hby dc2_17) rfl k) ?_
        show Go p e below _ T6 (mkF m 18 #[.val (.int mode), .val (.int tm), .val (.ref aa), .val (.int (8 : Int32)), .val (.int (3 : Int32)), .val (.ref (w 2))] [(.int (8 : Int32)), (.int (3 : Int32))])
        refine Go.of (fun _ k => XS.icmpNo X6.here hx rfl (hb hby dc2_18) rfl (XT.ii_ge_f (by decide)) k) ?_
        show Go p e below _ T6 (mkF m 21 #[.val (.int mode), .val (.int tm), .val (.ref aa), .val (.int (8 : Int32)), .val (.int (3 : Int32)), .val (.ref (w 2))] [])
        refine Go.of (fun _ k => XS.aloadN X6.here hx rfl (hb hby dc2_21) rfl rfl k) ?_
        show Go p e below _ T6 (mkF m 22 #[.val (.int mode), .val (.int tm), .val (.ref aa), .val (.int (8 : Int32)), .val (.int (3 : Int32)), .val (.ref (w 2))] [(.ref aa)])
        refine Go.of (fun _ k => XS.iload X6.here hx rfl (hb hby dc2_22) rfl k) ?_
        show Go p e below _ T6 (mkF m 24 #[.val (.int mode), .val (.int tm), .val (.ref aa), .val (.int (8 : Int32)), .val (.int (3 : Int32)), .val (.ref (w 2))] [(.int (3 : Int32)), (.ref aa)])
        refine Go.of (X6.aaload hx (j := (3 : Int32)) (v := (.ref (w 3))) (by rw [e6]; exact Aall.1) (State.isArrayOf_alike hZ.alike Aall.2.1) rfl Aall.2.2 (by rw [Nall]; decide) (show cl.slots[((3 : Int32)).toNatClampNeg]? = some (.ref (w 3)) from El3) (g := (mkF m 24 #[.val (.int mode), .val (.int tm), .val (.ref aa), .val (.int (8 : Int32)), .val (.int (3 : Int32)), .val (.ref (w 2))] [(.int (3 : Int32)), (.ref aa)])) rfl rfl (hb hby dc2_24)) ?_
        show Go p e below _ T6 (mkF m 25 #[.val (.int mode), .val (.int tm), .val (.ref aa), .val (.int (8 : Int32)), .val (.int (3 : Int32)), .val (.ref (w 2))] [(.ref (w 3))])
        refine Go.of (fun _ k => XS.astore X6.here hx rfl (hb hby dc2_25) rfl rfl (l' := #[.val (.int mode), .val (.int tm), .val (.ref aa), .val (.int (8 : Int32)), .val (.int (3 : Int32)), .val (.ref (w 3))]) rfl k) ?_
        show Go p e below _ T6 (mkF m 27 #[.val (.int mode), .val (.int tm), .val (.ref aa), .val (.int (8 : Int32)), .val (.int (3 : Int32)), .val (.ref (w 3))] [])
        refine Go.of (fun _ k => XS.aload X6.here hx rfl (hb hby dc2_27) rfl rfl k) ?_
        show Go p e below _ T6 (mkF m 29 #[.val (.int mode), .val (.int tm), .val (.ref aa), .val (.int (8 : Int32)), .val (.int (3 : Int32)), .val (.ref (w 3))] [(.ref (w 3))])
        obtain ⟨T8, X8, e8, st8⟩ := getF X6 hx hZ hown (host := "") (Or.inl (hw _ (List.mem_of_getElem? (i := 8) rfl))) Via.refl e6 G0_3 (g := (mkF m 29 #[.val (.int mode), .val (.int tm), .val (.ref aa), .val (.int (8 : Int32)), .val (.int (3 : Int32)), .val (.ref (w 3))] [(.ref (w 3))])) rfl rfl (hb hby dc2_29)
        refine Go.of st8 ?_
        show Go p e below _ T8 (mkF m 32 #[.val (.int mode), .val (.int tm), .val (.ref aa), .val (.int (8 : Int32)), .val (.int (3 : Int32)), .val (.ref (w 3))] [(.int (4096 : Int32))])
        refine Go.of (fun _ k => XS.iloadN X8.here hx rfl (hb hby dc2_32) rfl k) ?_
        show Go p e below _ T8 (mkF m 33 #[.val (.int mode), .val (.int tm), .val (.ref aa), .val (.int (8 : Int32)), .val (.int (3 : Int32)), .val (.ref (w 3))] [(.int tm), (.int (4096 : Int32))])
        by_cases hc33_9 : (4096 : Int32) = tm
        ·
          refine Go.of (fun _ k => XS.icmpNo X8.here hx rfl (hb hby dc2_33) rfl (XT.ii_ne_f hc33_9) k) ?_
          show Go p e below _ T8 (mkF m 36 #[.val (.int mode), .val (.int tm), .val (.ref aa), .val (.int (8 : Int32)), .val (.int (3 : Int32)), .val (.ref (w 3))] [])
          refine Go.of (fun _ k => XS.aload X8.here hx rfl (hb hby dc2_36) rfl rfl k) ?_
          show Go p e below _ T8 (mkF m 38 #[.val (.int mode), .val (.int tm), .val (.ref aa), .val (.int (8 : Int32)), .val (.int (3 : Int32)), .val (.ref (w 3))] [(.ref (w 3))])
          exact own_retA X8 hx hlk hret rfl rfl (hb hby dc2_38) ⟨by rw [htm] at hr; rw [← hr, ofN, if_neg hc33_3, if_neg hc33_5, if_neg hc33_7, if_pos hc33_9], rfl, e8⟩ (by decide) (by decide)
        ·
          refine Go.of (fun _ k => XS.icmpYes X8.here hx rfl (pc0 := 33) (pc' := 39) rfl (hb hby dc2_33) rfl (XT.ii_ne_t hc33_9) (by decide) (by decide) k) ?_
          show Go p e below _ T8 (mkF m 39 #[.val (.int mode), .val (.int tm), .val (.ref aa), .val (.int (8 : Int32)), .val (.int (3 : Int32)), .val (.ref (w 3))] [])
          refine Go.of (fun _ k => XS.iinc X8.here hx rfl (hb hby dc2_39) rfl (l' := #[.val (.int mode), .val (.int tm), .val (.ref aa), .val (.int (8 : Int32)), .val (.int (4 : Int32)), .val (.ref (w 3))]) rfl k) ?_
          show Go p e below _ T8 (mkF m 42 #[.val (.int mode), .val (.int tm), .val (.ref aa), .val (.int (8 : Int32)), .val (.int (4 : Int32)), .val (.ref (w 3))] [])
          refine Go.of (fun _ k => XS.goto X8.here hx rfl (pc0 := 42) (pc' := 15) rfl (hb hby dc2_42) (by decide) (by decide) k) ?_
          show Go p e below _ T8 (mkF m 15 #[.val (.int mode), .val (.int tm), .val (.ref aa), .val (.int (8 : Int32)), .val (.int (4 : Int32)), .val (.ref (w 3))] [])
          refine Go.of (fun _ k => XS.iload X8.here hx rfl (hb hby dc2_15) rfl k) ?_
          show Go p e below _ T8 (mkF m 17 #[.val (.int mode), .val (.int tm), .val (.ref aa), .val (.int (8 : Int32)), .val (.int (4 : Int32)), .val (.ref (w 3))] [(.int (4 : Int32))])
          refine Go.of (fun _ k => XS.iloadN X8.here hx rfl (hb hby dc2_17) rfl k) ?_
          show Go p e below _ T8 (mkF m 18 #[.val (.int mode), .val (.int tm), .val (.ref aa), .val (.int (8 : Int32)), .val (.int (4 : Int32)), .val (.ref (w 3))] [(.int (8 : Int32)), (.int (4 : Int32))])
          refine Go.of (fun _ k => XS.icmpNo X8.here hx rfl (hb hby dc2_18) rfl (XT.ii_ge_f (by decide)) k) ?_
          show Go p e below _ T8 (mkF m 21 #[.val (.int mode), .val (.int tm), .val (.ref aa), .val (.int (8 : Int32)), .val (.int (4 : Int32)), .val (.ref (w 3))] [])
          refine Go.of (fun _ k => XS.aloadN X8.here hx rfl (hb hby dc2_21) rfl rfl k) ?_
          show Go p e below _ T8 (mkF m 22 #[.val (.int mode), .val (.int tm), .val (.ref aa), .val (.int (8 : Int32)), .val (.int (4 : Int32)), .val (.ref (w 3))] [(.ref aa)])
          refine Go.of (fun _ k => XS.iload X8.here hx rfl (hb hby dc2_22) rfl k) ?_
          show Go p e below _ T8 (mkF m 24 #[.val (.int mode), .val (.int tm), .val (.ref aa), .val (.int (8 : Int32)), .val (.int (4 : Int32)), .val (.ref (w 3))] [(.int (4 : Int32)), (.ref aa)])
          refine Go.of (X8.aaload hx (j := (4 : Int32)) (v := (.ref (w 4))) (by rw [e8]; exact Aall.1) (State.isArrayOf_alike hZ.alike Aall.2.1) rfl Aall.2.2 (by rw [Nall]; decide) (show cl.slots[((4 : Int32)).toNatClampNeg]? = some (.ref (w 4)) from El4) (g := (mkF m 24 #[.val (.int mode), .val (.int tm), .val (.ref aa), .val (.int (8 : Int32)), .val (.int (4 : Int32)), .val (.ref (w 3))] [(.int (4 : Int32)), (.ref aa)])) rfl rfl (hb hby dc2_24)) ?_
          show Go p e below _ T8 (mkF m 25 #[.val (.int mode), .val (.int tm), .val (.ref aa), .val (.int (8 : Int32)), .val (.int (4 : Int32)), .val (.ref (w 3))] [(.ref (w 4))])
          refine Go.of (fun _ k => XS.astore X8.here hx rfl (hb hby dc2_25) rfl rfl (l' := #[.val (.int mode), .val (.int tm), .val (.ref aa), .val (.int (8 : Int32)), .val (.int (4 : Int32)), .val (.ref (w 4))]) rfl k) ?_
          show Go p e below _ T8 (mkF m 27 #[.val (.int mode), .val (.int tm), .val (.ref aa), .val (.int (8 : Int32)), .val (.int (4 : Int32)), .val (.ref (w 4))] [])
          refine Go.of (fun _ k => XS.aload X8.here hx rfl (hb hby dc2_27) rfl rfl k) ?_
          show Go p e below _ T8 (mkF m 29 #[.val (.int mode), .val (.int tm), .val (.ref aa), .val (.int (8 : Int32)), .val (.int (4 : Int32)), .val (.ref (w 4))] [(.ref (w 4))])
          obtain ⟨T10, X10, e10, st10⟩ := getF X8 hx hZ hown (host := "") (Or.inl (hw _ (List.mem_of_getElem? (i := 8) rfl))) Via.refl e8 G0_4 (g := (mkF m 29 #[.val (.int mode), .val (.int tm), .val (.ref aa), .val (.int (8 : Int32)), .val (.int (4 : Int32)), .val (.ref (w 4))] [(.ref (w 4))])) rfl rfl (hb hby dc2_29)
          refine Go.of st10 ?_
          show Go p e below _ T10 (mkF m 32 #[.val (.int mode), .val (.int tm), .val (.ref aa), .val (.int (8 : Int32)), .val (.int (4 : Int32)), .val (.ref (w 4))] [(.int (49152 : Int32))])
          refine Go.of (fun _ k => XS.iloadN X10.here hx rfl (hb hby dc2_32) rfl k) ?_
          show Go p e below _ T10 (mkF m 33 #[.val (.int mode), .val (.int tm), .val (.ref aa), .val (.int (8 : Int32)), .val (.int (4 : Int32)), .val (.ref (w 4))] [(.int tm), (.int (49152 : Int32))])
          by_cases hc33_11 : (49152 : Int32) = tm
          ·
            refine Go.of (fun _ k => XS.icmpNo X10.here hx rfl (hb hby dc2_33) rfl (XT.ii_ne_f hc33_11) k) ?_
            show Go p e below _ T10 (mkF m 36 #[.val (.int mode), .val (.int tm), .val (.ref aa), .val (.int (8 : Int32)), .val (.int (4 : Int32)), .val (.ref (w 4))] [])
            refine Go.of (fun _ k => XS.aload X10.here hx rfl (hb hby dc2_36) rfl rfl k) ?_
            show Go p e below _ T10 (mkF m 38 #[.val (.int mode), .val (.int tm), .val (.ref aa), .val (.int (8 : Int32)), .val (.int (4 : Int32)), .val (.ref (w 4))] [(.ref (w 4))])
            exact own_retA X10 hx hlk hret rfl rfl (hb hby dc2_38) ⟨by rw [htm] at hr; rw [← hr, ofN, if_neg hc33_3, if_neg hc33_5, if_neg hc33_7, if_neg hc33_9, if_pos hc33_11], rfl, e10⟩ (by decide) (by decide)
          ·
            refine Go.of (fun _ k => XS.icmpYes X10.here hx rfl (pc0 := 33) (pc' := 39) rfl (hb hby dc2_33) rfl (XT.ii_ne_t hc33_11) (by decide) (by decide) k) ?_
            show Go p e below _ T10 (mkF m 39 #[.val (.int mode), .val (.int tm), .val (.ref aa), .val (.int (8 : Int32)), .val (.int (4 : Int32)), .val (.ref (w 4))] [])
            refine Go.of (fun _ k => XS.iinc X10.here hx rfl (hb hby dc2_39) rfl (l' := #[.val (.int mode), .val (.int tm), .val (.ref aa), .val (.int (8 : Int32)), .val (.int (5 : Int32)), .val (.ref (w 4))]) rfl k) ?_
            show Go p e below _ T10 (mkF m 42 #[.val (.int mode), .val (.int tm), .val (.ref aa), .val (.int (8 : Int32)), .val (.int (5 : Int32)), .val (.ref (w 4))] [])
            refine Go.of (fun _ k => XS.goto X10.here hx rfl (pc0 := 42) (pc' := 15) rfl (hb hby dc2_42) (by decide) (by decide) k) ?_
            show Go p e below _ T10 (mkF m 15 #[.val (.int mode), .val (.int tm), .val (.ref aa), .val (.int (8 : Int32)), .val (.int (5 : Int32)), .val (.ref (w 4))] [])
            refine Go.of (fun _ k => XS.iload X10.here hx rfl (hb hby dc2_15) rfl k) ?_
            show Go p e below _ T10 (mkF m 17 #[.val (.int mode), .val (.int tm), .val (.ref aa), .val (.int (8 : Int32)), .val (.int (5 : Int32)), .val (.ref (w 4))] [(.int (5 : Int32))])
            refine Go.of (fun _ k => XS.iloadN X10.here hx rfl (hb hby dc2_17) rfl k) ?_
            show Go p e below _ T10 (mkF m 18 #[.val (.int mode), .val (.int tm), .val (.ref aa), .val (.int (8 : Int32)), .val (.int (5 : Int32)), .val (.ref (w 4))] [(.int (8 : Int32)), (.int (5 : Int32))])
            refine Go.of (fun _ k => XS.icmpNo X10.here hx rfl (hb hby dc2_18) rfl (XT.ii_ge_f (by decide)) k) ?_
            show Go p e below _ T10 (mkF m 21 #[.val (.int mode), .val (.int tm), .val (.ref aa), .val (.int (8 : Int32)), .val (.int (5 : Int32)), .val (.ref (w 4))] [])
            refine Go.of (fun _ k => XS.aloadN X10.here hx rfl (hb hby dc2_21) rfl rfl k) ?_
            show Go p e below _ T10 (mkF m 22 #[.val (.int mode), .val (.int tm), .val (.ref aa), .val (.int (8 : Int32)), .val (.int (5 : Int32)), .val (.ref (w 4))] [(.ref aa)])
            refine Go.of (fun _ k => XS.iload X10.here hx rfl (hb hby dc2_22) rfl k) ?_
            show Go p e below _ T10 (mkF m 24 #[.val (.int mode), .val (.int tm), .val (.ref aa), .val (.int (8 : Int32)), .val (.int (5 : Int32)), .val (.ref (w 4))] [(.int (5 : Int32)), (.ref aa)])
            refine Go.of (X10.aaload hx (j := (5 : Int32)) (v := (.ref (w 5))) (by rw [e10]; exact Aall.1) (State.isArrayOf_alike hZ.alike Aall.2.1) rfl Aall.2.2 (by rw [Nall]; decide) (show cl.slots[((5 : Int32)).toNatClampNeg]? = some (.ref (w 5)) from El5) (g := (mkF m 24 #[.val (.int mode), .val (.int tm), .val (.ref aa), .val (.int (8 : Int32)), .val (.int (5 : Int32)), .val (.ref (w 4))] [(.int (5 : Int32)), (.ref aa)])) rfl rfl (hb hby dc2_24)) ?_
            show Go p e below _ T10 (mkF m 25 #[.val (.int mode), .val (.int tm), .val (.ref aa), .val (.int (8 : Int32)), .val (.int (5 : Int32)), .val (.ref (w 4))] [(.ref (w 5))])
            refine Go.of (fun _ k => XS.astore X10.here hx rfl (hb hby dc2_25) rfl rfl (l' := #[.val (.int mode), .val (.int tm), .val (.ref aa), .val (.int (8 : Int32)), .val (.int (5 : Int32)), .val (.ref (w 5))]) rfl k) ?_
            show Go p e below _ T10 (mkF m 27 #[.val (.int mode), .val (.int tm), .val (.ref aa), .val (.int (8 : Int32)), .val (.int (5 : Int32)), .val (.ref (w 5))] [])
            refine Go.of (fun _ k => XS.aload X10.here hx rfl (hb hby dc2_27) rfl rfl k) ?_
            show Go p e below _ T10 (mkF m 29 #[.val (.int mode), .val (.int tm), .val (.ref aa), .val (.int (8 : Int32)), .val (.int (5 : Int32)), .val (.ref (w 5))] [(.ref (w 5))])
            obtain ⟨T12, X12, e12, st12⟩ := getF X10 hx hZ hown (host := "") (Or.inl (hw _ (List.mem_of_getElem? (i := 8) rfl))) Via.refl e10 G0_5 (g := (mkF m 29 #[.val (.int mode), .val (.int tm), .val (.ref aa), .val (.int (8 : Int32)), .val (.int (5 : Int32)), .val (.ref (w 5))] [(.ref (w 5))])) rfl rfl (hb hby dc2_29)
            refine Go.of st12 ?_
            show Go p e below _ T12 (mkF m 32 #[.val (.int mode), .val (.int tm), .val (.ref aa), .val (.int (8 : Int32)), .val (.int (5 : Int32)), .val (.ref (w 5))] [(.int (8192 : Int32))])
            refine Go.of (fun _ k => XS.iloadN X12.here hx rfl (hb hby dc2_32) rfl k) ?_
            show Go p e below _ T12 (mkF m 33 #[.val (.int mode), .val (.int tm), .val (.ref aa), .val (.int (8 : Int32)), .val (.int (5 : Int32)), .val (.ref (w 5))] [(.int tm), (.int (8192 : Int32))])
            by_cases hc33_13 : (8192 : Int32) = tm
            ·
              refine Go.of (fun _ k => XS.icmpNo X12.here hx rfl (hb hby dc2_33) rfl (XT.ii_ne_f hc33_13) k) ?_
              show Go p e below _ T12 (mkF m 36 #[.val (.int mode), .val (.int tm), .val (.ref aa), .val (.int (8 : Int32)), .val (.int (5 : Int32)), .val (.ref (w 5))] [])
              refine Go.of (fun _ k => XS.aload X12.here hx rfl (hb hby dc2_36) rfl rfl k) ?_
              show Go p e below _ T12 (mkF m 38 #[.val (.int mode), .val (.int tm), .val (.ref aa), .val (.int (8 : Int32)), .val (.int (5 : Int32)), .val (.ref (w 5))] [(.ref (w 5))])
              exact own_retA X12 hx hlk hret rfl rfl (hb hby dc2_38) ⟨by rw [htm] at hr; rw [← hr, ofN, if_neg hc33_3, if_neg hc33_5, if_neg hc33_7, if_neg hc33_9, if_neg hc33_11, if_pos hc33_13], rfl, e12⟩ (by decide) (by decide)
            ·
              refine Go.of (fun _ k => XS.icmpYes X12.here hx rfl (pc0 := 33) (pc' := 39) rfl (hb hby dc2_33) rfl (XT.ii_ne_t hc33_13) (by decide) (by decide) k) ?_
              show Go p e below _ T12 (mkF m 39 #[.val (.int mode), .val (.int tm), .val (.ref aa), .val (.int (8 : Int32)), .val (.int (5 : Int32)), .val (.ref (w 5))] [])
              refine Go.of (fun _ k => XS.iinc X12.here hx rfl (hb hby dc2_39) rfl (l' := #[.val (.int mode), .val (.int tm), .val (.ref aa), .val (.int (8 : Int32)), .val (.int (6 : Int32)), .val (.ref (w 5))]) rfl k) ?_
              show Go p e below _ T12 (mkF m 42 #[.val (.int mode), .val (.int tm), .val (.ref aa), .val (.int (8 : Int32)), .val (.int (6 : Int32)), .val (.ref (w 5))] [])
              refine Go.of (fun _ k => XS.goto X12.here hx rfl (pc0 := 42) (pc' := 15) rfl (hb hby dc2_42) (by decide) (by decide) k) ?_
              show Go p e below _ T12 (mkF m 15 #[.val (.int mode), .val (.int tm), .val (.ref aa), .val (.int (8 : Int32)), .val (.int (6 : Int32)), .val (.ref (w 5))] [])
              refine Go.of (fun _ k => XS.iload X12.here hx rfl (hb hby dc2_15) rfl k) ?_
              show Go p e below _ T12 (mkF m 17 #[.val (.int mode), .val (.int tm), .val (.ref aa), .val (.int (8 : Int32)), .val (.int (6 : Int32)), .val (.ref (w 5))] [(.int (6 : Int32))])
              refine Go.of (fun _ k => XS.iloadN X12.here hx rfl (hb hby dc2_17) rfl k) ?_
              show Go p e below _ T12 (mkF m 18 #[.val (.int mode), .val (.int tm), .val (.ref aa), .val (.int (8 : Int32)), .val (.int (6 : Int32)), .val (.ref (w 5))] [(.int (8 : Int32)), (.int (6 : Int32))])
              refine Go.of (fun _ k => XS.icmpNo X12.here hx rfl (hb hby dc2_18) rfl (XT.ii_ge_f (by decide)) k) ?_
              show Go p e below _ T12 (mkF m 21 #[.val (.int mode), .val (.int tm), .val (.ref aa), .val (.int (8 : Int32)), .val (.int (6 : Int32)), .val (.ref (w 5))] [])
              refine Go.of (fun _ k => XS.aloadN X12.here hx rfl (hb hby dc2_21) rfl rfl k) ?_
              show Go p e below _ T12 (mkF m 22 #[.val (.int mode), .val (.int tm), .val (.ref aa), .val (.int (8 : Int32)), .val (.int (6 : Int32)), .val (.ref (w 5))] [(.ref aa)])
              refine Go.of (fun _ k => XS.iload X12.here hx rfl (hb hby dc2_22) rfl k) ?_
              show Go p e below _ T12 (mkF m 24 #[.val (.int mode), .val (.int tm), .val (.ref aa), .val (.int (8 : Int32)), .val (.int (6 : Int32)), .val (.ref (w 5))] [(.int (6 : Int32)), (.ref aa)])
              refine Go.of (X12.aaload hx (j := (6 : Int32)) (v := (.ref (w 6))) (by rw [e12]; exact Aall.1) (State.isArrayOf_alike hZ.alike Aall.2.1) rfl Aall.2.2 (by rw [Nall]; decide) (show cl.slots[((6 : Int32)).toNatClampNeg]? = some (.ref (w 6)) from El6) (g := (mkF m 24 #[.val (.int mode), .val (.int tm), .val (.ref aa), .val (.int (8 : Int32)), .val (.int (6 : Int32)), .val (.ref (w 5))] [(.int (6 : Int32)), (.ref aa)])) rfl rfl (hb hby dc2_24)) ?_
              show Go p e below _ T12 (mkF m 25 #[.val (.int mode), .val (.int tm), .val (.ref aa), .val (.int (8 : Int32)), .val (.int (6 : Int32)), .val (.ref (w 5))] [(.ref (w 6))])
              refine Go.of (fun _ k => XS.astore X12.here hx rfl (hb hby dc2_25) rfl rfl (l' := #[.val (.int mode), .val (.int tm), .val (.ref aa), .val (.int (8 : Int32)), .val (.int (6 : Int32)), .val (.ref (w 6))]) rfl k) ?_
              show Go p e below _ T12 (mkF m 27 #[.val (.int mode), .val (.int tm), .val (.ref aa), .val (.int (8 : Int32)), .val (.int (6 : Int32)), .val (.ref (w 6))] [])
              refine Go.of (fun _ k => XS.aload X12.here hx rfl (hb hby dc2_27) rfl rfl k) ?_
              show Go p e below _ T12 (mkF m 29 #[.val (.int mode), .val (.int tm), .val (.ref aa), .val (.int (8 : Int32)), .val (.int (6 : Int32)), .val (.ref (w 6))] [(.ref (w 6))])
              obtain ⟨T14, X14, e14, st14⟩ := getF X12 hx hZ hown (host := "") (Or.inl (hw _ (List.mem_of_getElem? (i := 8) rfl))) Via.refl e12 G0_6 (g := (mkF m 29 #[.val (.int mode), .val (.int tm), .val (.ref aa), .val (.int (8 : Int32)), .val (.int (6 : Int32)), .val (.ref (w 6))] [(.ref (w 6))])) rfl rfl (hb hby dc2_29)
              refine Go.of st14 ?_
              show Go p e below _ T14 (mkF m 32 #[.val (.int mode), .val (.int tm), .val (.ref aa), .val (.int (8 : Int32)), .val (.int (6 : Int32)), .val (.ref (w 6))] [(.int (24576 : Int32))])
              refine Go.of (fun _ k => XS.iloadN X14.here hx rfl (hb hby dc2_32) rfl k) ?_
              show Go p e below _ T14 (mkF m 33 #[.val (.int mode), .val (.int tm), .val (.ref aa), .val (.int (8 : Int32)), .val (.int (6 : Int32)), .val (.ref (w 6))] [(.int tm), (.int (24576 : Int32))])
              by_cases hc33_15 : (24576 : Int32) = tm
              ·
                refine Go.of (fun _ k => XS.icmpNo X14.here hx rfl (hb hby dc2_33) rfl (XT.ii_ne_f hc33_15) k) ?_
                show Go p e below _ T14 (mkF m 36 #[.val (.int mode), .val (.int tm), .val (.ref aa), .val (.int (8 : Int32)), .val (.int (6 : Int32)), .val (.ref (w 6))] [])
                refine Go.of (fun _ k => XS.aload X14.here hx rfl (hb hby dc2_36) rfl rfl k) ?_
                show Go p e below _ T14 (mkF m 38 #[.val (.int mode), .val (.int tm), .val (.ref aa), .val (.int (8 : Int32)), .val (.int (6 : Int32)), .val (.ref (w 6))] [(.ref (w 6))])
                exact own_retA X14 hx hlk hret rfl rfl (hb hby dc2_38) ⟨by rw [htm] at hr; rw [← hr, ofN, if_neg hc33_3, if_neg hc33_5, if_neg hc33_7, if_neg hc33_9, if_neg hc33_11, if_neg hc33_13, if_pos hc33_15], rfl, e14⟩ (by decide) (by decide)
              ·
                refine Go.of (fun _ k => XS.icmpYes X14.here hx rfl (pc0 := 33) (pc' := 39) rfl (hb hby dc2_33) rfl (XT.ii_ne_t hc33_15) (by decide) (by decide) k) ?_
                show Go p e below _ T14 (mkF m 39 #[.val (.int mode), .val (.int tm), .val (.ref aa), .val (.int (8 : Int32)), .val (.int (6 : Int32)), .val (.ref (w 6))] [])
                refine Go.of (fun _ k => XS.iinc X14.here hx rfl (hb hby dc2_39) rfl (l' := #[.val (.int mode), .val (.int tm), .val (.ref aa), .val (.int (8 : Int32)), .val (.int (7 : Int32)), .val (.ref (w 6))]) rfl k) ?_
                show Go p e below _ T14 (mkF m 42 #[.val (.int mode), .val (.int tm), .val (.ref aa), .val (.int (8 : Int32)), .val (.int (7 : Int32)), .val (.ref (w 6))] [])
                refine Go.of (fun _ k => XS.goto X14.here hx rfl (pc0 := 42) (pc' := 15) rfl (hb hby dc2_42) (by decide) (by decide) k) ?_
                show Go p e below _ T14 (mkF m 15 #[.val (.int mode), .val (.int tm), .val (.ref aa), .val (.int (8 : Int32)), .val (.int (7 : Int32)), .val (.ref (w 6))] [])
                refine Go.of (fun _ k => XS.iload X14.here hx rfl (hb hby dc2_15) rfl k) ?_
                show Go p e below _ T14 (mkF m 17 #[.val (.int mode), .val (.int tm), .val (.ref aa), .val (.int (8 : Int32)), .val (.int (7 : Int32)), .val (.ref (w 6))] [(.int (7 : Int32))])
                refine Go.of (fun _ k => XS.iloadN X14.here hx rfl (hb hby dc2_17) rfl k) ?_
                show Go p e below _ T14 (mkF m 18 #[.val (.int mode), .val (.int tm), .val (.ref aa), .val (.int (8 : Int32)), .val (.int (7 : Int32)), .val (.ref (w 6))] [(.int (8 : Int32)), (.int (7 : Int32))])
                refine Go.of (fun _ k => XS.icmpNo X14.here hx rfl (hb hby dc2_18) rfl (XT.ii_ge_f (by decide)) k) ?_
                show Go p e below _ T14 (mkF m 21 #[.val (.int mode), .val (.int tm), .val (.ref aa), .val (.int (8 : Int32)), .val (.int (7 : Int32)), .val (.ref (w 6))] [])
                refine Go.of (fun _ k => XS.aloadN X14.here hx rfl (hb hby dc2_21) rfl rfl k) ?_
                show Go p e below _ T14 (mkF m 22 #[.val (.int mode), .val (.int tm), .val (.ref aa), .val (.int (8 : Int32)), .val (.int (7 : Int32)), .val (.ref (w 6))] [(.ref aa)])
                refine Go.of (fun _ k => XS.iload X14.here hx rfl (hb hby dc2_22) rfl k) ?_
                show Go p e below _ T14 (mkF m 24 #[.val (.int mode), .val (.int tm), .val (.ref aa), .val (.int (8 : Int32)), .val (.int (7 : Int32)), .val (.ref (w 6))] [(.int (7 : Int32)), (.ref aa)])
                refine Go.of (X14.aaload hx (j := (7 : Int32)) (v := (.ref (w 7))) (by rw [e14]; exact Aall.1) (State.isArrayOf_alike hZ.alike Aall.2.1) rfl Aall.2.2 (by rw [Nall]; decide) (show cl.slots[((7 : Int32)).toNatClampNeg]? = some (.ref (w 7)) from El7) (g := (mkF m 24 #[.val (.int mode), .val (.int tm), .val (.ref aa), .val (.int (8 : Int32)), .val (.int (7 : Int32)), .val (.ref (w 6))] [(.int (7 : Int32)), (.ref aa)])) rfl rfl (hb hby dc2_24)) ?_
                show Go p e below _ T14 (mkF m 25 #[.val (.int mode), .val (.int tm), .val (.ref aa), .val (.int (8 : Int32)), .val (.int (7 : Int32)), .val (.ref (w 6))] [(.ref (w 7))])
                refine Go.of (fun _ k => XS.astore X14.here hx rfl (hb hby dc2_25) rfl rfl (l' := #[.val (.int mode), .val (.int tm), .val (.ref aa), .val (.int (8 : Int32)), .val (.int (7 : Int32)), .val (.ref (w 7))]) rfl k) ?_
                show Go p e below _ T14 (mkF m 27 #[.val (.int mode), .val (.int tm), .val (.ref aa), .val (.int (8 : Int32)), .val (.int (7 : Int32)), .val (.ref (w 7))] [])
                refine Go.of (fun _ k => XS.aload X14.here hx rfl (hb hby dc2_27) rfl rfl k) ?_
                show Go p e below _ T14 (mkF m 29 #[.val (.int mode), .val (.int tm), .val (.ref aa), .val (.int (8 : Int32)), .val (.int (7 : Int32)), .val (.ref (w 7))] [(.ref (w 7))])
                obtain ⟨T16, X16, e16, st16⟩ := getF X14 hx hZ hown (host := "") (Or.inl (hw _ (List.mem_of_getElem? (i := 8) rfl))) Via.refl e14 G0_7 (g := (mkF m 29 #[.val (.int mode), .val (.int tm), .val (.ref aa), .val (.int (8 : Int32)), .val (.int (7 : Int32)), .val (.ref (w 7))] [(.ref (w 7))])) rfl rfl (hb hby dc2_29)
                refine Go.of st16 ?_
                show Go p e below _ T16 (mkF m 32 #[.val (.int mode), .val (.int tm), .val (.ref aa), .val (.int (8 : Int32)), .val (.int (7 : Int32)), .val (.ref (w 7))] [(.int (-1 : Int32))])
                refine Go.of (fun _ k => XS.iloadN X16.here hx rfl (hb hby dc2_32) rfl k) ?_
                show Go p e below _ T16 (mkF m 33 #[.val (.int mode), .val (.int tm), .val (.ref aa), .val (.int (8 : Int32)), .val (.int (7 : Int32)), .val (.ref (w 7))] [(.int tm), (.int (-1 : Int32))])
                by_cases hc33_17 : (-1 : Int32) = tm
                ·
                  refine Go.of (fun _ k => XS.icmpNo X16.here hx rfl (hb hby dc2_33) rfl (XT.ii_ne_f hc33_17) k) ?_
                  show Go p e below _ T16 (mkF m 36 #[.val (.int mode), .val (.int tm), .val (.ref aa), .val (.int (8 : Int32)), .val (.int (7 : Int32)), .val (.ref (w 7))] [])
                  refine Go.of (fun _ k => XS.aload X16.here hx rfl (hb hby dc2_36) rfl rfl k) ?_
                  show Go p e below _ T16 (mkF m 38 #[.val (.int mode), .val (.int tm), .val (.ref aa), .val (.int (8 : Int32)), .val (.int (7 : Int32)), .val (.ref (w 7))] [(.ref (w 7))])
                  exact own_retA X16 hx hlk hret rfl rfl (hb hby dc2_38) ⟨by rw [htm] at hr; rw [← hr, ofN, if_neg hc33_3, if_neg hc33_5, if_neg hc33_7, if_neg hc33_9, if_neg hc33_11, if_neg hc33_13, if_neg hc33_15], rfl, e16⟩ (by decide) (by decide)
                ·
                  refine Go.of (fun _ k => XS.icmpYes X16.here hx rfl (pc0 := 33) (pc' := 39) rfl (hb hby dc2_33) rfl (XT.ii_ne_t hc33_17) (by decide) (by decide) k) ?_
                  show Go p e below _ T16 (mkF m 39 #[.val (.int mode), .val (.int tm), .val (.ref aa), .val (.int (8 : Int32)), .val (.int (7 : Int32)), .val (.ref (w 7))] [])
                  refine Go.of (fun _ k => XS.iinc X16.here hx rfl (hb hby dc2_39) rfl (l' := #[.val (.int mode), .val (.int tm), .val (.ref aa), .val (.int (8 : Int32)), .val (.int (8 : Int32)), .val (.ref (w 7))]) rfl k) ?_
                  show Go p e below _ T16 (mkF m 42 #[.val (.int mode), .val (.int tm), .val (.ref aa), .val (.int (8 : Int32)), .val (.int (8 : Int32)), .val (.ref (w 7))] [])
                  refine Go.of (fun _ k => XS.goto X16.here hx rfl (pc0 := 42) (pc' := 15) rfl (hb hby dc2_42) (by decide) (by decide) k) ?_
                  show Go p e below _ T16 (mkF m 15 #[.val (.int mode), .val (.int tm), .val (.ref aa), .val (.int (8 : Int32)), .val (.int (8 : Int32)), .val (.ref (w 7))] [])
                  refine Go.of (fun _ k => XS.iload X16.here hx rfl (hb hby dc2_15) rfl k) ?_
                  show Go p e below _ T16 (mkF m 17 #[.val (.int mode), .val (.int tm), .val (.ref aa), .val (.int (8 : Int32)), .val (.int (8 : Int32)), .val (.ref (w 7))] [(.int (8 : Int32))])
                  refine Go.of (fun _ k => XS.iloadN X16.here hx rfl (hb hby dc2_17) rfl k) ?_
                  show Go p e below _ T16 (mkF m 18 #[.val (.int mode), .val (.int tm), .val (.ref aa), .val (.int (8 : Int32)), .val (.int (8 : Int32)), .val (.ref (w 7))] [(.int (8 : Int32)), (.int (8 : Int32))])
                  refine Go.of (fun _ k => XS.icmpYes X16.here hx rfl (pc0 := 18) (pc' := 45) rfl (hb hby dc2_18) rfl (XT.ii_ge_t (by decide)) (by decide) (by decide) k) ?_
                  show Go p e below _ T16 (mkF m 45 #[.val (.int mode), .val (.int tm), .val (.ref aa), .val (.int (8 : Int32)), .val (.int (8 : Int32)), .val (.ref (w 7))] [])
                  obtain ⟨T18, X18, e18, st18⟩ := getS2 X16 hx hZ hown (host := "") (Or.inl (hw _ (List.mem_of_getElem? (i := 17) rfl))) Via.refl e16 S7 (g := (mkF m 45 #[.val (.int mode), .val (.int tm), .val (.ref aa), .val (.int (8 : Int32)), .val (.int (8 : Int32)), .val (.ref (w 7))] [])) rfl (hb hby dc2_45)
                  refine Go.of st18 ?_
                  show Go p e below _ T18 (mkF m 48 #[.val (.int mode), .val (.int tm), .val (.ref aa), .val (.int (8 : Int32)), .val (.int (8 : Int32)), .val (.ref (w 7))] [(.ref (w 7))])
                  exact own_retA X18 hx hlk hret rfl rfl (hb hby dc2_48) ⟨by rw [htm] at hr; rw [← hr, ofN, if_neg hc33_3, if_neg hc33_5, if_neg hc33_7, if_neg hc33_9, if_neg hc33_11, if_neg hc33_13, if_neg hc33_15], rfl, e18⟩ (by decide) (by decide)
theorem pn_law : plainFor x = true := by first | (refine plainFor_of_name ?_; simp [plainName, overriddenIn, x]; done) | (refine plainFor_of_name ?_; decide +kernel) | decide +kernel
theorem ef_law (m : MethodId) (x0 : Int32) : entryFrame m #[(.int x0)] maxLocals = mkF m 0 #[.val (.int x0), .unset, .unset, .unset] [] := by first | (simp [entryFrame, mkF, argsToLocals, Value.category, maxLocals]; done) | rfl
set_option maxRecDepth 65536 in
set_option maxHeartbeats 40000000 in
theorem rm0 (l : Launch) (Z : State) (a0 : Array Value) (hw : ∀ d ∈ tables_1, d.before a0 Z = true) (ws : List Jvm.Cond) (w : Nat → Addr) (h0 : Heap) (n0 : Nat) (D : Wd Z h0 w) (x0 : Int32) :
    Ct l Z x code maxLocals ret ws room_1 #[(.int x0)] h0 (fun v h L => v = some (.int 1) ∧ Fr n0 L) := by
  refine own_met pn_law ?_
  intro p e s m below meth c s₁ X0 hx hby hml0 hret hown hnm hlk hZ e0
  have hml : c.maxLocals = 4 := hml0
  have N0 := Fr.nil n0
  have D' := D
  obtain ⟨S0, S1, S2, S3, S4, S5, S6, S7, Ex, Fo, G0_0, G0_1, G0_2, G0_3, G0_4, G0_5, G0_6, G0_7, ⟨aa, cl, Sall, Aall, Nall, El0, El1, El2, El3, El4, El5, El6, El7⟩⟩ := D'
  have hI : ∀ i j, i < 8 → j < 8 → i ≠ j → ¬ w i = w j := fun i j hi hj hn => own_inj Fo hi hj (own_ofNat hi hj hn)
  refine Go.cast (ef_law m x0) ?_
  show Go p e below _ s₁ (mkF m 0 #[.val (.int x0), .unset, .unset, .unset] [])
  refine Go.of (fun _ k => XS.iloadN X0.here hx rfl (hb hby at_0) rfl k) ?_
  show Go p e below _ s₁ (mkF m 1 #[.val (.int x0), .unset, .unset, .unset] [(.int x0)])
  obtain ⟨T1, X1, e1, st1⟩ := own_pure rfl rfl (own_callSQ X0 hx hZ (y := (⟨"com/example/upright_meter/uprightmeter/Kind", "ofMode", "(I)Lcom/example/upright_meter/uprightmeter/Kind;"⟩ : MethodName)) hown (hw _ (List.mem_of_getElem? (i := 0) rfl)) (hw _ (List.mem_of_getElem? (i := 1) rfl)) (hw _ (List.mem_of_getElem? (i := 2) rfl)) (hw _ (List.mem_of_getElem? (i := 3) rfl)) (by decide) (c2 l Z a0 hw w h0 D x0 _ rfl) (by decide) 0 (by decide) (by decide) (by decide) e0 (g := (mkF m 1 #[.val (.int x0), .unset, .unset, .unset] [(.int x0)])) rfl (by rw [hml]; rfl) [(.int x0)] [] (lenOf (by decide +kernel : parseMethodDescriptor "(I)Lcom/example/upright_meter/uprightmeter/Kind;" = some ⟨[.int], some (.object "com/example/upright_meter/uprightmeter/Kind")⟩) rfl) rfl (by show 2 * 0 + _ ≤ _; exact Nat.le_of_eq rfl) rfl (hb hby at_1))
  refine Go.of st1 ?_
  show Go p e below _ T1 (mkF m 4 #[.val (.int x0), .unset, .unset, .unset] [(.ref (w (ofN (x0 &&& (61440 : Int32)))))])
  refine Go.of (fun _ k => XS.astoreN X1.here hx rfl (hb hby at_4) rfl rfl (l' := #[.val (.int x0), .val (.ref (w (ofN (x0 &&& (61440 : Int32))))), .unset, .unset]) rfl k) ?_
  show Go p e below _ T1 (mkF m 5 #[.val (.int x0), .val (.ref (w (ofN (x0 &&& (61440 : Int32))))), .unset, .unset] [])
  refine Go.of (fun _ k => XS.iloadN X1.here hx rfl (hb hby at_5) rfl k) ?_
  show Go p e below _ T1 (mkF m 6 #[.val (.int x0), .val (.ref (w (ofN (x0 &&& (61440 : Int32))))), .unset, .unset] [(.int x0)])
  refine Go.of (fun _ k => X1.ldcI hx hown (mvT hZ (hw _ (List.mem_of_getElem? (i := 18) rfl))) rfl (hb hby at_6) k) ?_
  show Go p e below _ T1 (mkF m 8 #[.val (.int x0), .val (.ref (w (ofN (x0 &&& (61440 : Int32))))), .unset, .unset] [(.int (61440 : Int32)), (.int x0)])
  refine Go.of (fun _ k => XS.iand X1.here hx rfl (hb hby at_8) rfl k) ?_
  show Go p e below _ T1 (mkF m 9 #[.val (.int x0), .val (.ref (w (ofN (x0 &&& (61440 : Int32))))), .unset, .unset] [(.int (x0 &&& (61440 : Int32)))])
  generalize htm : (x0 &&& (61440 : Int32)) = tm
  show Go p e below _ T1 (mkF m 9 #[.val (.int x0), .val (.ref (w (ofN tm))), .unset, .unset] [(.int tm)])
  refine Go.of (fun _ k => XS.istoreN X1.here hx rfl (hb hby at_9) rfl (l' := #[.val (.int x0), .val (.ref (w (ofN tm))), .val (.int tm), .unset]) rfl k) ?_
  show Go p e below _ T1 (mkF m 10 #[.val (.int x0), .val (.ref (w (ofN tm))), .val (.int tm), .unset] [])
  refine Go.of (fun _ k => XS.iloadN X1.here hx rfl (hb hby at_10) rfl k) ?_
  show Go p e below _ T1 (mkF m 11 #[.val (.int x0), .val (.ref (w (ofN tm))), .val (.int tm), .unset] [(.int tm)])
  refine Go.of (fun _ k => X1.ldcI hx hown (mvT hZ (hw _ (List.mem_of_getElem? (i := 19) rfl))) rfl (hb hby at_11) k) ?_
  show Go p e below _ T1 (mkF m 13 #[.val (.int x0), .val (.ref (w (ofN tm))), .val (.int tm), .unset] [(.int (32768 : Int32)), (.int tm)])
  by_cases hc13_2 : tm = (32768 : Int32)
  ·
    refine Go.of (fun _ k => XS.icmpYes X1.here hx rfl (pc0 := 13) (pc' := 33) rfl (hb hby at_13) rfl (XT.ii_eq_t hc13_2) (by decide) (by decide) k) ?_
    show Go p e below _ T1 (mkF m 33 #[.val (.int x0), .val (.ref (w (ofN tm))), .val (.int tm), .unset] [])
    refine Go.of (fun _ k => XS.iconst X1.here hx rfl (hb hby at_33) k) ?_
    show Go p e below _ T1 (mkF m 34 #[.val (.int x0), .val (.ref (w (ofN tm))), .val (.int tm), .unset] [(.int (0 : Int32))])
    refine Go.of (fun _ k => XS.istoreN X1.here hx rfl (hb hby at_34) rfl (l' := #[.val (.int x0), .val (.ref (w (ofN tm))), .val (.int tm), .val (.int (0 : Int32))]) rfl k) ?_
    show Go p e below _ T1 (mkF m 35 #[.val (.int x0), .val (.ref (w (ofN tm))), .val (.int tm), .val (.int (0 : Int32))] [])
    refine Go.of (fun _ k => XS.aloadN X1.here hx rfl (hb hby at_35) rfl rfl k) ?_
    show Go p e below _ T1 (mkF m 36 #[.val (.int x0), .val (.ref (w (ofN tm))), .val (.int tm), .val (.int (0 : Int32))] [(.ref (w (ofN tm)))])
    obtain ⟨T3, X3, e3, st3⟩ := own_pure rfl rfl (own_callVQ X1 hx hZ (y := (⟨"com/example/upright_meter/uprightmeter/Kind", "isSpecial", "()Z"⟩ : MethodName)) hown (hw _ (List.mem_of_getElem? (i := 21) rfl)) (hw _ (List.mem_of_getElem? (i := 22) rfl)) (hw _ (List.mem_of_getElem? (i := 24) rfl)) (hw _ (List.mem_of_getElem? (i := 24) rfl)) (hw _ (List.mem_of_getElem? (i := 23) rfl)) (hw _ (List.mem_of_getElem? (i := 25) rfl)) (hw _ (List.mem_of_getElem? (i := 2) rfl)) (by decide) (c1 l Z a0 hw w h0 D (w (ofN tm)) (0 : Int32) (by rw [hc13_2, (by decide : ofN (32768 : Int32) = 0)]; simp [spc])) (by decide) 0 (by decide) (by decide) (by decide) e1 (Ex (ofN tm) (ofN_lt _)) (g := (mkF m 36 #[.val (.int x0), .val (.ref (w (ofN tm))), .val (.int tm), .val (.int (0 : Int32))] [(.ref (w (ofN tm)))])) rfl (by rw [hml]; rfl) [] [] (lenOf (by decide +kernel : parseMethodDescriptor "()Z" = some ⟨[], some .boolean⟩) rfl) rfl (by show 2 * 0 + _ ≤ _; exact Nat.le_of_eq rfl) rfl (hb hby at_36))
    refine Go.of st3 ?_
    show Go p e below _ T3 (mkF m 39 #[.val (.int x0), .val (.ref (w (ofN tm))), .val (.int tm), .val (.int (0 : Int32))] [(.int (0 : Int32))])
    refine Go.of (fun _ k => XS.iloadN X3.here hx rfl (hb hby at_39) rfl k) ?_
    show Go p e below _ T3 (mkF m 40 #[.val (.int x0), .val (.ref (w (ofN tm))), .val (.int tm), .val (.int (0 : Int32))] [(.int (0 : Int32)), (.int (0 : Int32))])
    refine Go.of (fun _ k => XS.icmpNo X3.here hx rfl (hb hby at_40) rfl (XT.ii_ne_f (by decide)) k) ?_
    show Go p e below _ T3 (mkF m 43 #[.val (.int x0), .val (.ref (w (ofN tm))), .val (.int tm), .val (.int (0 : Int32))] [])
    refine Go.of (fun _ k => XS.iconst X3.here hx rfl (hb hby at_43) k) ?_
    show Go p e below _ T3 (mkF m 44 #[.val (.int x0), .val (.ref (w (ofN tm))), .val (.int tm), .val (.int (0 : Int32))] [(.int (1 : Int32))])
    refine Go.of (fun _ k => XS.goto X3.here hx rfl (pc0 := 44) (pc' := 48) rfl (hb hby at_44) (by decide) (by decide) k) ?_
    show Go p e below _ T3 (mkF m 48 #[.val (.int x0), .val (.ref (w (ofN tm))), .val (.int tm), .val (.int (0 : Int32))] [(.int (1 : Int32))])
    exact own_retZ (z' := (1 : Int32)) X3 hx hlk hret (hb hby at_48) rfl ⟨rfl, N0⟩ (by decide) (by decide)
  ·
    refine Go.of (fun _ k => XS.icmpNo X1.here hx rfl (hb hby at_13) rfl (XT.ii_eq_f hc13_2) k) ?_
    show Go p e below _ T1 (mkF m 16 #[.val (.int x0), .val (.ref (w (ofN tm))), .val (.int tm), .unset] [])
    refine Go.of (fun _ k => XS.iloadN X1.here hx rfl (hb hby at_16) rfl k) ?_
    show Go p e below _ T1 (mkF m 17 #[.val (.int x0), .val (.ref (w (ofN tm))), .val (.int tm), .unset] [(.int tm)])
    refine Go.of (fun _ k => XS.sipush X1.here hx rfl (hb hby at_17) k) ?_
    show Go p e below _ T1 (mkF m 20 #[.val (.int x0), .val (.ref (w (ofN tm))), .val (.int tm), .unset] [(.int (16384 : Int32)), (.int tm)])
    by_cases hc20_4 : tm = (16384 : Int32)
    ·
      refine Go.of (fun _ k => XS.icmpYes X1.here hx rfl (pc0 := 20) (pc' := 33) rfl (hb hby at_20) rfl (XT.ii_eq_t hc20_4) (by decide) (by decide) k) ?_
      show Go p e below _ T1 (mkF m 33 #[.val (.int x0), .val (.ref (w (ofN tm))), .val (.int tm), .unset] [])
      refine Go.of (fun _ k => XS.iconst X1.here hx rfl (hb hby at_33) k) ?_
      show Go p e below _ T1 (mkF m 34 #[.val (.int x0), .val (.ref (w (ofN tm))), .val (.int tm), .unset] [(.int (0 : Int32))])
      refine Go.of (fun _ k => XS.istoreN X1.here hx rfl (hb hby at_34) rfl (l' := #[.val (.int x0), .val (.ref (w (ofN tm))), .val (.int tm), .val (.int (0 : Int32))]) rfl k) ?_
      show Go p e below _ T1 (mkF m 35 #[.val (.int x0), .val (.ref (w (ofN tm))), .val (.int tm), .val (.int (0 : Int32))] [])
      refine Go.of (fun _ k => XS.aloadN X1.here hx rfl (hb hby at_35) rfl rfl k) ?_
      show Go p e below _ T1 (mkF m 36 #[.val (.int x0), .val (.ref (w (ofN tm))), .val (.int tm), .val (.int (0 : Int32))] [(.ref (w (ofN tm)))])
      obtain ⟨T5, X5, e5, st5⟩ := own_pure rfl rfl (own_callVQ X1 hx hZ (y := (⟨"com/example/upright_meter/uprightmeter/Kind", "isSpecial", "()Z"⟩ : MethodName)) hown (hw _ (List.mem_of_getElem? (i := 21) rfl)) (hw _ (List.mem_of_getElem? (i := 22) rfl)) (hw _ (List.mem_of_getElem? (i := 24) rfl)) (hw _ (List.mem_of_getElem? (i := 24) rfl)) (hw _ (List.mem_of_getElem? (i := 23) rfl)) (hw _ (List.mem_of_getElem? (i := 25) rfl)) (hw _ (List.mem_of_getElem? (i := 2) rfl)) (by decide) (c1 l Z a0 hw w h0 D (w (ofN tm)) (0 : Int32) (by rw [hc20_4, (by decide : ofN (16384 : Int32) = 1)]; simp [spc, (hI 1 0 (by decide) (by decide) (by decide))])) (by decide) 0 (by decide) (by decide) (by decide) e1 (Ex (ofN tm) (ofN_lt _)) (g := (mkF m 36 #[.val (.int x0), .val (.ref (w (ofN tm))), .val (.int tm), .val (.int (0 : Int32))] [(.ref (w (ofN tm)))])) rfl (by rw [hml]; rfl) [] [] (lenOf (by decide +kernel : parseMethodDescriptor "()Z" = some ⟨[], some .boolean⟩) rfl) rfl (by show 2 * 0 + _ ≤ _; exact Nat.le_of_eq rfl) rfl (hb hby at_36))
      refine Go.of st5 ?_
      show Go p e below _ T5 (mkF m 39 #[.val (.int x0), .val (.ref (w (ofN tm))), .val (.int tm), .val (.int (0 : Int32))] [(.int (0 : Int32))])
      refine Go.of (fun _ k => XS.iloadN X5.here hx rfl (hb hby at_39) rfl k) ?_
      show Go p e below _ T5 (mkF m 40 #[.val (.int x0), .val (.ref (w (ofN tm))), .val (.int tm), .val (.int (0 : Int32))] [(.int (0 : Int32)), (.int (0 : Int32))])
      refine Go.of (fun _ k => XS.icmpNo X5.here hx rfl (hb hby at_40) rfl (XT.ii_ne_f (by decide)) k) ?_
      show Go p e below _ T5 (mkF m 43 #[.val (.int x0), .val (.ref (w (ofN tm))), .val (.int tm), .val (.int (0 : Int32))] [])
      refine Go.of (fun _ k => XS.iconst X5.here hx rfl (hb hby at_43) k) ?_
      show Go p e below _ T5 (mkF m 44 #[.val (.int x0), .val (.ref (w (ofN tm))), .val (.int tm), .val (.int (0 : Int32))] [(.int (1 : Int32))])
      refine Go.of (fun _ k => XS.goto X5.here hx rfl (pc0 := 44) (pc' := 48) rfl (hb hby at_44) (by decide) (by decide) k) ?_
      show Go p e below _ T5 (mkF m 48 #[.val (.int x0), .val (.ref (w (ofN tm))), .val (.int tm), .val (.int (0 : Int32))] [(.int (1 : Int32))])
      exact own_retZ (z' := (1 : Int32)) X5 hx hlk hret (hb hby at_48) rfl ⟨rfl, N0⟩ (by decide) (by decide)
    ·
      refine Go.of (fun _ k => XS.icmpNo X1.here hx rfl (hb hby at_20) rfl (XT.ii_eq_f hc20_4) k) ?_
      show Go p e below _ T1 (mkF m 23 #[.val (.int x0), .val (.ref (w (ofN tm))), .val (.int tm), .unset] [])
      refine Go.of (fun _ k => XS.iloadN X1.here hx rfl (hb hby at_23) rfl k) ?_
      show Go p e below _ T1 (mkF m 24 #[.val (.int x0), .val (.ref (w (ofN tm))), .val (.int tm), .unset] [(.int tm)])
      refine Go.of (fun _ k => X1.ldcI hx hown (mvT hZ (hw _ (List.mem_of_getElem? (i := 20) rfl))) rfl (hb hby at_24) k) ?_
      show Go p e below _ T1 (mkF m 26 #[.val (.int x0), .val (.ref (w (ofN tm))), .val (.int tm), .unset] [(.int (40960 : Int32)), (.int tm)])
      by_cases hc26_6 : tm = (40960 : Int32)
      ·
        refine Go.of (fun _ k => XS.icmpYes X1.here hx rfl (pc0 := 26) (pc' := 33) rfl (hb hby at_26) rfl (XT.ii_eq_t hc26_6) (by decide) (by decide) k) ?_
        show Go p e below _ T1 (mkF m 33 #[.val (.int x0), .val (.ref (w (ofN tm))), .val (.int tm), .unset] [])
        refine Go.of (fun _ k => XS.iconst X1.here hx rfl (hb hby at_33) k) ?_
        show Go p e below _ T1 (mkF m 34 #[.val (.int x0), .val (.ref (w (ofN tm))), .val (.int tm), .unset] [(.int (0 : Int32))])
        refine Go.of (fun _ k => XS.istoreN X1.here hx rfl (hb hby at_34) rfl (l' := #[.val (.int x0), .val (.ref (w (ofN tm))), .val (.int tm), .val (.int (0 : Int32))]) rfl k) ?_
        show Go p e below _ T1 (mkF m 35 #[.val (.int x0), .val (.ref (w (ofN tm))), .val (.int tm), .val (.int (0 : Int32))] [])
        refine Go.of (fun _ k => XS.aloadN X1.here hx rfl (hb hby at_35) rfl rfl k) ?_
        show Go p e below _ T1 (mkF m 36 #[.val (.int x0), .val (.ref (w (ofN tm))), .val (.int tm), .val (.int (0 : Int32))] [(.ref (w (ofN tm)))])
        obtain ⟨T7, X7, e7, st7⟩ := own_pure rfl rfl (own_callVQ X1 hx hZ (y := (⟨"com/example/upright_meter/uprightmeter/Kind", "isSpecial", "()Z"⟩ : MethodName)) hown (hw _ (List.mem_of_getElem? (i := 21) rfl)) (hw _ (List.mem_of_getElem? (i := 22) rfl)) (hw _ (List.mem_of_getElem? (i := 24) rfl)) (hw _ (List.mem_of_getElem? (i := 24) rfl)) (hw _ (List.mem_of_getElem? (i := 23) rfl)) (hw _ (List.mem_of_getElem? (i := 25) rfl)) (hw _ (List.mem_of_getElem? (i := 2) rfl)) (by decide) (c1 l Z a0 hw w h0 D (w (ofN tm)) (0 : Int32) (by rw [hc26_6, (by decide : ofN (40960 : Int32) = 2)]; simp [spc, (hI 2 0 (by decide) (by decide) (by decide)), (hI 2 1 (by decide) (by decide) (by decide))])) (by decide) 0 (by decide) (by decide) (by decide) e1 (Ex (ofN tm) (ofN_lt _)) (g := (mkF m 36 #[.val (.int x0), .val (.ref (w (ofN tm))), .val (.int tm), .val (.int (0 : Int32))] [(.ref (w (ofN tm)))])) rfl (by rw [hml]; rfl) [] [] (lenOf (by decide +kernel : parseMethodDescriptor "()Z" = some ⟨[], some .boolean⟩) rfl) rfl (by show 2 * 0 + _ ≤ _; exact Nat.le_of_eq rfl) rfl (hb hby at_36))
        refine Go.of st7 ?_
        show Go p e below _ T7 (mkF m 39 #[.val (.int x0), .val (.ref (w (ofN tm))), .val (.int tm), .val (.int (0 : Int32))] [(.int (0 : Int32))])
        refine Go.of (fun _ k => XS.iloadN X7.here hx rfl (hb hby at_39) rfl k) ?_
        show Go p e below _ T7 (mkF m 40 #[.val (.int x0), .val (.ref (w (ofN tm))), .val (.int tm), .val (.int (0 : Int32))] [(.int (0 : Int32)), (.int (0 : Int32))])
        refine Go.of (fun _ k => XS.icmpNo X7.here hx rfl (hb hby at_40) rfl (XT.ii_ne_f (by decide)) k) ?_
        show Go p e below _ T7 (mkF m 43 #[.val (.int x0), .val (.ref (w (ofN tm))), .val (.int tm), .val (.int (0 : Int32))] [])
        refine Go.of (fun _ k => XS.iconst X7.here hx rfl (hb hby at_43) k) ?_
        show Go p e below _ T7 (mkF m 44 #[.val (.int x0), .val (.ref (w (ofN tm))), .val (.int tm), .val (.int (0 : Int32))] [(.int (1 : Int32))])
        refine Go.of (fun _ k => XS.goto X7.here hx rfl (pc0 := 44) (pc' := 48) rfl (hb hby at_44) (by decide) (by decide) k) ?_
        show Go p e below _ T7 (mkF m 48 #[.val (.int x0), .val (.ref (w (ofN tm))), .val (.int tm), .val (.int (0 : Int32))] [(.int (1 : Int32))])
        exact own_retZ (z' := (1 : Int32)) X7 hx hlk hret (hb hby at_48) rfl ⟨rfl, N0⟩ (by decide) (by decide)
      ·
        refine Go.of (fun _ k => XS.icmpNo X1.here hx rfl (hb hby at_26) rfl (XT.ii_eq_f hc26_6) k) ?_
        show Go p e below _ T1 (mkF m 29 #[.val (.int x0), .val (.ref (w (ofN tm))), .val (.int tm), .unset] [])
        refine Go.of (fun _ k => XS.iconst X1.here hx rfl (hb hby at_29) k) ?_
        show Go p e below _ T1 (mkF m 30 #[.val (.int x0), .val (.ref (w (ofN tm))), .val (.int tm), .unset] [(.int (1 : Int32))])
        refine Go.of (fun _ k => XS.goto X1.here hx rfl (pc0 := 30) (pc' := 34) rfl (hb hby at_30) (by decide) (by decide) k) ?_
        show Go p e below _ T1 (mkF m 34 #[.val (.int x0), .val (.ref (w (ofN tm))), .val (.int tm), .unset] [(.int (1 : Int32))])
        refine Go.of (fun _ k => XS.istoreN X1.here hx rfl (hb hby at_34) rfl (l' := #[.val (.int x0), .val (.ref (w (ofN tm))), .val (.int tm), .val (.int (1 : Int32))]) rfl k) ?_
        show Go p e below _ T1 (mkF m 35 #[.val (.int x0), .val (.ref (w (ofN tm))), .val (.int tm), .val (.int (1 : Int32))] [])
        refine Go.of (fun _ k => XS.aloadN X1.here hx rfl (hb hby at_35) rfl rfl k) ?_
        show Go p e below _ T1 (mkF m 36 #[.val (.int x0), .val (.ref (w (ofN tm))), .val (.int tm), .val (.int (1 : Int32))] [(.ref (w (ofN tm)))])
        obtain ⟨T8, X8, e8, st8⟩ := own_pure rfl rfl (own_callVQ X1 hx hZ (y := (⟨"com/example/upright_meter/uprightmeter/Kind", "isSpecial", "()Z"⟩ : MethodName)) hown (hw _ (List.mem_of_getElem? (i := 21) rfl)) (hw _ (List.mem_of_getElem? (i := 22) rfl)) (hw _ (List.mem_of_getElem? (i := 24) rfl)) (hw _ (List.mem_of_getElem? (i := 24) rfl)) (hw _ (List.mem_of_getElem? (i := 23) rfl)) (hw _ (List.mem_of_getElem? (i := 25) rfl)) (hw _ (List.mem_of_getElem? (i := 2) rfl)) (by decide) (c1 l Z a0 hw w h0 D (w (ofN tm)) (1 : Int32) (spc_no hI (ofN_no hc13_2 hc20_4 hc26_6))) (by decide) 0 (by decide) (by decide) (by decide) e1 (Ex (ofN tm) (ofN_lt _)) (g := (mkF m 36 #[.val (.int x0), .val (.ref (w (ofN tm))), .val (.int tm), .val (.int (1 : Int32))] [(.ref (w (ofN tm)))])) rfl (by rw [hml]; rfl) [] [] (lenOf (by decide +kernel : parseMethodDescriptor "()Z" = some ⟨[], some .boolean⟩) rfl) rfl (by show 2 * 0 + _ ≤ _; exact Nat.le_of_eq rfl) rfl (hb hby at_36))
        refine Go.of st8 ?_
        show Go p e below _ T8 (mkF m 39 #[.val (.int x0), .val (.ref (w (ofN tm))), .val (.int tm), .val (.int (1 : Int32))] [(.int (1 : Int32))])
        refine Go.of (fun _ k => XS.iloadN X8.here hx rfl (hb hby at_39) rfl k) ?_
        show Go p e below _ T8 (mkF m 40 #[.val (.int x0), .val (.ref (w (ofN tm))), .val (.int tm), .val (.int (1 : Int32))] [(.int (1 : Int32)), (.int (1 : Int32))])
        refine Go.of (fun _ k => XS.icmpNo X8.here hx rfl (hb hby at_40) rfl (XT.ii_ne_f (by decide)) k) ?_
        show Go p e below _ T8 (mkF m 43 #[.val (.int x0), .val (.ref (w (ofN tm))), .val (.int tm), .val (.int (1 : Int32))] [])
        refine Go.of (fun _ k => XS.iconst X8.here hx rfl (hb hby at_43) k) ?_
        show Go p e below _ T8 (mkF m 44 #[.val (.int x0), .val (.ref (w (ofN tm))), .val (.int tm), .val (.int (1 : Int32))] [(.int (1 : Int32))])
        refine Go.of (fun _ k => XS.goto X8.here hx rfl (pc0 := 44) (pc' := 48) rfl (hb hby at_44) (by decide) (by decide) k) ?_
        show Go p e below _ T8 (mkF m 48 #[.val (.int x0), .val (.ref (w (ofN tm))), .val (.int tm), .val (.int (1 : Int32))] [(.int (1 : Int32))])
        exact own_retZ (z' := (1 : Int32)) X8 hx hlk hret (hb hby at_48) rfl ⟨rfl, N0⟩ (by decide) (by decide)
set_option maxRecDepth 65536 in
set_option maxHeartbeats 40000000 in
theorem comes_1 {Post : Tables → Env → Array Value → State → Outcome → State → Prop} (hpost : ∀ tb e args s v u, (limb_1_1.after args s (.returned v) u = true ∧ limb_1_2.after args s (.returned v) u = true ∧ True) → FrameEnd s (.returned v) u (Jvm.fieldLocs frame_1_writes args s ++ Jvm.arrayLocs frame_1_arrays args s ++ Jvm.staticLocs frame_1_statics s) 0 0 → Post tb e args s (.returned v) u) :
    ArmFor flags0 classFile x code maxLocals ret World_1 tables_1 room_1 Calls_1 rest_1 Pre_1 Post := by
  intro l hfl _ _ p e ha hc hk s m args below hf hA hF happ hP
  obtain ⟨hcalls, hrest, hpre⟩ := hP
  obtain ⟨-, -, -, hnamed, -, -, -, hat⟩ := (Spec.applies_iff hf).mp happ
  obtain ⟨hg, hn⟩ := and_e (Cond.before_iff.mp (show (Jvm.Cond.and given_1 narrow_1).before args s = true from hpre))
  obtain ⟨g0, g1⟩ := and_e hg
  obtain ⟨x0, rfl⟩ : ∃ x0 : Value, args = #[x0] := by
    have hs : args.size = 1 := by simpa [Cond.value, given_1] using g0
    obtain ⟨L⟩ := args
    match L, hs with
    | [x0], _ => exact ⟨x0, rfl⟩
  have hw := fun d (hd : d ∈ tables_1) => atoms_spec (ws := Jvm.Cond.code x code maxLocals ret :: tables_1) hat d (List.mem_cons_of_mem _ hd)
  obtain ⟨i0, z0⟩ := is_v g1
  obtain rfl : x0 = (.int i0) := Option.some.inj z0
  obtain ⟨q0, r0⟩ := and_e hn
  obtain ⟨q1, r1⟩ := and_e r0
  obtain ⟨q2, r2⟩ := and_e r1
  obtain ⟨q3, r3⟩ := and_e r2
  obtain ⟨q4, r4⟩ := and_e r3
  obtain ⟨q5, r5⟩ := and_e r4
  obtain ⟨q6, r6⟩ := and_e r5
  obtain ⟨q7, r7⟩ := and_e r6
  obtain ⟨q8, r8⟩ := and_e r7
  obtain ⟨q9, r9⟩ := and_e r8
  obtain ⟨q10, r10⟩ := and_e r9
  obtain ⟨q11, r11⟩ := and_e r10
  obtain ⟨q12, r12⟩ := and_e r11
  obtain ⟨q13, r13⟩ := and_e r12
  obtain ⟨q14, r14⟩ := and_e r13
  obtain ⟨q15, r15⟩ := and_e r14
  obtain ⟨q16, r16⟩ := and_e r15
  obtain ⟨q17, r17⟩ := and_e r16
  obtain ⟨q18, r18⟩ := and_e r17
  obtain ⟨q19, r19⟩ := and_e r18
  obtain ⟨q20, r20⟩ := and_e r19
  obtain ⟨q21, r21⟩ := and_e r20
  obtain ⟨q22, r22⟩ := and_e r21
  obtain ⟨q23, r23⟩ := and_e r22
  obtain ⟨q24, r24⟩ := and_e r23
  obtain ⟨q25, r25⟩ := and_e r24
  obtain ⟨q26, r26⟩ := and_e r25
  obtain ⟨q27, r27⟩ := and_e r26
  obtain ⟨q28, r28⟩ := and_e r27
  obtain ⟨q29, r29⟩ := and_e r28
  obtain ⟨q30, r30⟩ := and_e r29
  obtain ⟨q31, r31⟩ := and_e r30
  obtain ⟨q32, r32⟩ := and_e r31
  have q33 := r32
  obtain ⟨w0, v0⟩ := exa_v q2
  have E0 := Exa.start v0 q2
  have S0 := Sta.start v0 (Or.inr ⟨(hw _ (List.mem_of_getElem? (i := 2) rfl)), (hw _ (List.mem_of_getElem? (i := 7) rfl))⟩)
  have F0 := own_fld v0 q27
  have G0_0 := own_fld v0 q4
  obtain ⟨w1, v1⟩ := exa_v q5
  have E1 := Exa.start v1 q5
  have S1 := Sta.start v1 (Or.inr ⟨(hw _ (List.mem_of_getElem? (i := 2) rfl)), (hw _ (List.mem_of_getElem? (i := 10) rfl))⟩)
  have F1 := own_fld v1 q28
  have G0_1 := own_fld v1 q7
  obtain ⟨w2, v2⟩ := exa_v q8
  have E2 := Exa.start v2 q8
  have S2 := Sta.start v2 (Or.inr ⟨(hw _ (List.mem_of_getElem? (i := 2) rfl)), (hw _ (List.mem_of_getElem? (i := 11) rfl))⟩)
  have F2 := own_fld v2 q29
  have G0_2 := own_fld v2 q10
  obtain ⟨w3, v3⟩ := exa_v q11
  have E3 := Exa.start v3 q11
  have S3 := Sta.start v3 (Or.inr ⟨(hw _ (List.mem_of_getElem? (i := 2) rfl)), (hw _ (List.mem_of_getElem? (i := 12) rfl))⟩)
  have F3 := own_fld v3 q31
  have G0_3 := own_fld v3 q13
  obtain ⟨w4, v4⟩ := exa_v q14
  have E4 := Exa.start v4 q14
  have S4 := Sta.start v4 (Or.inr ⟨(hw _ (List.mem_of_getElem? (i := 2) rfl)), (hw _ (List.mem_of_getElem? (i := 13) rfl))⟩)
  have F4 := own_fld v4 q30
  have G0_4 := own_fld v4 q16
  obtain ⟨w5, v5⟩ := exa_v q17
  have E5 := Exa.start v5 q17
  have S5 := Sta.start v5 (Or.inr ⟨(hw _ (List.mem_of_getElem? (i := 2) rfl)), (hw _ (List.mem_of_getElem? (i := 14) rfl))⟩)
  have F5 := own_fld v5 q33
  have G0_5 := own_fld v5 q19
  obtain ⟨w6, v6⟩ := exa_v q20
  have E6 := Exa.start v6 q20
  have S6 := Sta.start v6 (Or.inr ⟨(hw _ (List.mem_of_getElem? (i := 2) rfl)), (hw _ (List.mem_of_getElem? (i := 15) rfl))⟩)
  have F6 := own_fld v6 q32
  have G0_6 := own_fld v6 q22
  obtain ⟨w7, v7⟩ := exa_v q23
  have E7 := Exa.start v7 q23
  have S7 := Sta.start v7 (Or.inr ⟨(hw _ (List.mem_of_getElem? (i := 2) rfl)), (hw _ (List.mem_of_getElem? (i := 16) rfl))⟩)
  have F7 := own_fld v7 q26
  have G0_7 := own_fld v7 q25
  obtain ⟨aa, va⟩ := arr_v q0
  obtain ⟨cl, Aall⟩ := Arr.start va q0
  have Sall := Sta.start va (Or.inr ⟨(hw _ (List.mem_of_getElem? (i := 2) rfl)), (hw _ (List.mem_of_getElem? (i := 6) rfl))⟩)
  have Nall : cl.slots.size = 8 := own_len va Aall q1 (by decide)
  have El0 := own_elem (n := 0) va Aall v0 q3 (by decide) (by decide)
  have El1 := own_elem (n := 1) va Aall v1 q6 (by decide) (by decide)
  have El2 := own_elem (n := 2) va Aall v2 q9 (by decide) (by decide)
  have El3 := own_elem (n := 3) va Aall v3 q12 (by decide) (by decide)
  have El4 := own_elem (n := 4) va Aall v4 q15 (by decide) (by decide)
  have El5 := own_elem (n := 5) va Aall v5 q18 (by decide) (by decide)
  have El6 := own_elem (n := 6) va Aall v6 q21 (by decide) (by decide)
  have El7 := own_elem (n := 7) va Aall v7 q24 (by decide) (by decide)
  have D : Wd s s.heap (fun | 0 => w0 | 1 => w1 | 2 => w2 | 3 => w3 | 4 => w4 | 5 => w5 | 6 => w6 | _ => w7) := ⟨S0, S1, S2, S3, S4, S5, S6, S7, (fun i hi => match i, hi with | 0, _ => E0 | 1, _ => E1 | 2, _ => E2 | 3, _ => E3 | 4, _ => E4 | 5, _ => E5 | 6, _ => E6 | 7, _ => E7 | (k + 8), h => absurd h (by omega)), (fun i hi => match i, hi with | 0, _ => F0 | 1, _ => F1 | 2, _ => F2 | 3, _ => F3 | 4, _ => F4 | 5, _ => F5 | 6, _ => F6 | 7, _ => F7 | (k + 8), h => absurd h (by omega)), G0_0, G0_1, G0_2, G0_3, G0_4, G0_5, G0_6, G0_7, (⟨aa, cl, Sall, Aall, Nall, El0, El1, El2, El3, El4, El5, El6, El7⟩)⟩
  obtain ⟨n, o, h1, h2, h3, _, L, rfl, ⟨rfl, N⟩, hq⟩ := rm0 l s _ hw tables_1 (fun | 0 => w0 | 1 => w1 | 2 => w2 | 3 => w3 | 4 => w4 | 5 => w5 | 6 => w6 | _ => w7) s.heap s.heap.size D i0 p e ha hc hk s m _ below hf ((Spec.applies_iff_loose hf).mp happ).1 ⟨rfl, State.Warmed39.refl s, rfl⟩ trivial
  refine ⟨n, _, h1, h2, h3, hpost _ _ _ _ _ _ ⟨Cond.after_iff.mpr rfl, Cond.after_iff.mpr (eq_i res_at (Term.int_eval (1)) rfl), trivial⟩ ⟨hq.1, hq.2.1, (hq.2.2.sift fun y hy => Or.inr (N y hy)).mono (by decide) (by decide)⟩⟩
theorem main_1_1 : Claimed_1_1 := comes_1 fun _ _ _ _ _ _ h hF => ⟨h.1, hF⟩
theorem main_1_2 : Claimed_1_2 := comes_1 fun _ _ _ _ _ _ h hF => ⟨h.2.1, hF⟩
end Jvm.Pilot.@@N@@
namespace Jvm.Pilot.@@N@@
open Jvm Jvm.ClassFile Sem Op Lib Jvm.Free Jvm.Stand Jvm.Pilot.@@N@@.Jvm.D
/-! MADE BY PROGRAM (witnessworld.py) out of the Statement's table words and the real class files: 11 classes; the members and pool entries that the words name. The judged class is class 1, her method 1. -/
namespace start1
open Jvm.ClassFile
def u (s : String) : CpInfo := .utf8 (stringToUtf16 s)
/-- a pool by its gaps: so many unusable entries, then the entry; so many at the end -/
def gap : Nat → List CpInfo → List CpInfo
  | 0, r => r
  | n + 1, r => .unusable :: gap n r
def poolList (es : List (Nat × CpInfo)) (last : Nat) : List CpInfo := es.foldr (fun e r => gap e.1 (e.2 :: r)) (gap last [])
def pool (es : List (Nat × CpInfo)) (last : Nat) : Array CpInfo := ⟨poolList es last⟩
def fileOf (pool : Array CpInfo) (this : Nat) (attrs : Array Attribute := #[]) (ms : Array MethodInfo := #[]) (fl : Nat := 33) (sup : Nat := 0) (ifs : Array Nat := #[]) (fds : Array FieldInfo := #[]) : ClassFile where
  minorVersion := 0
  majorVersion := 65
  constantPool := pool
  accessFlags := fl
  thisClass := this
  superClass := sup
  interfaces := ifs
  fields := fds
  methods := ms
  attributes := attrs
def plain (name : String) (sup : Option ClassId) : Class where
  name := name
  kind := .ordinary
  loader := none
  accessFlags := 33
  super := sup
  interfaces := #[]
  cf := none
  fields := #[]
  methods := #[]
  instanceTypes := #[]
  staticTypes := #[]
  resolved := #[]
  callSites := []
  init := .initialized
  statics := none
  mirror := none

def pool0 : Array CpInfo := pool [(5, u "<init>"), (0, u "()V"), (1, .class_ 10), (1, u "java/lang/Object")] 113

def k0m0 : Method := { name := "<init>", desc := "()V", sig := { parameters := [], returnType := none }, accessFlags := 1, code := none }
/-- java/lang/Object -/
def k0 : Class := { plain "java/lang/Object" none with
  accessFlags := 33
  interfaces := #[]
  cf := some (fileOf pool0 8 #[] #[{ accessFlags := 1, nameIndex := 5, descriptorIndex := 6, attributes := #[] }] 33 0 #[] #[])
  fields := #[]
  methods := #[k0m0]
  instanceTypes := #[]
  staticTypes := #[]
  resolved := Array.replicate 124 none
  statics := none }

def pool1 : Array CpInfo := pool [(2, .class_ 4), (1, u "java/lang/Object"), (0, u "<init>"), (0, u "()V"), (0, .methodref 8 9), (0, .class_ 10), (0, .nameAndType 11 12), (0, u "com/example/upright_meter/uprightmeter/Kind"), (0, u "ofMode"), (0, u "(I)Lcom/example/upright_meter/uprightmeter/Kind;"), (0, .integer 61440), (0, .integer 32768), (0, .integer 40960), (0, .methodref 8 17), (0, .nameAndType 18 19), (0, u "isSpecial"), (0, u "()Z"), (0, .class_ 21), (0, u "com/example/upright_meter/uprightmeter/KindIsSpecialPinLaw"), (2, u "law"), (0, u "(I)Z")] 3

def k1m0 : Method := { name := "<init>", desc := "()V", sig := { parameters := [], returnType := none }, accessFlags := 1, code := none }
def k1c1 : Code := { maxStack := 2, maxLocals := 4, code := code, exceptionTable := #[], attributes := #[] }
def k1m1 : Method := { name := "law", desc := "(I)Z", sig := { parameters := [.int], returnType := some .boolean }, accessFlags := 9, code := some k1c1 }
/-- com/example/upright_meter/uprightmeter/KindIsSpecialPinLaw -/
def k1 : Class := { plain "com/example/upright_meter/uprightmeter/KindIsSpecialPinLaw" (some 0) with
  accessFlags := 49
  interfaces := #[]
  cf := some (fileOf pool1 20 #[] #[{ accessFlags := 1, nameIndex := 5, descriptorIndex := 6, attributes := #[] }, { accessFlags := 9, nameIndex := 24, descriptorIndex := 25, attributes := #[] }] 49 2 #[] #[])
  fields := #[]
  methods := #[k1m0, k1m1]
  instanceTypes := #[]
  staticTypes := #[]
  resolved := Array.replicate 29 none
  statics := none }

def pool2 : Array CpInfo := pool [(1, .class_ 2), (0, u "java/lang/constant/Constable"), (0, .class_ 4), (0, u "java/lang/Object")] 6

/-- java/lang/constant/Constable -/
def k2 : Class := { plain "java/lang/constant/Constable" (some 0) with
  accessFlags := 1537
  interfaces := #[]
  cf := some (fileOf pool2 1 #[] #[] 1537 3 #[] #[])
  fields := #[]
  methods := #[]
  instanceTypes := #[]
  staticTypes := #[]
  resolved := Array.replicate 11 none
  statics := none }

def pool3 : Array CpInfo := pool [(1, .class_ 2), (0, u "java/lang/Comparable"), (0, .class_ 4), (0, u "java/lang/Object")] 7

/-- java/lang/Comparable -/
def k3 : Class := { plain "java/lang/Comparable" (some 0) with
  accessFlags := 1537
  interfaces := #[]
  cf := some (fileOf pool3 1 #[] #[] 1537 3 #[] #[])
  fields := #[]
  methods := #[]
  instanceTypes := #[]
  staticTypes := #[]
  resolved := Array.replicate 12 none
  statics := none }

def pool4 : Array CpInfo := pool [(1, .class_ 2), (0, u "java/io/Serializable"), (0, .class_ 4), (0, u "java/lang/Object")] 2

/-- java/io/Serializable -/
def k4 : Class := { plain "java/io/Serializable" (some 0) with
  accessFlags := 1537
  interfaces := #[]
  cf := some (fileOf pool4 1 #[] #[] 1537 3 #[] #[])
  fields := #[]
  methods := #[]
  instanceTypes := #[]
  staticTypes := #[]
  resolved := Array.replicate 7 none
  statics := none }

def pool5 : Array CpInfo := pool [(2, .class_ 4), (1, u "java/lang/Enum"), (0, u "name"), (0, u "Ljava/lang/String;"), (2, u "ordinal"), (0, u "I"), (1, .class_ 14), (1, u "java/lang/Object"), (4, u "hash"), (86, .class_ 108), (1, u "java/lang/Enum$EnumDesc"), (2, .class_ 112), (0, u "java/lang/constant/Constable"), (0, .class_ 114), (0, u "java/lang/Comparable"), (0, .class_ 116), (0, u "java/io/Serializable")] 87

/-- java/lang/Enum -/
def k5 : Class := { plain "java/lang/Enum" (some 0) with
  accessFlags := 1057
  interfaces := #[2, 3, 4]
  cf := some (fileOf pool5 2 #[.nestMembers #[106]] #[] 1057 12 #[111, 113, 115] #[{ accessFlags := 18, nameIndex := 5, descriptorIndex := 6, attributes := #[] }, { accessFlags := 18, nameIndex := 9, descriptorIndex := 10, attributes := #[] }, { accessFlags := 2, nameIndex := 19, descriptorIndex := 10, attributes := #[] }])
  fields := #[{ name := "name", type := (.object "java/lang/String"), accessFlags := 18, slot := 0, constantValue := 0 }, { name := "ordinal", type := .int, accessFlags := 18, slot := 1, constantValue := 0 }, { name := "hash", type := .int, accessFlags := 2, slot := 2, constantValue := 0 }]
  methods := #[]
  instanceTypes := #[(.object "java/lang/String"), .int, .int]
  staticTypes := #[]
  resolved := Array.replicate 204 none
  statics := none }

def pool6 : Array CpInfo := pool [(1, .class_ 2), (0, u "com/example/upright_meter/uprightmeter/Kind"), (0, .fieldref 1 4), (0, .nameAndType 5 6), (0, u "REGULAR_FILE"), (0, u "Lcom/example/upright_meter/uprightmeter/Kind;"), (0, .fieldref 1 8), (0, .nameAndType 9 6), (0, u "DIRECTORY"), (0, .fieldref 1 11), (0, .nameAndType 12 6), (0, u "SYMLINK"), (2, u "FIFO"), (2, u "SOCKET"), (2, u "CHARACTER_DEVICE"), (2, u "BLOCK_DEVICE"), (0, .fieldref 1 26), (0, .nameAndType 27 6), (0, u "UNKNOWN"), (2, u "$VALUES"), (0, u "[Lcom/example/upright_meter/uprightmeter/Kind;"), (6, .class_ 40), (1, u "java/lang/Enum"), (6, .fieldref 1 48), (0, .nameAndType 49 50), (0, u "type"), (0, u "I"), (2, u "letter"), (0, u "C"), (0, .integer 61440), (0, .fieldref 1 57), (0, .nameAndType 58 31), (0, u "ALL"), (21, u "S_IFMT"), (7, u "ofMode"), (0, u "(I)Lcom/example/upright_meter/uprightmeter/Kind;"), (2, u "isSpecial"), (0, u "()Z")] 5

def k6c0 : Code := { maxStack := 2, maxLocals := 6, code := prog_27_method_4_code, exceptionTable := #[], attributes := #[] }
def k6m0 : Method := { name := "ofMode", desc := "(I)Lcom/example/upright_meter/uprightmeter/Kind;", sig := { parameters := [.int], returnType := some (.object "com/example/upright_meter/uprightmeter/Kind") }, accessFlags := 8, code := some k6c0 }
def k6c1 : Code := { maxStack := 2, maxLocals := 1, code := prog_27_method_6_code, exceptionTable := #[], attributes := #[] }
def k6m1 : Method := { name := "isSpecial", desc := "()Z", sig := { parameters := [], returnType := some .boolean }, accessFlags := 0, code := some k6c1 }
/-- com/example/upright_meter/uprightmeter/Kind -/
def k6 : Class := { plain "com/example/upright_meter/uprightmeter/Kind" (some 5) with
  accessFlags := 16432
  interfaces := #[]
  cf := some (fileOf pool6 1 #[] #[{ accessFlags := 8, nameIndex := 88, descriptorIndex := 89, attributes := #[] }, { accessFlags := 0, nameIndex := 92, descriptorIndex := 93, attributes := #[] }] 16432 38 #[] #[{ accessFlags := 16409, nameIndex := 5, descriptorIndex := 6, attributes := #[] }, { accessFlags := 16409, nameIndex := 9, descriptorIndex := 6, attributes := #[] }, { accessFlags := 16409, nameIndex := 12, descriptorIndex := 6, attributes := #[] }, { accessFlags := 16409, nameIndex := 15, descriptorIndex := 6, attributes := #[] }, { accessFlags := 16409, nameIndex := 18, descriptorIndex := 6, attributes := #[] }, { accessFlags := 16409, nameIndex := 21, descriptorIndex := 6, attributes := #[] }, { accessFlags := 16409, nameIndex := 24, descriptorIndex := 6, attributes := #[] }, { accessFlags := 16409, nameIndex := 27, descriptorIndex := 6, attributes := #[] }, { accessFlags := 26, nameIndex := 80, descriptorIndex := 50, attributes := #[] }, { accessFlags := 26, nameIndex := 58, descriptorIndex := 31, attributes := #[] }, { accessFlags := 18, nameIndex := 49, descriptorIndex := 50, attributes := #[] }, { accessFlags := 18, nameIndex := 53, descriptorIndex := 54, attributes := #[] }, { accessFlags := 4122, nameIndex := 30, descriptorIndex := 31, attributes := #[] }])
  fields := #[{ name := "REGULAR_FILE", type := (.object "com/example/upright_meter/uprightmeter/Kind"), accessFlags := 16409, slot := 0, constantValue := 0 }, { name := "DIRECTORY", type := (.object "com/example/upright_meter/uprightmeter/Kind"), accessFlags := 16409, slot := 1, constantValue := 0 }, { name := "SYMLINK", type := (.object "com/example/upright_meter/uprightmeter/Kind"), accessFlags := 16409, slot := 2, constantValue := 0 }, { name := "FIFO", type := (.object "com/example/upright_meter/uprightmeter/Kind"), accessFlags := 16409, slot := 3, constantValue := 0 }, { name := "SOCKET", type := (.object "com/example/upright_meter/uprightmeter/Kind"), accessFlags := 16409, slot := 4, constantValue := 0 }, { name := "CHARACTER_DEVICE", type := (.object "com/example/upright_meter/uprightmeter/Kind"), accessFlags := 16409, slot := 5, constantValue := 0 }, { name := "BLOCK_DEVICE", type := (.object "com/example/upright_meter/uprightmeter/Kind"), accessFlags := 16409, slot := 6, constantValue := 0 }, { name := "UNKNOWN", type := (.object "com/example/upright_meter/uprightmeter/Kind"), accessFlags := 16409, slot := 7, constantValue := 0 }, { name := "S_IFMT", type := .int, accessFlags := 26, slot := 8, constantValue := 0 }, { name := "ALL", type := (.array (.object "com/example/upright_meter/uprightmeter/Kind")), accessFlags := 26, slot := 9, constantValue := 0 }, { name := "type", type := .int, accessFlags := 18, slot := 3, constantValue := 0 }, { name := "letter", type := .char, accessFlags := 18, slot := 4, constantValue := 0 }, { name := "$VALUES", type := (.array (.object "com/example/upright_meter/uprightmeter/Kind")), accessFlags := 4122, slot := 10, constantValue := 0 }]
  methods := #[k6m0, k6m1]
  instanceTypes := #[(.object "java/lang/String"), .int, .int, .int, .char]
  staticTypes := #[(.object "com/example/upright_meter/uprightmeter/Kind"), (.object "com/example/upright_meter/uprightmeter/Kind"), (.object "com/example/upright_meter/uprightmeter/Kind"), (.object "com/example/upright_meter/uprightmeter/Kind"), (.object "com/example/upright_meter/uprightmeter/Kind"), (.object "com/example/upright_meter/uprightmeter/Kind"), (.object "com/example/upright_meter/uprightmeter/Kind"), (.object "com/example/upright_meter/uprightmeter/Kind"), .int, (.array (.object "com/example/upright_meter/uprightmeter/Kind")), (.array (.object "com/example/upright_meter/uprightmeter/Kind"))]
  resolved := Array.replicate 99 none
  statics := some 0 }

def pool7 : Array CpInfo := pool [(1, u "java/lang/Cloneable"), (0, .class_ 1), (0, u "java/lang/Object"), (0, .class_ 3)] 3

/-- java/lang/Cloneable -/
def k7 : Class := { plain "java/lang/Cloneable" (some 0) with
  accessFlags := 1537
  interfaces := #[]
  cf := some (fileOf pool7 2 #[] #[] 1537 4 #[] #[])
  fields := #[]
  methods := #[]
  instanceTypes := #[]
  staticTypes := #[]
  resolved := Array.replicate 8 none
  statics := none }

/-- the primitive byte -/
def k8 : Class := { plain "byte" none with kind := .primitive 'B', accessFlags := 0x411 }
/-- [B -/
def k9 : Class := { plain "[B" (some 0) with kind := .array 8 .byte, interfaces := #[7, 4], accessFlags := 1041 }

/-- [Lcom/example/upright_meter/uprightmeter/Kind; -/
def k10 : Class := { plain "[Lcom/example/upright_meter/uprightmeter/Kind;" (some 0) with kind := .array 6 (.object "com/example/upright_meter/uprightmeter/Kind"), interfaces := #[7, 4], accessFlags := 1041 }

def heap : Heap := #[{ cls := 6, slots := #[.ref 2, .ref 3, .ref 4, .ref 5, .ref 6, .ref 7, .ref 8, .ref 9, .int 0, .ref 1, .null], vm := .statics 6 },
  { cls := 10, slots := #[.ref 2, .ref 3, .ref 4, .ref 5, .ref 6, .ref 7, .ref 8, .ref 9], vm := .none },
  { cls := 6, slots := #[.null, .int 0, .int 0, .int 32768, .int 0], vm := .none },
  { cls := 6, slots := #[.null, .int 1, .int 0, .int 16384, .int 0], vm := .none },
  { cls := 6, slots := #[.null, .int 2, .int 0, .int 40960, .int 0], vm := .none },
  { cls := 6, slots := #[.null, .int 3, .int 0, .int 4096, .int 0], vm := .none },
  { cls := 6, slots := #[.null, .int 4, .int 0, .int 49152, .int 0], vm := .none },
  { cls := 6, slots := #[.null, .int 5, .int 0, .int 8192, .int 0], vm := .none },
  { cls := 6, slots := #[.null, .int 6, .int 0, .int 24576, .int 0], vm := .none },
  { cls := 6, slots := #[.null, .int 7, .int 0, .int (-1), .int 0], vm := .none }]
def classes : Array Class := #[k0, k1, k2, k3, k4, k5, k6, k7, k8, k9, k10]
def interned : List (Array UInt16 × Addr) := []
def slotsUsed : Nat := 59
def theMethod : MethodId := ⟨1, 1⟩
def args0 : Array Value := #[.int 5]
def aboutOver (below : List Frame) : State where
  vm := { classes := classes, interned := interned.toArray }
  heap := heap
  slotsUsed := slotsUsed
  threads := #[{ frames := .invoking theMethod args0 :: below }]
def below0 : List Frame := [.native { method := ⟨0, 0⟩, args := #[] }]
def about1 : State := aboutOver below0
def p0 : Program := .bare "" "" ""
def e0 : Env := launch0.env 0 0 0
theorem w_frames : about1.frames = Frame.invoking theMethod args0 :: below0 := rfl
set_option maxRecDepth 65536 in
theorem w_args : argsFit about1.vm theMethod args0 = true := by decide +kernel
set_option maxRecDepth 65536 in
theorem w_heap : heapFits about1 = true := by decide +kernel
set_option maxRecDepth 65536 in
theorem w_runnable : about1.curStatus? = some .runnable := by decide +kernel
set_option maxRecDepth 65536 in
theorem w_alone : about1.alone = true := by decide +kernel
set_option maxRecDepth 65536 in
theorem w_named : about1.methodNamed? x = some theMethod := by decide +kernel
set_option maxRecDepth 65536 in
theorem w_hears : about1.hears theMethod below0 = true := by decide +kernel
set_option maxRecDepth 65536 in
theorem w_ripe : about1.ripe theMethod args0 below0 = true := by decide +kernel
theorem w_running : about1.status = .running := rfl
set_option maxRecDepth 65536 in
theorem w_room : about1.hasRoom e0.platform room_1 = true :=
  launch0.hasRoom_least _ room_1 (by decide +kernel) (by decide +kernel) (by decide +kernel) (by decide +kernel) (by decide +kernel) (by decide +kernel)
theorem allAtoms_all (ts : List Jvm.Cond) (a : Array Jvm.Value) (st : Jvm.State) : (allAtoms ts).before a st = ts.all (fun c => c.before a st) := by
  induction ts with
  | nil => rfl
  | cons c t ih =>
    show (Jvm.Cond.and c (allAtoms t)).before a st = _
    rw [Jvm.Cond.before_and, ih, List.all_cons]
def words1 : List Jvm.Cond := Jvm.Cond.code x code maxLocals ret :: tables_1
/-- a 'code' word, met by the world's own term for the bytes: nothing is compared byte by byte -/
theorem code_word {y : MethodName} {bytes : ByteArray} {mx : Nat} {rt : Option FieldType} {a : Array Value} {s : State} {m : MethodId} {meth : Method} {c : Code} (h1 : s.methodNamed? y = some m) (h2 : s.vm.method? m = some meth) (h3 : meth.code = some c) (h4 : c.code = bytes)
    (h5 : (c.maxLocals == mx && c.exceptionTable.isEmpty && decide (c.maxStack ≤ mostOperands) && decide (meth.sig.returnType = rt) && !meth.locks && decide (parseMethodDescriptor y.desc = some meth.sig)) = true) : (Jvm.Cond.code y bytes mx rt).before a s = true := by
  simp only [Bool.and_eq_true, beq_iff_eq, Bool.not_eq_true', decide_eq_true_eq] at h5
  obtain ⟨⟨⟨⟨⟨g1, g2⟩, g3⟩, g4⟩, g5⟩, g6⟩ := h5
  simp [Cond.before, Cond.holds, Cond.value, h1, h2, h3, h4, g1, g2, g3, g4, g5, g6]
def isCode : Jvm.Cond → Bool
  | .code _ _ _ _ => true
  | _ => false
theorem all_split {L : List Jvm.Cond} {P : Jvm.Cond → Bool} (h1 : L.all (fun c => isCode c || P c) = true) (h2 : ∀ c ∈ L.filter isCode, P c = true) : L.all P = true := by
  refine List.all_eq_true.mpr fun c hc => ?_
  have h := List.all_eq_true.mp h1 c hc
  rcases Bool.eq_false_or_eq_true (isCode c) with hi | hi
  · exact h2 c (List.mem_filter.mpr ⟨hc, hi⟩)
  · simpa [hi] using h
set_option maxRecDepth 65536 in
theorem w_c0 : (Jvm.Cond.code x code maxLocals ret).before args0 about1 = true := code_word (m := ⟨1, 1⟩) (meth := k1m1) (c := k1c1) (by decide +kernel) rfl rfl rfl (by decide +kernel)
set_option maxRecDepth 65536 in
theorem w_c1 : (Jvm.Cond.code ({ cls := "com/example/upright_meter/uprightmeter/Kind", name := "ofMode", desc := "(I)Lcom/example/upright_meter/uprightmeter/Kind;" } : Jvm.MethodName) prog_27_method_4_code (6 : Nat) (Option.some (Jvm.ClassFile.FieldType.object "com/example/upright_meter/uprightmeter/Kind"))).before args0 about1 = true := code_word (m := ⟨6, 0⟩) (meth := k6m0) (c := k6c0) (by decide +kernel) rfl rfl rfl (by decide +kernel)
set_option maxRecDepth 65536 in
theorem w_c2 : (Jvm.Cond.code ({ cls := "com/example/upright_meter/uprightmeter/Kind", name := "isSpecial", desc := "()Z" } : Jvm.MethodName) prog_27_method_6_code (1 : Nat) (Option.some Jvm.ClassFile.FieldType.boolean)).before args0 about1 = true := code_word (m := ⟨6, 1⟩) (meth := k6m1) (c := k6c1) (by decide +kernel) rfl rfl rfl (by decide +kernel)
def codes1 : List Jvm.Cond := [Jvm.Cond.code x code maxLocals ret, Jvm.Cond.code ({ cls := "com/example/upright_meter/uprightmeter/Kind", name := "ofMode", desc := "(I)Lcom/example/upright_meter/uprightmeter/Kind;" } : Jvm.MethodName) prog_27_method_4_code (6 : Nat) (Option.some (Jvm.ClassFile.FieldType.object "com/example/upright_meter/uprightmeter/Kind")), Jvm.Cond.code ({ cls := "com/example/upright_meter/uprightmeter/Kind", name := "isSpecial", desc := "()Z" } : Jvm.MethodName) prog_27_method_6_code (1 : Nat) (Option.some Jvm.ClassFile.FieldType.boolean)]
set_option maxRecDepth 65536 in
theorem codes_eq : words1.filter isCode = codes1 := rfl
theorem w_codes : ∀ c ∈ words1.filter isCode, c.before args0 about1 = true := by
  rw [codes_eq]
  intro c hc
  simp only [codes1, List.mem_cons, List.not_mem_nil, or_false] at hc
  rcases hc with rfl | rfl | rfl
  · exact w_c0
  · exact w_c1
  · exact w_c2
set_option maxRecDepth 65536 in
theorem w_t1 : (words1.take 24).all (fun c => isCode c || c.before args0 about1) = true := by decide +kernel
set_option maxRecDepth 65536 in
theorem w_t2 : (words1.drop 24).all (fun c => isCode c || c.before args0 about1) = true := by decide +kernel
theorem w_tables : (allAtoms (Jvm.Cond.code x code maxLocals ret :: tables_1)).before args0 about1 = true := by
  rw [allAtoms_all]
  show words1.all (fun c => c.before args0 about1) = true
  refine all_split ?_ w_codes
  rw [← List.take_append_drop 24 words1, List.all_append, w_t1, w_t2]
  rfl
set_option maxRecDepth 65536 in
theorem w_case : (Jvm.Cond.and given_1 narrow_1).before args0 about1 = true := by decide +kernel
theorem w_applies : (headSpec (Jvm.Cond.code x code maxLocals ret :: tables_1) room_1).applies x e0.platform about1 = true :=
  (Spec.applies_iff w_frames).mpr ⟨w_running, w_runnable, w_alone, w_named, w_hears, w_ripe, w_room, w_tables⟩
theorem atStart : AtStart classFile x code maxLocals ret World_1 tables_1 room_1 Calls_1 rest_1 Pre_1 launch0 p0 e0 about1 theMethod args0 below0 :=
  ⟨lists_1, trivial, launch0.admits_env _ _ _, launch0.least_env, fairChoices_fair.cas, fairChoices_fair.clock, w_frames, w_args, w_heap, w_applies, trivial, trivial, w_case⟩
end start1
theorem witness_1 : WitnessClaimed_1 := ⟨start1.p0, start1.e0, start1.about1, start1.theMethod, start1.args0, start1.below0, start1.atStart⟩
end Jvm.Pilot.@@N@@
