import JvmDerived
import JvmDerived.Pilot.@@N@@Statement
import JvmDerived.Pilot.@@N@@Code
set_option linter.unusedVariables false
set_option linter.unusedSimpArgs false
namespace Jvm.Pilot.@@N@@
open Jvm Jvm.ClassFile Sem Op Lib Jvm.Free Jvm.Stand Jvm.LawKit Jvm.RoadKit Bundle Jvm.Pilot.@@N@@.Jvm.D
section Own
/-- the run goes on from here and ends as E says -/
def Go (p : Program) (e : Env) (below : List Frame) (E : State → Prop) (T : State) (f : JFrame) : Prop := ∃ t, Steps p.tables e below (T.setTop f) t ∧ E t
theorem Go.of {p : Program} {e : Env} {below : List Frame} {E : State → Prop} {T T' : State} {f f' : JFrame} (st : ∀ t, Steps p.tables e below (T'.setTop f') t → Steps p.tables e below (T.setTop f) t) (h : Go p e below E T' f') : Go p e below E T f := by
  obtain ⟨t, h1, h2⟩ := h
  exact ⟨t, st t h1, h2⟩
theorem Go.cast {p : Program} {e : Env} {below : List Frame} {E : State → Prop} {T : State} {f f' : JFrame} (q : f = f') (h : Go p e below E T f') : Go p e below E T f := q ▸ h
/-- the end of an invocation: it has returned, and Q holds of what it returned, of the heap, of what it wrote -/
def Fine (s : State) (below : List Frame) (rm : Room) (Q : Option Value → Heap → List Loc → Prop) (t : State) : Prop :=
  ∃ o, t.status = .running ∧ Ended t below o ∧ ∃ v L, o = .returned v ∧ Q v t.heap L ∧ FrameEnd s o t L rm.cells rm.slots
/-- a contract -/
abbrev Ct (l : Launch) (Z : State) (y : MethodName) (bytes : ByteArray) (maxL : Nat) (rt : Option FieldType) (ws : List Jvm.Cond) (rm : Room) (as' : Array Value) (h : Heap) (Q : Option Value → Heap → List Loc → Prop) : Prop :=
  MetFree l y (head1 (Jvm.Cond.code y bytes maxL rt :: ws) rm) (fun a U => a = as' ∧ Z.Warmed39 U.vm ∧ U.heap = h) (fun _ _ _ _ _ => True) (fun _ U o U' => ∃ v L, o = .returned v ∧ Q v U'.heap L ∧ FrameEnd U o U' L rm.cells rm.slots)
/-- it returns V and leaves the heap as it was -/
def Pu (h : Heap) (V : Option Value) : Option Value → Heap → List Loc → Prop := fun v h' L => v = V ∧ L = [] ∧ h' = h
theorem own_met {l : Launch} {Z : State} {y : MethodName} {bytes : ByteArray} {maxL : Nat} {rt : Option FieldType} {ws : List Jvm.Cond} {rm : Room} {as' : Array Value} {h : Heap} {Q : Option Value → Heap → List Loc → Prop} (hpl : plainFor y = true)
    (body : ∀ (p : Program) (e : Env) (s : State) (m : MethodId) (below : List Frame) (meth : Method) (c : Code) (s₁ : State), Stand p l e rm s m as' below meth c s₁ [] 0 0 → p.tables.exec = Jvm.exec → c.code = bytes → c.maxLocals = maxL → meth.sig.returnType = rt →
      s.vm.findClass y.cls = some m.cls → meth.name = y.name → meth.locks = false → Z.Warmed39 s.vm → s₁.heap = h → Go p e below (Fine s below rm Q) s₁ (entryFrame m as' maxL)) : Ct l Z y bytes maxL rt ws rm as' h Q := by
  refine MetFree.of_bodySF hpl hisR ?_
  intro p e s m args below meth c s₁ Bd hml0 hP hK
  obtain ⟨rfl, hZ, hh⟩ := hP
  have X0 : Stand p l e rm s m _ below meth c s₁ [] 0 0 := Stand.of_body Bd
  obtain ⟨t, h1, o, h2, h3, h4⟩ := body p e s m below meth c s₁ X0 Bd.exec Bd.bytes hml0 Bd.returns (findClass_of_methodNamed Bd.named) (name_of_methodNamed Bd.named Bd.method).1 Bd.notSynchronized hZ (by rw [← hh, Bd.state]; rfl)
  exact ⟨t, o, h1, h2, h3, h4⟩
section Steps
variable {p : Program} {l : Launch} {e : Env} {R : Room} {s : State} {m : MethodId} {args : Array Value} {below : List Frame} {meth : Method} {c : Code} {T : State} {locs : List Loc} {cells slots : Nat} {Z : State} {a0 : Array Value} {h : Heap} {Q : Option Value → Heap → List Loc → Prop}
theorem own_retI (X : Stand p l e R s m args below meth c T locs cells slots) (hx : p.tables.exec = Jvm.exec) (hlk : meth.locks = false) {pc : Nat} {Ls : Array Slot} {z : Int32} {rest : List Value} (hret : meth.sig.returnType = some .int) (hd : decode c.code pc = .ok (.ireturn, 1))
    (hQ : Q (some (.int z)) T.heap locs) (hc : cells ≤ R.cells) (hs : slots ≤ R.slots) : Go p e below (Fine s below R Q) T (mkF m pc Ls (.int z :: rest)) := by
  obtain ⟨fs, hr, hrun, hended, hW, hsame⟩ := X.leave (v := some (.int z)) (fun h => by rw [hret] at h; cases h) hlk
  exact ⟨_, retOut X hx hret rfl (Or.inl ⟨rfl, Or.inl rfl, z, rfl⟩) hd hr, _, hrun, hended, _, _, rfl, hQ, ⟨_, rfl⟩, hW, hsame.mono hc hs⟩
theorem own_retZ (X : Stand p l e R s m args below meth c T locs cells slots) (hx : p.tables.exec = Jvm.exec) (hlk : meth.locks = false) {pc : Nat} {Ls : Array Slot} {z z' : Int32} {rest : List Value} (hret : meth.sig.returnType = some .boolean) (hd : decode c.code pc = .ok (.ireturn, 1)) (hz : nar .boolean z = z')
    (hQ : Q (some (.int z')) T.heap locs) (hc : cells ≤ R.cells) (hs : slots ≤ R.slots) : Go p e below (Fine s below R Q) T (mkF m pc Ls (.int z :: rest)) := by
  subst hz
  obtain ⟨fs, hr, hrun, hended, hW, hsame⟩ := X.leave (v := some (.int (nar .boolean z))) (fun h => by rw [hret] at h; cases h) hlk
  exact ⟨_, retN X hx (t := .boolean) hret (by simp) hd hr, _, hrun, hended, _, _, rfl, hQ, ⟨_, rfl⟩, hW, hsame.mono hc hs⟩
theorem own_retA (X : Stand p l e R s m args below meth c T locs cells slots) (hx : p.tables.exec = Jvm.exec) (hlk : meth.locks = false) {pc : Nat} {Ls : Array Slot} {w : Value} {t : FieldType} {rest : List Value} (hret : meth.sig.returnType = some t) (ht : t.isReference = true) (hw : w.isRef = true) (hd : decode c.code pc = .ok (.areturn, 1))
    (hQ : Q (some w) T.heap locs) (hc : cells ≤ R.cells) (hs : slots ≤ R.slots) : Go p e below (Fine s below R Q) T (mkF m pc Ls (w :: rest)) := by
  obtain ⟨fs, hr, hrun, hended, hW, hsame⟩ := X.leave (v := some w) (fun h => by rw [hret] at h; cases h) hlk
  have hn : narrow t w = w := by rcases ref_cases hw with rfl | ⟨q, rfl⟩ <;> cases t <;> first | rfl | (cases ht; done)
  exact ⟨_, retOut X hx hret hn (Or.inr (Or.inr (Or.inr (Or.inr ⟨rfl, ht, hw⟩)))) hd hr, _, hrun, hended, _, _, rfl, hQ, ⟨_, rfl⟩, hW, hsame.mono hc hs⟩
theorem own_retV (X : Stand p l e R s m args below meth c T locs cells slots) (hx : p.tables.exec = Jvm.exec) (hlk : meth.locks = false) {pc : Nat} {Ls : Array Slot} (hret : meth.sig.returnType = none) (hd : decode c.code pc = .ok (.return_, 1))
    (hQ : Q none T.heap locs) (hc : cells ≤ R.cells) (hs : slots ≤ R.slots) : Go p e below (Fine s below R Q) T (mkF m pc Ls []) := by
  obtain ⟨fs, hr, hrun, hended, hW, hsame⟩ := X.leave (v := none) (fun _ => rfl) hlk
  exact ⟨_, X.returnOut hx hret hd hr, _, hrun, hended, _, _, rfl, hQ, ⟨_, rfl⟩, hW, hsame.mono hc hs⟩
/-- a static call by a contract -/
theorem own_callSQ (X : Stand p l e R s m args below meth c T locs cells slots) (hx : p.tables.exec = Jvm.exec) (hZ : Z.Warmed39 s.vm) {own : String} {index : Nat} {y : MethodName} {bytes : ByteArray} {maxL : Nat} {rt : Option FieldType} (hown : s.vm.findClass own = some m.cls)
    (w1 : (Jvm.Cond.methodLink own index y).before a0 Z = true) (w2 : (Jvm.Cond.static y).before a0 Z = true) (w3 : (Jvm.Cond.initialized y.cls).before a0 Z = true) (w4 : (Jvm.Cond.code y bytes maxL rt).before a0 Z = true) (hy : y.cls ≠ "java/lang/invoke/MethodHandle" ∧ y.cls ≠ "java/lang/invoke/VarHandle")
    {rm : Room} {as' : Array Value} (hM : Ct l Z y bytes maxL rt [] rm as' h Q) (hf : rm.frames + 1 ≤ R.frames) (W : Nat) (hl : W + (maxL + 11) + rm.locals ≤ R.locals) (hc : cells + rm.cells ≤ R.cells) (hs : slots + rm.slots ≤ R.slots) (eT : T.heap = h)
    {g : JFrame} (hg : g.method = m) (hsize : g.locals.size = c.maxLocals) (argsL rest : List Value) (hlen : ∀ sig, parseMethodDescriptor y.desc = some sig → argsL.length = sig.parameters.length) (hstack : g.stack = argsL.reverse ++ rest) (hW : 2 * g.monitorRoom + (rest.map fun v => v.category).sum ≤ W) (has : argsL.toArray = as')
    (hd : decode c.code g.pc = .ok (.invokestatic index, 3)) : ∃ T' L v, Stand p l e R s m args below meth c T' (locs ++ L) (cells + rm.cells) (slots + rm.slots) ∧ Q v T'.heap L ∧ ∀ t, Steps p.tables e below (T'.setTop { g with pc := g.pc + 3, stack := v.toList ++ rest }) t → Steps p.tables e below (T.setTop g) t := by
  obtain ⟨v, _, ⟨T', L', k', n'⟩, -, X', ⟨L, hQ, q1, q2, q3⟩, st⟩ := Jvm.LawKit.callS X hx (y := y) hown (mvT hZ w1) (mvT hZ w2) (mvT hZ w3) (mvT hZ w4) hy (backOf (W := W) hM hZ w4 w3 hf hl) hg hsize (argsL := argsL) (rest := rest) hlen hstack hW hd (fun _ _ => ⟨has, eT, hc, hs⟩)
  dsimp only [Pt.U, Pt.locs, Pt.cells, Pt.slots] at X' q1 q2 q3 st hQ
  subst q1 q2 q3
  exact ⟨T', L, v, X', hQ, st⟩
/-- an instance call by a contract -/
theorem own_callVQ (X : Stand p l e R s m args below meth c T locs cells slots) (hx : p.tables.exec = Jvm.exec) (hZ : Z.Warmed39 s.vm) {own C : String} {index : Nat} {y z : MethodName} {bytes : ByteArray} {maxL : Nat} {rt : Option FieldType} (hown : s.vm.findClass own = some m.cls)
    (w1 : (Jvm.Cond.methodLink own index y).before a0 Z = true) (w2 : (Jvm.Cond.declares y).before a0 Z = true) (w2' : (Jvm.Cond.selects y.cls y y).before a0 Z = true) (w3 : (Jvm.Cond.selects C y z).before a0 Z = true) (w4 : (Jvm.Cond.instanceMethod z).before a0 Z = true) (w5 : (Jvm.Cond.code z bytes maxL rt).before a0 Z = true) (w6 : (Jvm.Cond.initialized z.cls).before a0 Z = true) (hy : y.cls ≠ "java/lang/invoke/MethodHandle" ∧ y.cls ≠ "java/lang/invoke/VarHandle")
    {rm : Room} {as' : Array Value} (hM : Ct l Z z bytes maxL rt [] rm as' h Q) (hf : rm.frames + 1 ≤ R.frames) (W : Nat) (hl : W + (maxL + 11) + rm.locals ≤ R.locals) (hc : cells + rm.cells ≤ R.cells) (hs : slots + rm.slots ≤ R.slots) (eT : T.heap = h) {b : Addr} (hE : Exa Z h b C)
    {g : JFrame} (hg : g.method = m) (hsize : g.locals.size = c.maxLocals) (argsL rest : List Value) (hlen : ∀ sig, parseMethodDescriptor y.desc = some sig → argsL.length = sig.parameters.length) (hstack : g.stack = argsL.reverse ++ .ref b :: rest) (hW : 2 * g.monitorRoom + (rest.map fun v => v.category).sum ≤ W) (has : (.ref b :: argsL).toArray = as')
    (hd : decode c.code g.pc = .ok (.invokevirtual index, 3)) : ∃ T' L v, Stand p l e R s m args below meth c T' (locs ++ L) (cells + rm.cells) (slots + rm.slots) ∧ Q v T'.heap L ∧ ∀ t, Steps p.tables e below (T'.setTop { g with pc := g.pc + 3, stack := v.toList ++ rest }) t → Steps p.tables e below (T.setTop g) t := by
  obtain ⟨cq, kq, qa, qb, qc⟩ := isOf (s := s) hZ eT hE
  obtain ⟨v, _, ⟨T', L', k', n'⟩, -, X', ⟨L, hQ, q1, q2, q3⟩, st⟩ := X.virtualBack hx (y := y) (z := z) hown (mvT hZ w1) (mvT hZ w2) (notFace_of_selects (args := #[]) (mvT hZ w2')) (mvT hZ w3) (mvT hZ w4) hy (backOf (W := W) hM hZ w5 w6 hf hl) qa qc hg hsize (Steps.refl _) (argsL := argsL) (rest := rest) hlen hstack hW hd (fun _ _ => ⟨has, eT, hc, hs⟩)
  dsimp only [Pt.U, Pt.locs, Pt.cells, Pt.slots] at X' q1 q2 q3 st hQ
  subst q1 q2 q3
  exact ⟨T', L, v, X', hQ, fun t k => st.trans k⟩
/-- an instance call of a method that a class above declares -/
theorem own_callUQ (X : Stand p l e R s m args below meth c T locs cells slots) (hx : p.tables.exec = Jvm.exec) (hZ : Z.Warmed39 s.vm) {own C owner : String} {index : Nat} {y z : MethodName} {bytes : ByteArray} {maxL : Nat} {rt : Option FieldType} (hown : s.vm.findClass own = some m.cls)
    (w1 : (Jvm.Cond.methodLink own index y).before a0 Z = true) (w2 : (Jvm.Cond.sameMethod y.cls owner y.name y.desc).before a0 Z = true) (w2' : (Jvm.Cond.declares ⟨owner, y.name, y.desc⟩).before a0 Z = true) (hy : owner ≠ "java/lang/invoke/MethodHandle" ∧ owner ≠ "java/lang/invoke/VarHandle") (w3 : (Jvm.Cond.selects C y z).before a0 Z = true) (w4 : (Jvm.Cond.instanceMethod z).before a0 Z = true) (w5 : (Jvm.Cond.code z bytes maxL rt).before a0 Z = true) (w6 : (Jvm.Cond.initialized z.cls).before a0 Z = true)
    {rm : Room} {as' : Array Value} (hM : Ct l Z z bytes maxL rt [] rm as' h Q) (hf : rm.frames + 1 ≤ R.frames) (W : Nat) (hl : W + (maxL + 11) + rm.locals ≤ R.locals) (hc : cells + rm.cells ≤ R.cells) (hs : slots + rm.slots ≤ R.slots) (eT : T.heap = h) {b : Addr} (hE : Exa Z h b C)
    {g : JFrame} (hg : g.method = m) (hsize : g.locals.size = c.maxLocals) (argsL rest : List Value) (hlen : ∀ sig, parseMethodDescriptor y.desc = some sig → argsL.length = sig.parameters.length) (hstack : g.stack = argsL.reverse ++ .ref b :: rest) (hW : 2 * g.monitorRoom + (rest.map fun v => v.category).sum ≤ W) (has : (.ref b :: argsL).toArray = as')
    (hd : decode c.code g.pc = .ok (.invokevirtual index, 3)) : ∃ T' L v, Stand p l e R s m args below meth c T' (locs ++ L) (cells + rm.cells) (slots + rm.slots) ∧ Q v T'.heap L ∧ ∀ t, Steps p.tables e below (T'.setTop { g with pc := g.pc + 3, stack := v.toList ++ rest }) t → Steps p.tables e below (T.setTop g) t := by
  obtain ⟨cq, kq, qa, qb, qc⟩ := isOf (s := s) hZ eT hE
  obtain ⟨v, _, ⟨T', L', k', n'⟩, -, X', ⟨L, hQ, q1, q2, q3⟩, st⟩ := X.virtualBackUp hx (x := y) (y := z) hown (mvT hZ w1) (mvT hZ w2) (mvT hZ w2') hy (mvT hZ w3) (mvT hZ w4) (backOf (W := W) hM hZ w5 w6 hf hl) qa qc hg hsize (Steps.refl _) (argsL := argsL) (rest := rest) hlen hstack hW hd (fun _ _ => ⟨has, eT, hc, hs⟩)
  dsimp only [Pt.U, Pt.locs, Pt.cells, Pt.slots] at X' q1 q2 q3 st hQ
  subst q1 q2 q3
  exact ⟨T', L, v, X', hQ, fun t k => st.trans k⟩
/-- a constructor by a contract -/
theorem own_callCQ (X : Stand p l e R s m args below meth c T locs cells slots) (hx : p.tables.exec = Jvm.exec) (hZ : Z.Warmed39 s.vm) {own : String} {index : Nat} {y : MethodName} {bytes : ByteArray} {maxL : Nat} (hy1 : y.name = "<init>") (hown : s.vm.findClass own = some m.cls)
    (w1 : (Jvm.Cond.methodLink own index y).before a0 Z = true) (w2 : (Jvm.Cond.instanceMethod y).before a0 Z = true) (w5 : (Jvm.Cond.code y bytes maxL none).before a0 Z = true) (w6 : (Jvm.Cond.initialized y.cls).before a0 Z = true) (hy : y.cls ≠ "java/lang/invoke/MethodHandle" ∧ y.cls ≠ "java/lang/invoke/VarHandle")
    {rm : Room} {as' : Array Value} (hM : Ct l Z y bytes maxL none [] rm as' h Q) (hf : rm.frames + 1 ≤ R.frames) (W : Nat) (hl : W + (maxL + 11) + rm.locals ≤ R.locals) (hc : cells + rm.cells ≤ R.cells) (hs : slots + rm.slots ≤ R.slots) (eT : T.heap = h) {b : Addr}
    {g : JFrame} (hg : g.method = m) (hsize : g.locals.size = c.maxLocals) (argsL rest : List Value) (hlen : ∀ sig, parseMethodDescriptor y.desc = some sig → argsL.length = sig.parameters.length) (hstack : g.stack = argsL.reverse ++ .ref b :: rest) (hW : 2 * g.monitorRoom + (rest.map fun v => v.category).sum ≤ W) (has : (.ref b :: argsL).toArray = as')
    (hd : decode c.code g.pc = .ok (.invokespecial index, 3)) : ∃ T' L v, Stand p l e R s m args below meth c T' (locs ++ L) (cells + rm.cells) (slots + rm.slots) ∧ Q v T'.heap L ∧ ∀ t, Steps p.tables e below (T'.setTop { g with pc := g.pc + 3, stack := v.toList ++ rest }) t → Steps p.tables e below (T.setTop g) t := by
  obtain ⟨v, _, ⟨T', L', k', n'⟩, -, X', ⟨L, hQ, q1, q2, q3⟩, st⟩ := X.specialBack hx (y := y) hy1 hown (mvT hZ w1) (mvT hZ w2) (mvT hZ w5) hy (backOf (W := W) hM hZ w5 w6 hf hl) hg hsize (Steps.refl _) (a := b) (argsL := argsL) (rest := rest) hlen hstack hW hd (fun _ _ => ⟨has, eT, hc, hs⟩)
  dsimp only [Pt.U, Pt.locs, Pt.cells, Pt.slots] at X' q1 q2 q3 st hQ
  subst q1 q2 q3
  exact ⟨T', L, v, X', hQ, fun t k => st.trans k⟩
/-- behind a call whose contract is 'Pu': nothing has moved -/
theorem own_pure {g : JFrame} {rest : List Value} {V : Value} {rc rs : Nat} (h1 : rc = 0) (h2 : rs = 0)
    (q : ∃ T' L v, Stand p l e R s m args below meth c T' (locs ++ L) (cells + rc) (slots + rs) ∧ Pu h (some V) v T'.heap L ∧ ∀ t, Steps p.tables e below (T'.setTop { g with pc := g.pc + 3, stack := v.toList ++ rest }) t → Steps p.tables e below (T.setTop g) t) :
    ∃ T', Stand p l e R s m args below meth c T' locs cells slots ∧ T'.heap = h ∧ ∀ t, Steps p.tables e below (T'.setTop { g with pc := g.pc + 3, stack := V :: rest }) t → Steps p.tables e below (T.setTop g) t := by
  subst h1 h2
  obtain ⟨T', L, v, X', ⟨rfl, rfl, e'⟩, st⟩ := q
  rw [List.append_nil] at X'
  exact ⟨T', X', e', st⟩
/-- the same for a call that returns nothing -/
theorem own_pureN {g : JFrame} {rest : List Value} {rc rs : Nat} (h1 : rc = 0) (h2 : rs = 0)
    (q : ∃ T' L v, Stand p l e R s m args below meth c T' (locs ++ L) (cells + rc) (slots + rs) ∧ Pu h none v T'.heap L ∧ ∀ t, Steps p.tables e below (T'.setTop { g with pc := g.pc + 3, stack := v.toList ++ rest }) t → Steps p.tables e below (T.setTop g) t) :
    ∃ T', Stand p l e R s m args below meth c T' locs cells slots ∧ T'.heap = h ∧ ∀ t, Steps p.tables e below (T'.setTop { g with pc := g.pc + 3, stack := rest }) t → Steps p.tables e below (T.setTop g) t := by
  subst h1 h2
  obtain ⟨T', L, v, X', ⟨rfl, rfl, e'⟩, st⟩ := q
  rw [List.append_nil] at X'
  exact ⟨T', X', e', st⟩
end Steps
/-- the same Stand at another state -/
def Same {p : Program} {l : Launch} {e : Env} {R : Room} {s : State} {m : MethodId} {args : Array Value} {below : List Frame} {meth : Method} {c : Code} {T : State} {locs : List Loc} {cells slots : Nat} (X : Stand p l e R s m args below meth c T locs cells slots) (T' : State) : Prop := Stand p l e R s m args below meth c T' locs cells slots
theorem Same.out {p : Program} {l : Launch} {e : Env} {R : Room} {s : State} {m : MethodId} {args : Array Value} {below : List Frame} {meth : Method} {c : Code} {T : State} {locs : List Loc} {cells slots : Nat} {X : Stand p l e R s m args below meth c T locs cells slots} {T' : State} (h : Same X T') : Stand p l e R s m args below meth c T' locs cells slots := h
theorem Same.mk {p : Program} {l : Launch} {e : Env} {R : Room} {s : State} {m : MethodId} {args : Array Value} {below : List Frame} {meth : Method} {c : Code} {T : State} {locs : List Loc} {cells slots : Nat} {X : Stand p l e R s m args below meth c T locs cells slots} {T' : State} (h : Stand p l e R s m args below meth c T' locs cells slots) : Same X T' := h
/-! heaps that keep the old cells -/
theorem own_ext0 (h : Heap) : Ext h h := ⟨Nat.le_refl _, fun _ _ q => q⟩
theorem own_extT {h1 h2 h3 : Heap} (a : Ext h1 h2) (b : Ext h2 h3) : Ext h1 h3 := ⟨Nat.le_trans a.1 b.1, fun x c q => b.2 x c (a.2 x c q)⟩
theorem own_extW {h0 h h' : Heap} {a : Addr} {sl : Nat} {v : Value} (x : Ext h0 h) (W : Wr h h' a sl v) (ha : h0.size ≤ a) : Ext h0 h' := by
  refine ⟨by rw [W.size]; exact x.1, fun b c q => ?_⟩
  obtain ⟨c', e1, -, -, -, e5, -⟩ := wr_at W (x.2 b c q)
  have hb : b < h0.size := (Array.getElem?_eq_some_iff.mp q).1
  rw [e1, e5 (fun z => absurd ha (by rw [← z]; exact Nat.not_le.mpr hb))]
/-- an array of references: just these values -/
def Al (Z : State) (h : Heap) (a : Addr) (k : ClassId) (C : String) (vs : List Value) : Prop := ∃ c : Cell, Arr Z h a c (.object C) ∧ c.cls = k ∧ c.slots = vs.toArray
theorem own_newA {Z : State} {h : Heap} {a : Addr} {k : ClassId} {C : String} {n : Int32} {vs : List Value} (A : Arr Z h a (newA k (.object C) n) (.object C)) (hv : List.replicate n.toNatClampNeg .null = vs) : Al Z h a k C vs := by
  subst hv
  exact ⟨_, A, rfl, by simp [newA, defaultValue]⟩
theorem Al.ext {Z : State} {h h' : Heap} {a : Addr} {k : ClassId} {C : String} {vs : List Value} (F : Al Z h a k C vs) (x : Ext h h') : Al Z h' a k C vs := by
  obtain ⟨c, A, q⟩ := F
  exact ⟨c, A.ext x, q⟩
theorem own_stA {p : Program} {l : Launch} {e : Env} {R : Room} {s : State} {m : MethodId} {args : Array Value} {below : List Frame} {meth : Method} {c : Code} {T : State} {locs : List Loc} {cells slots : Nat} {Z : State} {h : Heap} (X : Stand p l e R s m args below meth c T locs cells slots) (hx : p.tables.exec = Jvm.exec) (hZ : Z.Warmed39 s.vm) (eT : T.heap = h)
    {a : Addr} {k : ClassId} {C : String} {vs : List Value} (A : Al Z h a k C vs) (O : Ovr Z k C) {j : Int32} {v : Value} (hj : ¬ j < 0) (hl : j.toNatClampNeg < vs.length) (F : v = .null ∨ ∃ y, v = .ref y ∧ Exa Z h y C) {vs' : List Value} (hv : vs.set j.toNatClampNeg v = vs')
    {g : JFrame} (hg : g.method = m) {rest : List Value} (hs : g.stack = v :: .int j :: .ref a :: rest) (hd : decode c.code g.pc = .ok (.aastore, 1)) :
    ∃ T' h', Stand p l e R s m args below meth c T' (locs ++ [⟨a, j.toNatClampNeg⟩]) cells slots ∧ T'.heap = h' ∧ Wr h h' a j.toNatClampNeg v ∧ Al Z h' a k C vs' ∧ ∀ target, Steps p.tables e below (T'.setTop { g with pc := g.pc + 1, stack := rest }) target → Steps p.tables e below (T.setTop g) target := by
  obtain ⟨cl, A1, q1, q2⟩ := A
  subst hv
  have S : Sto Z h a v := by
    rcases F with rfl | ⟨y, rfl, E⟩
    · exact Or.inl rfl
    · exact Sto.ofV A1 q1 O (Ins.self E)
  obtain ⟨T', h', X', e', W, st⟩ := stR X hx hZ eT A1 (j := j) (fun q => q.elim hj (fun z => by rw [q2] at z; simp at z; omega)) rfl S hg hs hd
  exact ⟨T', h', X', e', W, ⟨_, Arr.same W A1, q1, by simp [Cell.setSlot, q2]⟩, st⟩
/-! from a case's words to facts of the heap -/
section Words
variable {Z : State} {args : Array Value}
theorem own_fld {t : Term} {C n d : String} {a : Addr} {k : Int32} (ev : t.eval args Z none [] Z = some (.ref a)) (h : (Jvm.Cond.eq (.field t C n d) (.int k)).value args Z none Z [] = some true) : Fld Z Z.heap a C n d (.int k) := by
  obtain ⟨x, y, h1, h2, -, h4⟩ := cmp_v (Or.inl h)
  cases h2
  obtain ⟨z, rfl⟩ := h4
  have h3 := h1
  rw [fld_at ev] at h3
  have e2 : (Term.int k).eval args Z none [] Z = some (.int k) := rfl
  have : z = k := by simpa [Jvm.Cond.value, h1, e2] using h
  subst this
  exact Fld.start h3
theorem own_ne {Z : State} {h : Heap} {a b : Addr} {C n d : String} {v w : Value} (F : Fld Z h a C n d v) (G : Fld Z h b C n d w) (hn : v ≠ w) : a ≠ b := fun q => by
  subst q
  obtain ⟨c1, _, _, _, f1, h1, h2, -, -, -, -, h7⟩ := F
  obtain ⟨c2, _, _, _, f2, g1, g2, -, -, -, -, g7⟩ := G
  cases h1.symm.trans g1
  cases h2.symm.trans g2
  exact hn (Option.some.inj (h7.symm.trans g7))
end Words
end Own
def Wd (Z : State) (h : Heap) (w : Nat → Addr) : Prop := Sta Z h "com/example/unfussy_switchboard/unfussyswitchboard/model/AgentState" "LOGOUT" "Lcom/example/unfussy_switchboard/unfussyswitchboard/model/AgentState;" (.ref (w 0)) ∧ Sta Z h "com/example/unfussy_switchboard/unfussyswitchboard/model/AgentState" "NOT_READY" "Lcom/example/unfussy_switchboard/unfussyswitchboard/model/AgentState;" (.ref (w 1)) ∧ Sta Z h "com/example/unfussy_switchboard/unfussyswitchboard/model/AgentState" "READY" "Lcom/example/unfussy_switchboard/unfussyswitchboard/model/AgentState;" (.ref (w 2)) ∧ Sta Z h "com/example/unfussy_switchboard/unfussyswitchboard/model/AgentState" "RESERVED" "Lcom/example/unfussy_switchboard/unfussyswitchboard/model/AgentState;" (.ref (w 3)) ∧ Sta Z h "com/example/unfussy_switchboard/unfussyswitchboard/model/AgentState" "TALKING" "Lcom/example/unfussy_switchboard/unfussyswitchboard/model/AgentState;" (.ref (w 4)) ∧ Sta Z h "com/example/unfussy_switchboard/unfussyswitchboard/model/AgentState" "HOLD" "Lcom/example/unfussy_switchboard/unfussyswitchboard/model/AgentState;" (.ref (w 5)) ∧ Sta Z h "com/example/unfussy_switchboard/unfussyswitchboard/model/AgentState" "WORK" "Lcom/example/unfussy_switchboard/unfussyswitchboard/model/AgentState;" (.ref (w 6)) ∧ Sta Z h "com/example/unfussy_switchboard/unfussyswitchboard/model/AgentState" "WORK_READY" "Lcom/example/unfussy_switchboard/unfussyswitchboard/model/AgentState;" (.ref (w 7)) ∧ (∀ i, i < 8 → Exa Z h (w i) "com/example/unfussy_switchboard/unfussyswitchboard/model/AgentState") ∧ (∀ i, i < 8 → Fld Z h (w i) "java/lang/Enum" "ordinal" "I" (.int (Int32.ofNat i)))
theorem own_inj {Z : State} {h : Heap} {w : Nat → Addr} (F : ∀ i, i < 8 → Fld Z h (w i) "java/lang/Enum" "ordinal" "I" (.int (Int32.ofNat i))) {i j : Nat} (hi : i < 8) (hj : j < 8) (hn : Int32.ofNat i ≠ Int32.ofNat j) : ¬ w i = w j := own_ne (F i hi) (F j hj) (fun q => hn (Value.int.inj q))
theorem Wd.ext {Z : State} {h h' : Heap} {w : Nat → Addr} (D : Wd Z h w) (x : Ext h h') : Wd Z h' w := by
  obtain ⟨S0, S1, S2, S3, S4, S5, S6, S7, Ex, Fo⟩ := D
  exact ⟨(S0.ext x), (S1.ext x), (S2.ext x), (S3.ext x), (S4.ext x), (S5.ext x), (S6.ext x), (S7.ext x), (fun i hi => (Ex i hi).ext x), (fun i hi => (Fo i hi).ext x)⟩
theorem own_ofNat {i j : Nat} (hi : i < 8) (hj : j < 8) (hn : i ≠ j) : Int32.ofNat i ≠ Int32.ofNat j := fun q => hn (by
  have h := congrArg Int32.toInt q
  rw [Int32.toInt_ofNat_small (by omega), Int32.toInt_ofNat_small (by omega)] at h
  omega)
theorem own_c8 {i : Int32} (h : 0 ≤ i.toInt ∧ i.toInt < 8) : i = 0 ∨ i = 1 ∨ i = 2 ∨ i = 3 ∨ i = 4 ∨ i = 5 ∨ i = 6 ∨ i = 7 := by
  simp only [← Int32.toInt_inj, (by decide : (0 : Int32).toInt = 0), (by decide : (1 : Int32).toInt = 1), (by decide : (2 : Int32).toInt = 2), (by decide : (3 : Int32).toInt = 3), (by decide : (4 : Int32).toInt = 4), (by decide : (5 : Int32).toInt = 5), (by decide : (6 : Int32).toInt = 6), (by decide : (7 : Int32).toInt = 7)]
  omega
def stl (b pd : Value) : Value := if pd = .null then b else pd
def wrp (w : Nat → Addr) (t : Value) : Value := if t = .ref (w 2) then .ref (w 7) else if t = .ref (w 7) then .ref (w 7) else .ref (w 6)
def acv (w : Nat → Addr) (b pd : Value) (wr : Int32) : Value := if wr = 0 then stl b pd else wrp w (stl b pd)
def awv (w : Nat → Addr) (a : Addr) : Value := if a = w 6 then .ref (w 1) else if a = w 7 then .ref (w 2) else .null
def exq (w : Nat → Addr) (i : Int32) : Value := if i = 6 then .ref (w 1) else if i = 7 then .ref (w 2) else .null
def wrA (w : Nat → Addr) (a : Addr) : Addr := if a = w 2 then w 7 else if a = w 7 then w 7 else w 6
theorem awv_ref (w : Nat → Addr) (a : Addr) : (awv w a).isRef = true := by
  unfold awv
  repeat' split
  all_goals rfl
theorem exq_ref (w : Nat → Addr) (i : Int32) : (exq w i).isRef = true := by
  unfold exq
  repeat' split
  all_goals rfl
theorem wrp_ref (w : Nat → Addr) (a : Addr) : wrp w (.ref a) = .ref (wrA w a) := by
  simp only [wrp, wrA, Value.ref.injEq]
  split
  · rfl
  · split <;> rfl
theorem acv_n (w : Nat → Addr) (a : Addr) : acv w (.ref a) .null 1 = .ref (wrA w a) := by
  rw [acv, if_neg (by decide), stl, if_pos rfl]; exact wrp_ref w a
theorem acv_r (w : Nat → Addr) (a b : Addr) : acv w (.ref a) (.ref b) 1 = .ref (wrA w b) := by
  rw [acv, if_neg (by decide), stl, if_neg (by simp)]; exact wrp_ref w b
theorem wrA_exa {Z : State} {h : Heap} {w : Nat → Addr} {C : String} (E : ∀ i, i < 8 → Exa Z h (w i) C) (a : Addr) : Exa Z h (wrA w a) C := by
  unfold wrA
  repeat' split
  · exact E 7 (by decide)
  · exact E 7 (by decide)
  · exact E 6 (by decide)
def wru (w : Nat → Addr) (a : Addr) : Int32 := if a = w 6 then 1 else if a = w 7 then 1 else 0
theorem wru_eq (w : Nat → Addr) (a : Addr) : wru w a = if awv w a = .null then 0 else 1 := by
  by_cases h6 : a = w 6
  · rw [wru, if_pos h6, awv, if_pos h6]; rfl
  · by_cases h7 : a = w 7
    · rw [wru, if_neg h6, if_pos h7, awv, if_neg h6, if_pos h7]; rfl
    · rw [wru, if_neg h6, if_neg h7, awv, if_neg h6, if_neg h7]; rfl
theorem awq {w : Nat → Addr} (hI : ∀ i j, i < 8 → j < 8 → i ≠ j → ¬ w i = w j) {i : Int32} (Ri : 0 ≤ i.toInt ∧ i.toInt < 8) : awv w (w i.toNatClampNeg) = exq w i := by
  rcases own_c8 Ri with rfl | rfl | rfl | rfl | rfl | rfl | rfl | rfl
  · show awv w (w 0) = _
    simp [awv, exq, hI 0 6 (by decide) (by decide) (by decide), hI 1 6 (by decide) (by decide) (by decide), hI 2 6 (by decide) (by decide) (by decide), hI 3 6 (by decide) (by decide) (by decide), hI 4 6 (by decide) (by decide) (by decide), hI 5 6 (by decide) (by decide) (by decide), hI 7 6 (by decide) (by decide) (by decide), hI 0 7 (by decide) (by decide) (by decide), hI 1 7 (by decide) (by decide) (by decide), hI 2 7 (by decide) (by decide) (by decide), hI 3 7 (by decide) (by decide) (by decide), hI 4 7 (by decide) (by decide) (by decide), hI 5 7 (by decide) (by decide) (by decide), hI 6 7 (by decide) (by decide) (by decide)]
  · show awv w (w 1) = _
    simp [awv, exq, hI 0 6 (by decide) (by decide) (by decide), hI 1 6 (by decide) (by decide) (by decide), hI 2 6 (by decide) (by decide) (by decide), hI 3 6 (by decide) (by decide) (by decide), hI 4 6 (by decide) (by decide) (by decide), hI 5 6 (by decide) (by decide) (by decide), hI 7 6 (by decide) (by decide) (by decide), hI 0 7 (by decide) (by decide) (by decide), hI 1 7 (by decide) (by decide) (by decide), hI 2 7 (by decide) (by decide) (by decide), hI 3 7 (by decide) (by decide) (by decide), hI 4 7 (by decide) (by decide) (by decide), hI 5 7 (by decide) (by decide) (by decide), hI 6 7 (by decide) (by decide) (by decide)]
  · show awv w (w 2) = _
    simp [awv, exq, hI 0 6 (by decide) (by decide) (by decide), hI 1 6 (by decide) (by decide) (by decide), hI 2 6 (by decide) (by decide) (by decide), hI 3 6 (by decide) (by decide) (by decide), hI 4 6 (by decide) (by decide) (by decide), hI 5 6 (by decide) (by decide) (by decide), hI 7 6 (by decide) (by decide) (by decide), hI 0 7 (by decide) (by decide) (by decide), hI 1 7 (by decide) (by decide) (by decide), hI 2 7 (by decide) (by decide) (by decide), hI 3 7 (by decide) (by decide) (by decide), hI 4 7 (by decide) (by decide) (by decide), hI 5 7 (by decide) (by decide) (by decide), hI 6 7 (by decide) (by decide) (by decide)]
  · show awv w (w 3) = _
    simp [awv, exq, hI 0 6 (by decide) (by decide) (by decide), hI 1 6 (by decide) (by decide) (by decide), hI 2 6 (by decide) (by decide) (by decide), hI 3 6 (by decide) (by decide) (by decide), hI 4 6 (by decide) (by decide) (by decide), hI 5 6 (by decide) (by decide) (by decide), hI 7 6 (by decide) (by decide) (by decide), hI 0 7 (by decide) (by decide) (by decide), hI 1 7 (by decide) (by decide) (by decide), hI 2 7 (by decide) (by decide) (by decide), hI 3 7 (by decide) (by decide) (by decide), hI 4 7 (by decide) (by decide) (by decide), hI 5 7 (by decide) (by decide) (by decide), hI 6 7 (by decide) (by decide) (by decide)]
  · show awv w (w 4) = _
    simp [awv, exq, hI 0 6 (by decide) (by decide) (by decide), hI 1 6 (by decide) (by decide) (by decide), hI 2 6 (by decide) (by decide) (by decide), hI 3 6 (by decide) (by decide) (by decide), hI 4 6 (by decide) (by decide) (by decide), hI 5 6 (by decide) (by decide) (by decide), hI 7 6 (by decide) (by decide) (by decide), hI 0 7 (by decide) (by decide) (by decide), hI 1 7 (by decide) (by decide) (by decide), hI 2 7 (by decide) (by decide) (by decide), hI 3 7 (by decide) (by decide) (by decide), hI 4 7 (by decide) (by decide) (by decide), hI 5 7 (by decide) (by decide) (by decide), hI 6 7 (by decide) (by decide) (by decide)]
  · show awv w (w 5) = _
    simp [awv, exq, hI 0 6 (by decide) (by decide) (by decide), hI 1 6 (by decide) (by decide) (by decide), hI 2 6 (by decide) (by decide) (by decide), hI 3 6 (by decide) (by decide) (by decide), hI 4 6 (by decide) (by decide) (by decide), hI 5 6 (by decide) (by decide) (by decide), hI 7 6 (by decide) (by decide) (by decide), hI 0 7 (by decide) (by decide) (by decide), hI 1 7 (by decide) (by decide) (by decide), hI 2 7 (by decide) (by decide) (by decide), hI 3 7 (by decide) (by decide) (by decide), hI 4 7 (by decide) (by decide) (by decide), hI 5 7 (by decide) (by decide) (by decide), hI 6 7 (by decide) (by decide) (by decide)]
  · show awv w (w 6) = _
    simp [awv, exq, hI 0 6 (by decide) (by decide) (by decide), hI 1 6 (by decide) (by decide) (by decide), hI 2 6 (by decide) (by decide) (by decide), hI 3 6 (by decide) (by decide) (by decide), hI 4 6 (by decide) (by decide) (by decide), hI 5 6 (by decide) (by decide) (by decide), hI 7 6 (by decide) (by decide) (by decide), hI 0 7 (by decide) (by decide) (by decide), hI 1 7 (by decide) (by decide) (by decide), hI 2 7 (by decide) (by decide) (by decide), hI 3 7 (by decide) (by decide) (by decide), hI 4 7 (by decide) (by decide) (by decide), hI 5 7 (by decide) (by decide) (by decide), hI 6 7 (by decide) (by decide) (by decide)]
  · show awv w (w 7) = _
    simp [awv, exq, hI 0 6 (by decide) (by decide) (by decide), hI 1 6 (by decide) (by decide) (by decide), hI 2 6 (by decide) (by decide) (by decide), hI 3 6 (by decide) (by decide) (by decide), hI 4 6 (by decide) (by decide) (by decide), hI 5 6 (by decide) (by decide) (by decide), hI 7 6 (by decide) (by decide) (by decide), hI 0 7 (by decide) (by decide) (by decide), hI 1 7 (by decide) (by decide) (by decide), hI 2 7 (by decide) (by decide) (by decide), hI 3 7 (by decide) (by decide) (by decide), hI 4 7 (by decide) (by decide) (by decide), hI 5 7 (by decide) (by decide) (by decide), hI 6 7 (by decide) (by decide) (by decide)]
theorem awv7 {w : Nat → Addr} (hI : ∀ i j, i < 8 → j < 8 → i ≠ j → ¬ w i = w j) : awv w (w 7) = .ref (w 2) := by simp [awv, hI 7 6 (by decide) (by decide) (by decide)]
theorem awv6 (w : Nat → Addr) : awv w (w 6) = .ref (w 1) := by simp [awv]
theorem own_nn {i : Int32} (Ri : 0 ≤ i.toInt ∧ i.toInt < 8) : ¬ i < 0 ∧ i.toNatClampNeg < 8 := by
  rcases own_c8 Ri with rfl | rfl | rfl | rfl | rfl | rfl | rfl | rfl <;> decide
theorem own_and7 (x : Int32) : 0 ≤ (x &&& 7).toInt ∧ (x &&& 7).toInt < 8 := by
  have := c_and x 7 (by decide)
  rw [(by decide : (7 : Int32).toInt = 7)] at this
  omega
theorem dc1_0 : decode prog_16_method_10_code 0 = .ok (.aconst_null, 1) := by decide +kernel
theorem dc1_1 : decode prog_16_method_10_code 1 = .ok (.astore_n 1, 1) := by decide +kernel
theorem dc1_2 : decode prog_16_method_10_code 2 = .ok (.aload_n 0, 1) := by decide +kernel
theorem dc1_3 : decode prog_16_method_10_code 3 = .ok (.getstatic 22, 3) := by decide +kernel
theorem dc1_6 : decode prog_16_method_10_code 6 = .ok (.if_acmp .ne 10, 3) := by decide +kernel
theorem dc1_9 : decode prog_16_method_10_code 9 = .ok (.getstatic 7, 3) := by decide +kernel
theorem dc1_12 : decode prog_16_method_10_code 12 = .ok (.astore_n 1, 1) := by decide +kernel
theorem dc1_13 : decode prog_16_method_10_code 13 = .ok (.goto 14, 3) := by decide +kernel
theorem dc1_16 : decode prog_16_method_10_code 16 = .ok (.aload_n 0, 1) := by decide +kernel
theorem dc1_17 : decode prog_16_method_10_code 17 = .ok (.getstatic 25, 3) := by decide +kernel
theorem dc1_20 : decode prog_16_method_10_code 20 = .ok (.if_acmp .ne 7, 3) := by decide +kernel
theorem dc1_23 : decode prog_16_method_10_code 23 = .ok (.getstatic 10, 3) := by decide +kernel
theorem dc1_26 : decode prog_16_method_10_code 26 = .ok (.astore_n 1, 1) := by decide +kernel
theorem dc1_27 : decode prog_16_method_10_code 27 = .ok (.aload_n 1, 1) := by decide +kernel
theorem dc1_28 : decode prog_16_method_10_code 28 = .ok (.areturn, 1) := by decide +kernel
theorem pn_c1 : plainFor (⟨"com/example/unfussy_switchboard/unfussyswitchboard/model/AgentState", "afterWrapUp", "()Lcom/example/unfussy_switchboard/unfussyswitchboard/model/AgentState;"⟩ : MethodName) = true := by first | (refine plainFor_of_name ?_; simp [plainName, overriddenIn]; done) | (refine plainFor_of_name ?_; decide +kernel) | decide +kernel
theorem ef_c1 (m : MethodId) (a : Addr) : entryFrame m #[(.ref a)] 2 = mkF m 0 #[.val (.ref a), .unset] [] := by first | (simp [entryFrame, mkF, argsToLocals, Value.category]; done) | rfl
set_option maxRecDepth 65536 in
set_option maxHeartbeats 40000000 in
theorem c1 (l : Launch) (Z : State) (a0 : Array Value) (hw : ∀ d ∈ tables_1, d.before a0 Z = true) (w : Nat → Addr) (h0 : Heap) (D : Wd Z h0 w) (a : Addr) (r : Value) (hr : awv w a = r) :
    Ct l Z (⟨"com/example/unfussy_switchboard/unfussyswitchboard/model/AgentState", "afterWrapUp", "()Lcom/example/unfussy_switchboard/unfussyswitchboard/model/AgentState;"⟩ : MethodName) prog_16_method_10_code 2 (some (.object "com/example/unfussy_switchboard/unfussyswitchboard/model/AgentState")) [] ({ frames := 0, cells := 0, slots := 0, locals := 0 } : Room) #[(.ref a)] h0 (Pu h0 (some r)) := by
  refine own_met pn_c1 ?_
  intro p e s m below meth c s₁ X0 hx hby hml hret hown hnm hlk hZ e0
  subst hr
  obtain ⟨S0, S1, S2, S3, S4, S5, S6, S7, Ex, Fo⟩ := D
  refine Go.cast (ef_c1 m a) ?_
  show Go p e below _ s₁ (mkF m 0 #[.val (.ref a), .unset] [])
  refine Go.of (fun _ k => XS.aconstNull X0.here hx rfl (hb hby dc1_0) k) ?_
  show Go p e below _ s₁ (mkF m 1 #[.val (.ref a), .unset] [.null])
  refine Go.of (fun _ k => XS.astoreN X0.here hx rfl (hb hby dc1_1) rfl rfl (l' := #[.val (.ref a), .val .null]) rfl k) ?_
  show Go p e below _ s₁ (mkF m 2 #[.val (.ref a), .val .null] [])
  refine Go.of (fun _ k => XS.aloadN X0.here hx rfl (hb hby dc1_2) rfl rfl k) ?_
  show Go p e below _ s₁ (mkF m 3 #[.val (.ref a), .val .null] [(.ref a)])
  obtain ⟨T1, X1, e1, st1⟩ := getS2 X0 hx hZ hown (host := "") (Or.inl (hw _ (List.mem_of_getElem? (i := 25) rfl))) Via.refl e0 S6 (g := (mkF m 3 #[.val (.ref a), .val .null] [(.ref a)])) rfl (hb hby dc1_3)
  refine Go.of st1 ?_
  show Go p e below _ T1 (mkF m 6 #[.val (.ref a), .val .null] [(.ref (w 6)), (.ref a)])
  by_cases hc6_2 : a = (w 6)
  ·
    refine Go.of (fun _ k => XT.acmpNo X1.here hx rfl (hb hby dc1_6) rfl rfl rfl (XT.aa_ne_f (congrArg Value.ref hc6_2)) k) ?_
    show Go p e below _ T1 (mkF m 9 #[.val (.ref a), .val .null] [])
    obtain ⟨T3, X3, e3, st3⟩ := getS2 X1 hx hZ hown (host := "") (Or.inl (hw _ (List.mem_of_getElem? (i := 36) rfl))) Via.refl e1 S1 (g := (mkF m 9 #[.val (.ref a), .val .null] [])) rfl (hb hby dc1_9)
    refine Go.of st3 ?_
    show Go p e below _ T3 (mkF m 12 #[.val (.ref a), .val .null] [(.ref (w 1))])
    refine Go.of (fun _ k => XS.astoreN X3.here hx rfl (hb hby dc1_12) rfl rfl (l' := #[.val (.ref a), .val (.ref (w 1))]) rfl k) ?_
    show Go p e below _ T3 (mkF m 13 #[.val (.ref a), .val (.ref (w 1))] [])
    refine Go.of (fun _ k => XS.goto X3.here hx rfl (pc0 := 13) (pc' := 27) rfl (hb hby dc1_13) (by decide) (by decide) k) ?_
    show Go p e below _ T3 (mkF m 27 #[.val (.ref a), .val (.ref (w 1))] [])
    refine Go.of (fun _ k => XS.aloadN X3.here hx rfl (hb hby dc1_27) rfl rfl k) ?_
    show Go p e below _ T3 (mkF m 28 #[.val (.ref a), .val (.ref (w 1))] [(.ref (w 1))])
    exact own_retA X3 hx hlk hret rfl rfl (hb hby dc1_28) ⟨by rw [awv, if_pos hc6_2], rfl, e3⟩ (by decide) (by decide)
  ·
    refine Go.of (fun _ k => XT.acmpYes X1.here hx rfl (pc0 := 6) (pc' := 16) rfl (hb hby dc1_6) rfl rfl rfl (XT.aa_ne_t (fun q => hc6_2 (Value.ref.inj q))) (by decide) (by decide) k) ?_
    show Go p e below _ T1 (mkF m 16 #[.val (.ref a), .val .null] [])
    refine Go.of (fun _ k => XS.aloadN X1.here hx rfl (hb hby dc1_16) rfl rfl k) ?_
    show Go p e below _ T1 (mkF m 17 #[.val (.ref a), .val .null] [(.ref a)])
    obtain ⟨T4, X4, e4, st4⟩ := getS2 X1 hx hZ hown (host := "") (Or.inl (hw _ (List.mem_of_getElem? (i := 26) rfl))) Via.refl e1 S7 (g := (mkF m 17 #[.val (.ref a), .val .null] [(.ref a)])) rfl (hb hby dc1_17)
    refine Go.of st4 ?_
    show Go p e below _ T4 (mkF m 20 #[.val (.ref a), .val .null] [(.ref (w 7)), (.ref a)])
    by_cases hc20_5 : a = (w 7)
    ·
      refine Go.of (fun _ k => XT.acmpNo X4.here hx rfl (hb hby dc1_20) rfl rfl rfl (XT.aa_ne_f (congrArg Value.ref hc20_5)) k) ?_
      show Go p e below _ T4 (mkF m 23 #[.val (.ref a), .val .null] [])
      obtain ⟨T6, X6, e6, st6⟩ := getS2 X4 hx hZ hown (host := "") (Or.inl (hw _ (List.mem_of_getElem? (i := 35) rfl))) Via.refl e4 S2 (g := (mkF m 23 #[.val (.ref a), .val .null] [])) rfl (hb hby dc1_23)
      refine Go.of st6 ?_
      show Go p e below _ T6 (mkF m 26 #[.val (.ref a), .val .null] [(.ref (w 2))])
      refine Go.of (fun _ k => XS.astoreN X6.here hx rfl (hb hby dc1_26) rfl rfl (l' := #[.val (.ref a), .val (.ref (w 2))]) rfl k) ?_
      show Go p e below _ T6 (mkF m 27 #[.val (.ref a), .val (.ref (w 2))] [])
      refine Go.of (fun _ k => XS.aloadN X6.here hx rfl (hb hby dc1_27) rfl rfl k) ?_
      show Go p e below _ T6 (mkF m 28 #[.val (.ref a), .val (.ref (w 2))] [(.ref (w 2))])
      exact own_retA X6 hx hlk hret rfl rfl (hb hby dc1_28) ⟨by rw [awv, if_neg hc6_2, if_pos hc20_5], rfl, e6⟩ (by decide) (by decide)
    ·
      refine Go.of (fun _ k => XT.acmpYes X4.here hx rfl (pc0 := 20) (pc' := 27) rfl (hb hby dc1_20) rfl rfl rfl (XT.aa_ne_t (fun q => hc20_5 (Value.ref.inj q))) (by decide) (by decide) k) ?_
      show Go p e below _ T4 (mkF m 27 #[.val (.ref a), .val .null] [])
      refine Go.of (fun _ k => XS.aloadN X4.here hx rfl (hb hby dc1_27) rfl rfl k) ?_
      show Go p e below _ T4 (mkF m 28 #[.val (.ref a), .val .null] [.null])
      exact own_retA X4 hx hlk hret rfl rfl (hb hby dc1_28) ⟨by rw [awv, if_neg hc6_2, if_neg hc20_5], rfl, e4⟩ (by decide) (by decide)
theorem dc2_0 : decode prog_16_method_8_code 0 = .ok (.aload_n 0, 1) := by decide +kernel
theorem dc2_1 : decode prog_16_method_8_code 1 = .ok (.getstatic 22, 3) := by decide +kernel
theorem dc2_4 : decode prog_16_method_8_code 4 = .ok (.if_acmp .eq 10, 3) := by decide +kernel
theorem dc2_7 : decode prog_16_method_8_code 7 = .ok (.aload_n 0, 1) := by decide +kernel
theorem dc2_8 : decode prog_16_method_8_code 8 = .ok (.getstatic 25, 3) := by decide +kernel
theorem dc2_11 : decode prog_16_method_8_code 11 = .ok (.if_acmp .ne 7, 3) := by decide +kernel
theorem dc2_14 : decode prog_16_method_8_code 14 = .ok (.iconst 1, 1) := by decide +kernel
theorem dc2_15 : decode prog_16_method_8_code 15 = .ok (.goto 4, 3) := by decide +kernel
theorem dc2_18 : decode prog_16_method_8_code 18 = .ok (.iconst 0, 1) := by decide +kernel
theorem dc2_19 : decode prog_16_method_8_code 19 = .ok (.ireturn, 1) := by decide +kernel
theorem pn_c2 : plainFor (⟨"com/example/unfussy_switchboard/unfussyswitchboard/model/AgentState", "isWrappingUp", "()Z"⟩ : MethodName) = true := by first | (refine plainFor_of_name ?_; simp [plainName, overriddenIn]; done) | (refine plainFor_of_name ?_; decide +kernel) | decide +kernel
theorem ef_c2 (m : MethodId) (a : Addr) : entryFrame m #[(.ref a)] 1 = mkF m 0 #[.val (.ref a)] [] := by first | (simp [entryFrame, mkF, argsToLocals, Value.category]; done) | rfl
set_option maxRecDepth 65536 in
set_option maxHeartbeats 40000000 in
theorem c2 (l : Launch) (Z : State) (a0 : Array Value) (hw : ∀ d ∈ tables_1, d.before a0 Z = true) (w : Nat → Addr) (h0 : Heap) (D : Wd Z h0 w) (a : Addr) (r : Int32) (hr : wru w a = r) :
    Ct l Z (⟨"com/example/unfussy_switchboard/unfussyswitchboard/model/AgentState", "isWrappingUp", "()Z"⟩ : MethodName) prog_16_method_8_code 1 (some .boolean) [] ({ frames := 0, cells := 0, slots := 0, locals := 0 } : Room) #[(.ref a)] h0 (Pu h0 (some (.int r))) := by
  refine own_met pn_c2 ?_
  intro p e s m below meth c s₁ X0 hx hby hml hret hown hnm hlk hZ e0
  subst hr
  obtain ⟨S0, S1, S2, S3, S4, S5, S6, S7, Ex, Fo⟩ := D
  refine Go.cast (ef_c2 m a) ?_
  show Go p e below _ s₁ (mkF m 0 #[.val (.ref a)] [])
  refine Go.of (fun _ k => XS.aloadN X0.here hx rfl (hb hby dc2_0) rfl rfl k) ?_
  show Go p e below _ s₁ (mkF m 1 #[.val (.ref a)] [(.ref a)])
  obtain ⟨T1, X1, e1, st1⟩ := getS2 X0 hx hZ hown (host := "") (Or.inl (hw _ (List.mem_of_getElem? (i := 25) rfl))) Via.refl e0 S6 (g := (mkF m 1 #[.val (.ref a)] [(.ref a)])) rfl (hb hby dc2_1)
  refine Go.of st1 ?_
  show Go p e below _ T1 (mkF m 4 #[.val (.ref a)] [(.ref (w 6)), (.ref a)])
  by_cases hc4_2 : a = (w 6)
  ·
    refine Go.of (fun _ k => XT.acmpYes X1.here hx rfl (pc0 := 4) (pc' := 14) rfl (hb hby dc2_4) rfl rfl rfl (XT.aa_eq_t (congrArg Value.ref hc4_2)) (by decide) (by decide) k) ?_
    show Go p e below _ T1 (mkF m 14 #[.val (.ref a)] [])
    refine Go.of (fun _ k => XS.iconst X1.here hx rfl (hb hby dc2_14) k) ?_
    show Go p e below _ T1 (mkF m 15 #[.val (.ref a)] [(.int (1 : Int32))])
    refine Go.of (fun _ k => XS.goto X1.here hx rfl (pc0 := 15) (pc' := 19) rfl (hb hby dc2_15) (by decide) (by decide) k) ?_
    show Go p e below _ T1 (mkF m 19 #[.val (.ref a)] [(.int (1 : Int32))])
    exact own_retZ (z' := (1 : Int32)) X1 hx hlk hret (hb hby dc2_19) rfl ⟨by rw [wru, if_pos hc4_2], rfl, e1⟩ (by decide) (by decide)
  ·
    refine Go.of (fun _ k => XT.acmpNo X1.here hx rfl (hb hby dc2_4) rfl rfl rfl (XT.aa_eq_f (fun q => hc4_2 (Value.ref.inj q))) k) ?_
    show Go p e below _ T1 (mkF m 7 #[.val (.ref a)] [])
    refine Go.of (fun _ k => XS.aloadN X1.here hx rfl (hb hby dc2_7) rfl rfl k) ?_
    show Go p e below _ T1 (mkF m 8 #[.val (.ref a)] [(.ref a)])
    obtain ⟨T3, X3, e3, st3⟩ := getS2 X1 hx hZ hown (host := "") (Or.inl (hw _ (List.mem_of_getElem? (i := 26) rfl))) Via.refl e1 S7 (g := (mkF m 8 #[.val (.ref a)] [(.ref a)])) rfl (hb hby dc2_8)
    refine Go.of st3 ?_
    show Go p e below _ T3 (mkF m 11 #[.val (.ref a)] [(.ref (w 7)), (.ref a)])
    by_cases hc11_4 : a = (w 7)
    ·
      refine Go.of (fun _ k => XT.acmpNo X3.here hx rfl (hb hby dc2_11) rfl rfl rfl (XT.aa_ne_f (congrArg Value.ref hc11_4)) k) ?_
      show Go p e below _ T3 (mkF m 14 #[.val (.ref a)] [])
      refine Go.of (fun _ k => XS.iconst X3.here hx rfl (hb hby dc2_14) k) ?_
      show Go p e below _ T3 (mkF m 15 #[.val (.ref a)] [(.int (1 : Int32))])
      refine Go.of (fun _ k => XS.goto X3.here hx rfl (pc0 := 15) (pc' := 19) rfl (hb hby dc2_15) (by decide) (by decide) k) ?_
      show Go p e below _ T3 (mkF m 19 #[.val (.ref a)] [(.int (1 : Int32))])
      exact own_retZ (z' := (1 : Int32)) X3 hx hlk hret (hb hby dc2_19) rfl ⟨by rw [wru, if_neg hc4_2, if_pos hc11_4], rfl, e3⟩ (by decide) (by decide)
    ·
      refine Go.of (fun _ k => XT.acmpYes X3.here hx rfl (pc0 := 11) (pc' := 18) rfl (hb hby dc2_11) rfl rfl rfl (XT.aa_ne_t (fun q => hc11_4 (Value.ref.inj q))) (by decide) (by decide) k) ?_
      show Go p e below _ T3 (mkF m 18 #[.val (.ref a)] [])
      refine Go.of (fun _ k => XS.iconst X3.here hx rfl (hb hby dc2_18) k) ?_
      show Go p e below _ T3 (mkF m 19 #[.val (.ref a)] [(.int (0 : Int32))])
      exact own_retZ (z' := (0 : Int32)) X3 hx hlk hret (hb hby dc2_19) rfl ⟨by rw [wru, if_neg hc4_2, if_neg hc11_4], rfl, e3⟩ (by decide) (by decide)
theorem dc3_0 : decode prog_16_method_9_code 0 = .ok (.aload_n 1, 1) := by decide +kernel
theorem dc3_1 : decode prog_16_method_9_code 1 = .ok (.ifnull 7, 3) := by decide +kernel
theorem dc3_4 : decode prog_16_method_9_code 4 = .ok (.aload_n 1, 1) := by decide +kernel
theorem dc3_5 : decode prog_16_method_9_code 5 = .ok (.goto 4, 3) := by decide +kernel
theorem dc3_8 : decode prog_16_method_9_code 8 = .ok (.aload_n 0, 1) := by decide +kernel
theorem dc3_9 : decode prog_16_method_9_code 9 = .ok (.astore_n 3, 1) := by decide +kernel
theorem dc3_10 : decode prog_16_method_9_code 10 = .ok (.iload_n 2, 1) := by decide +kernel
theorem dc3_11 : decode prog_16_method_9_code 11 = .ok (.ifCond .ne 9, 3) := by decide +kernel
theorem dc3_14 : decode prog_16_method_9_code 14 = .ok (.aload_n 3, 1) := by decide +kernel
theorem dc3_15 : decode prog_16_method_9_code 15 = .ok (.astore 4, 2) := by decide +kernel
theorem dc3_17 : decode prog_16_method_9_code 17 = .ok (.goto 30, 3) := by decide +kernel
theorem dc3_20 : decode prog_16_method_9_code 20 = .ok (.aload_n 3, 1) := by decide +kernel
theorem dc3_21 : decode prog_16_method_9_code 21 = .ok (.getstatic 10, 3) := by decide +kernel
theorem dc3_24 : decode prog_16_method_9_code 24 = .ok (.if_acmp .eq 10, 3) := by decide +kernel
theorem dc3_27 : decode prog_16_method_9_code 27 = .ok (.aload_n 3, 1) := by decide +kernel
theorem dc3_28 : decode prog_16_method_9_code 28 = .ok (.getstatic 25, 3) := by decide +kernel
theorem dc3_31 : decode prog_16_method_9_code 31 = .ok (.if_acmp .ne 11, 3) := by decide +kernel
theorem dc3_34 : decode prog_16_method_9_code 34 = .ok (.getstatic 25, 3) := by decide +kernel
theorem dc3_37 : decode prog_16_method_9_code 37 = .ok (.astore 4, 2) := by decide +kernel
theorem dc3_39 : decode prog_16_method_9_code 39 = .ok (.goto 8, 3) := by decide +kernel
theorem dc3_42 : decode prog_16_method_9_code 42 = .ok (.getstatic 22, 3) := by decide +kernel
theorem dc3_45 : decode prog_16_method_9_code 45 = .ok (.astore 4, 2) := by decide +kernel
theorem dc3_47 : decode prog_16_method_9_code 47 = .ok (.aload 4, 2) := by decide +kernel
theorem dc3_49 : decode prog_16_method_9_code 49 = .ok (.areturn, 1) := by decide +kernel
theorem pn_c3 : plainFor (⟨"com/example/unfussy_switchboard/unfussyswitchboard/model/AgentState", "afterCall", "(Lcom/example/unfussy_switchboard/unfussyswitchboard/model/AgentState;Lcom/example/unfussy_switchboard/unfussyswitchboard/model/AgentState;Z)Lcom/example/unfussy_switchboard/unfussyswitchboard/model/AgentState;"⟩ : MethodName) = true := by first | (refine plainFor_of_name ?_; simp [plainName, overriddenIn]; done) | (refine plainFor_of_name ?_; decide +kernel) | decide +kernel
theorem ef_c3 (m : MethodId) (b : Value) (pd : Value) (wr : Int32) (hb' : b.isRef = true) (hp' : pd.isRef = true) : entryFrame m #[b, pd, (.int wr)] 5 = mkF m 0 #[.val b, .val pd, .val (.int wr), .unset, .unset] [] := by rcases ref_cases hb' with rfl | ⟨q0, rfl⟩ <;> rcases ref_cases hp' with rfl | ⟨q1, rfl⟩ <;> first | (simp [entryFrame, mkF, argsToLocals, Value.category]; done) | rfl
set_option maxRecDepth 65536 in
set_option maxHeartbeats 40000000 in
theorem c3 (l : Launch) (Z : State) (a0 : Array Value) (hw : ∀ d ∈ tables_1, d.before a0 Z = true) (w : Nat → Addr) (h0 : Heap) (D : Wd Z h0 w) (b pd : Value) (hb' : b.isRef = true) (hp' : pd.isRef = true) (wr : Int32) (r : Value) (hr : acv w b pd wr = r) :
    Ct l Z (⟨"com/example/unfussy_switchboard/unfussyswitchboard/model/AgentState", "afterCall", "(Lcom/example/unfussy_switchboard/unfussyswitchboard/model/AgentState;Lcom/example/unfussy_switchboard/unfussyswitchboard/model/AgentState;Z)Lcom/example/unfussy_switchboard/unfussyswitchboard/model/AgentState;"⟩ : MethodName) prog_16_method_9_code 5 (some (.object "com/example/unfussy_switchboard/unfussyswitchboard/model/AgentState")) [] ({ frames := 0, cells := 0, slots := 0, locals := 0 } : Room) #[b, pd, (.int wr)] h0 (Pu h0 (some r)) := by
  refine own_met pn_c3 ?_
  intro p e s m below meth c s₁ X0 hx hby hml hret hown hnm hlk hZ e0
  subst hr
  obtain ⟨S0, S1, S2, S3, S4, S5, S6, S7, Ex, Fo⟩ := D
  refine Go.cast (ef_c3 m b pd wr hb' hp') ?_
  show Go p e below _ s₁ (mkF m 0 #[.val b, .val pd, .val (.int wr), .unset, .unset] [])
  refine Go.of (fun _ k => XS.aloadN X0.here hx rfl (hb hby dc3_0) rfl hp' k) ?_
  show Go p e below _ s₁ (mkF m 1 #[.val b, .val pd, .val (.int wr), .unset, .unset] [pd])
  by_cases hc1_1 : pd = .null
  ·
    refine Go.of (fun _ k => XT.nullYes X0.here hx rfl (pc0 := 1) (pc' := 8) rfl (hb hby dc3_1) rfl hc1_1 (by decide) (by decide) k) ?_
    show Go p e below _ s₁ (mkF m 8 #[.val b, .val pd, .val (.int wr), .unset, .unset] [])
    refine Go.of (fun _ k => XS.aloadN X0.here hx rfl (hb hby dc3_8) rfl hb' k) ?_
    show Go p e below _ s₁ (mkF m 9 #[.val b, .val pd, .val (.int wr), .unset, .unset] [b])
    refine Go.of (fun _ k => XT.astoreNS X0.here hx rfl (hb hby dc3_9) rfl hb' (XT.cat1 hb') rfl (Or.inl rfl) k) ?_
    show Go p e below _ s₁ (mkF m 10 #[.val b, .val pd, .val (.int wr), .val b, .unset] [])
    refine Go.of (fun _ k => XS.iloadN X0.here hx rfl (hb hby dc3_10) rfl k) ?_
    show Go p e below _ s₁ (mkF m 11 #[.val b, .val pd, .val (.int wr), .val b, .unset] [(.int wr)])
    by_cases hc11_2 : wr = (0 : Int32)
    ·
      refine Go.of (fun _ k => XS.ifNo X0.here hx rfl (hb hby dc3_11) rfl (XT.i0_ne_f hc11_2) k) ?_
      show Go p e below _ s₁ (mkF m 14 #[.val b, .val pd, .val (.int wr), .val b, .unset] [])
      refine Go.of (fun _ k => XS.aloadN X0.here hx rfl (hb hby dc3_14) rfl hb' k) ?_
      show Go p e below _ s₁ (mkF m 15 #[.val b, .val pd, .val (.int wr), .val b, .unset] [b])
      refine Go.of (fun _ k => XS.astoreS X0.here hx rfl (hb hby dc3_15) rfl hb' (XT.cat1 hb') rfl (Or.inl rfl) k) ?_
      show Go p e below _ s₁ (mkF m 17 #[.val b, .val pd, .val (.int wr), .val b, .val b] [])
      refine Go.of (fun _ k => XS.goto X0.here hx rfl (pc0 := 17) (pc' := 47) rfl (hb hby dc3_17) (by decide) (by decide) k) ?_
      show Go p e below _ s₁ (mkF m 47 #[.val b, .val pd, .val (.int wr), .val b, .val b] [])
      refine Go.of (fun _ k => XS.aload X0.here hx rfl (hb hby dc3_47) rfl hb' k) ?_
      show Go p e below _ s₁ (mkF m 49 #[.val b, .val pd, .val (.int wr), .val b, .val b] [b])
      exact own_retA X0 hx hlk hret rfl hb' (hb hby dc3_49) ⟨by rw [acv, if_pos hc11_2, stl, if_pos hc1_1], rfl, e0⟩ (by decide) (by decide)
    ·
      refine Go.of (fun _ k => XS.ifYes X0.here hx rfl (pc0 := 11) (pc' := 20) rfl (hb hby dc3_11) rfl (XT.i0_ne_t hc11_2) (by decide) (by decide) k) ?_
      show Go p e below _ s₁ (mkF m 20 #[.val b, .val pd, .val (.int wr), .val b, .unset] [])
      refine Go.of (fun _ k => XS.aloadN X0.here hx rfl (hb hby dc3_20) rfl hb' k) ?_
      show Go p e below _ s₁ (mkF m 21 #[.val b, .val pd, .val (.int wr), .val b, .unset] [b])
      obtain ⟨T3, X3, e3, st3⟩ := getS2 X0 hx hZ hown (host := "") (Or.inl (hw _ (List.mem_of_getElem? (i := 35) rfl))) Via.refl e0 S2 (g := (mkF m 21 #[.val b, .val pd, .val (.int wr), .val b, .unset] [b])) rfl (hb hby dc3_21)
      refine Go.of st3 ?_
      show Go p e below _ T3 (mkF m 24 #[.val b, .val pd, .val (.int wr), .val b, .unset] [(.ref (w 2)), b])
      by_cases hc24_4 : (b : Value) = (.ref (w 2))
      ·
        refine Go.of (fun _ k => XT.acmpYes X3.here hx rfl (pc0 := 24) (pc' := 34) rfl (hb hby dc3_24) rfl hb' rfl (XT.aa_eq_t hc24_4) (by decide) (by decide) k) ?_
        show Go p e below _ T3 (mkF m 34 #[.val b, .val pd, .val (.int wr), .val b, .unset] [])
        obtain ⟨T5, X5, e5, st5⟩ := getS2 X3 hx hZ hown (host := "") (Or.inl (hw _ (List.mem_of_getElem? (i := 26) rfl))) Via.refl e3 S7 (g := (mkF m 34 #[.val b, .val pd, .val (.int wr), .val b, .unset] [])) rfl (hb hby dc3_34)
        refine Go.of st5 ?_
        show Go p e below _ T5 (mkF m 37 #[.val b, .val pd, .val (.int wr), .val b, .unset] [(.ref (w 7))])
        refine Go.of (fun _ k => XS.astore X5.here hx rfl (hb hby dc3_37) rfl rfl (l' := #[.val b, .val pd, .val (.int wr), .val b, .val (.ref (w 7))]) rfl k) ?_
        show Go p e below _ T5 (mkF m 39 #[.val b, .val pd, .val (.int wr), .val b, .val (.ref (w 7))] [])
        refine Go.of (fun _ k => XS.goto X5.here hx rfl (pc0 := 39) (pc' := 47) rfl (hb hby dc3_39) (by decide) (by decide) k) ?_
        show Go p e below _ T5 (mkF m 47 #[.val b, .val pd, .val (.int wr), .val b, .val (.ref (w 7))] [])
        refine Go.of (fun _ k => XS.aload X5.here hx rfl (hb hby dc3_47) rfl rfl k) ?_
        show Go p e below _ T5 (mkF m 49 #[.val b, .val pd, .val (.int wr), .val b, .val (.ref (w 7))] [(.ref (w 7))])
        exact own_retA X5 hx hlk hret rfl rfl (hb hby dc3_49) ⟨by rw [acv, if_neg hc11_2, stl, if_pos hc1_1, wrp, if_pos hc24_4], rfl, e5⟩ (by decide) (by decide)
      ·
        refine Go.of (fun _ k => XT.acmpNo X3.here hx rfl (hb hby dc3_24) rfl hb' rfl (XT.aa_eq_f hc24_4) k) ?_
        show Go p e below _ T3 (mkF m 27 #[.val b, .val pd, .val (.int wr), .val b, .unset] [])
        refine Go.of (fun _ k => XS.aloadN X3.here hx rfl (hb hby dc3_27) rfl hb' k) ?_
        show Go p e below _ T3 (mkF m 28 #[.val b, .val pd, .val (.int wr), .val b, .unset] [b])
        obtain ⟨T6, X6, e6, st6⟩ := getS2 X3 hx hZ hown (host := "") (Or.inl (hw _ (List.mem_of_getElem? (i := 26) rfl))) Via.refl e3 S7 (g := (mkF m 28 #[.val b, .val pd, .val (.int wr), .val b, .unset] [b])) rfl (hb hby dc3_28)
        refine Go.of st6 ?_
        show Go p e below _ T6 (mkF m 31 #[.val b, .val pd, .val (.int wr), .val b, .unset] [(.ref (w 7)), b])
        by_cases hc31_7 : (b : Value) = (.ref (w 7))
        ·
          refine Go.of (fun _ k => XT.acmpNo X6.here hx rfl (hb hby dc3_31) rfl hb' rfl (XT.aa_ne_f hc31_7) k) ?_
          show Go p e below _ T6 (mkF m 34 #[.val b, .val pd, .val (.int wr), .val b, .unset] [])
          obtain ⟨T8, X8, e8, st8⟩ := getS2 X6 hx hZ hown (host := "") (Or.inl (hw _ (List.mem_of_getElem? (i := 26) rfl))) Via.refl e6 S7 (g := (mkF m 34 #[.val b, .val pd, .val (.int wr), .val b, .unset] [])) rfl (hb hby dc3_34)
          refine Go.of st8 ?_
          show Go p e below _ T8 (mkF m 37 #[.val b, .val pd, .val (.int wr), .val b, .unset] [(.ref (w 7))])
          refine Go.of (fun _ k => XS.astore X8.here hx rfl (hb hby dc3_37) rfl rfl (l' := #[.val b, .val pd, .val (.int wr), .val b, .val (.ref (w 7))]) rfl k) ?_
          show Go p e below _ T8 (mkF m 39 #[.val b, .val pd, .val (.int wr), .val b, .val (.ref (w 7))] [])
          refine Go.of (fun _ k => XS.goto X8.here hx rfl (pc0 := 39) (pc' := 47) rfl (hb hby dc3_39) (by decide) (by decide) k) ?_
          show Go p e below _ T8 (mkF m 47 #[.val b, .val pd, .val (.int wr), .val b, .val (.ref (w 7))] [])
          refine Go.of (fun _ k => XS.aload X8.here hx rfl (hb hby dc3_47) rfl rfl k) ?_
          show Go p e below _ T8 (mkF m 49 #[.val b, .val pd, .val (.int wr), .val b, .val (.ref (w 7))] [(.ref (w 7))])
          exact own_retA X8 hx hlk hret rfl rfl (hb hby dc3_49) ⟨by rw [acv, if_neg hc11_2, stl, if_pos hc1_1, wrp, if_neg hc24_4, if_pos hc31_7], rfl, e8⟩ (by decide) (by decide)
        ·
          refine Go.of (fun _ k => XT.acmpYes X6.here hx rfl (pc0 := 31) (pc' := 42) rfl (hb hby dc3_31) rfl hb' rfl (XT.aa_ne_t hc31_7) (by decide) (by decide) k) ?_
          show Go p e below _ T6 (mkF m 42 #[.val b, .val pd, .val (.int wr), .val b, .unset] [])
          obtain ⟨T9, X9, e9, st9⟩ := getS2 X6 hx hZ hown (host := "") (Or.inl (hw _ (List.mem_of_getElem? (i := 25) rfl))) Via.refl e6 S6 (g := (mkF m 42 #[.val b, .val pd, .val (.int wr), .val b, .unset] [])) rfl (hb hby dc3_42)
          refine Go.of st9 ?_
          show Go p e below _ T9 (mkF m 45 #[.val b, .val pd, .val (.int wr), .val b, .unset] [(.ref (w 6))])
          refine Go.of (fun _ k => XS.astore X9.here hx rfl (hb hby dc3_45) rfl rfl (l' := #[.val b, .val pd, .val (.int wr), .val b, .val (.ref (w 6))]) rfl k) ?_
          show Go p e below _ T9 (mkF m 47 #[.val b, .val pd, .val (.int wr), .val b, .val (.ref (w 6))] [])
          refine Go.of (fun _ k => XS.aload X9.here hx rfl (hb hby dc3_47) rfl rfl k) ?_
          show Go p e below _ T9 (mkF m 49 #[.val b, .val pd, .val (.int wr), .val b, .val (.ref (w 6))] [(.ref (w 6))])
          exact own_retA X9 hx hlk hret rfl rfl (hb hby dc3_49) ⟨by rw [acv, if_neg hc11_2, stl, if_pos hc1_1, wrp, if_neg hc24_4, if_neg hc31_7], rfl, e9⟩ (by decide) (by decide)
  ·
    refine Go.of (fun _ k => XT.nullNo X0.here hx rfl (hb hby dc3_1) rfl hp' hc1_1 k) ?_
    show Go p e below _ s₁ (mkF m 4 #[.val b, .val pd, .val (.int wr), .unset, .unset] [])
    refine Go.of (fun _ k => XS.aloadN X0.here hx rfl (hb hby dc3_4) rfl hp' k) ?_
    show Go p e below _ s₁ (mkF m 5 #[.val b, .val pd, .val (.int wr), .unset, .unset] [pd])
    refine Go.of (fun _ k => XS.goto X0.here hx rfl (pc0 := 5) (pc' := 9) rfl (hb hby dc3_5) (by decide) (by decide) k) ?_
    show Go p e below _ s₁ (mkF m 9 #[.val b, .val pd, .val (.int wr), .unset, .unset] [pd])
    refine Go.of (fun _ k => XT.astoreNS X0.here hx rfl (hb hby dc3_9) rfl hp' (XT.cat1 hp') rfl (Or.inl rfl) k) ?_
    show Go p e below _ s₁ (mkF m 10 #[.val b, .val pd, .val (.int wr), .val pd, .unset] [])
    refine Go.of (fun _ k => XS.iloadN X0.here hx rfl (hb hby dc3_10) rfl k) ?_
    show Go p e below _ s₁ (mkF m 11 #[.val b, .val pd, .val (.int wr), .val pd, .unset] [(.int wr)])
    by_cases hc11_10 : wr = (0 : Int32)
    ·
      refine Go.of (fun _ k => XS.ifNo X0.here hx rfl (hb hby dc3_11) rfl (XT.i0_ne_f hc11_10) k) ?_
      show Go p e below _ s₁ (mkF m 14 #[.val b, .val pd, .val (.int wr), .val pd, .unset] [])
      refine Go.of (fun _ k => XS.aloadN X0.here hx rfl (hb hby dc3_14) rfl hp' k) ?_
      show Go p e below _ s₁ (mkF m 15 #[.val b, .val pd, .val (.int wr), .val pd, .unset] [pd])
      refine Go.of (fun _ k => XS.astoreS X0.here hx rfl (hb hby dc3_15) rfl hp' (XT.cat1 hp') rfl (Or.inl rfl) k) ?_
      show Go p e below _ s₁ (mkF m 17 #[.val b, .val pd, .val (.int wr), .val pd, .val pd] [])
      refine Go.of (fun _ k => XS.goto X0.here hx rfl (pc0 := 17) (pc' := 47) rfl (hb hby dc3_17) (by decide) (by decide) k) ?_
      show Go p e below _ s₁ (mkF m 47 #[.val b, .val pd, .val (.int wr), .val pd, .val pd] [])
      refine Go.of (fun _ k => XS.aload X0.here hx rfl (hb hby dc3_47) rfl hp' k) ?_
      show Go p e below _ s₁ (mkF m 49 #[.val b, .val pd, .val (.int wr), .val pd, .val pd] [pd])
      exact own_retA X0 hx hlk hret rfl hp' (hb hby dc3_49) ⟨by rw [acv, if_pos hc11_10, stl, if_neg hc1_1], rfl, e0⟩ (by decide) (by decide)
    ·
      refine Go.of (fun _ k => XS.ifYes X0.here hx rfl (pc0 := 11) (pc' := 20) rfl (hb hby dc3_11) rfl (XT.i0_ne_t hc11_10) (by decide) (by decide) k) ?_
      show Go p e below _ s₁ (mkF m 20 #[.val b, .val pd, .val (.int wr), .val pd, .unset] [])
      refine Go.of (fun _ k => XS.aloadN X0.here hx rfl (hb hby dc3_20) rfl hp' k) ?_
      show Go p e below _ s₁ (mkF m 21 #[.val b, .val pd, .val (.int wr), .val pd, .unset] [pd])
      obtain ⟨T11, X11, e11, st11⟩ := getS2 X0 hx hZ hown (host := "") (Or.inl (hw _ (List.mem_of_getElem? (i := 35) rfl))) Via.refl e0 S2 (g := (mkF m 21 #[.val b, .val pd, .val (.int wr), .val pd, .unset] [pd])) rfl (hb hby dc3_21)
      refine Go.of st11 ?_
      show Go p e below _ T11 (mkF m 24 #[.val b, .val pd, .val (.int wr), .val pd, .unset] [(.ref (w 2)), pd])
      by_cases hc24_12 : (pd : Value) = (.ref (w 2))
      ·
        refine Go.of (fun _ k => XT.acmpYes X11.here hx rfl (pc0 := 24) (pc' := 34) rfl (hb hby dc3_24) rfl hp' rfl (XT.aa_eq_t hc24_12) (by decide) (by decide) k) ?_
        show Go p e below _ T11 (mkF m 34 #[.val b, .val pd, .val (.int wr), .val pd, .unset] [])
        obtain ⟨T13, X13, e13, st13⟩ := getS2 X11 hx hZ hown (host := "") (Or.inl (hw _ (List.mem_of_getElem? (i := 26) rfl))) Via.refl e11 S7 (g := (mkF m 34 #[.val b, .val pd, .val (.int wr), .val pd, .unset] [])) rfl (hb hby dc3_34)
        refine Go.of st13 ?_
        show Go p e below _ T13 (mkF m 37 #[.val b, .val pd, .val (.int wr), .val pd, .unset] [(.ref (w 7))])
        refine Go.of (fun _ k => XS.astore X13.here hx rfl (hb hby dc3_37) rfl rfl (l' := #[.val b, .val pd, .val (.int wr), .val pd, .val (.ref (w 7))]) rfl k) ?_
        show Go p e below _ T13 (mkF m 39 #[.val b, .val pd, .val (.int wr), .val pd, .val (.ref (w 7))] [])
        refine Go.of (fun _ k => XS.goto X13.here hx rfl (pc0 := 39) (pc' := 47) rfl (hb hby dc3_39) (by decide) (by decide) k) ?_
        show Go p e below _ T13 (mkF m 47 #[.val b, .val pd, .val (.int wr), .val pd, .val (.ref (w 7))] [])
        refine Go.of (fun _ k => XS.aload X13.here hx rfl (hb hby dc3_47) rfl rfl k) ?_
        show Go p e below _ T13 (mkF m 49 #[.val b, .val pd, .val (.int wr), .val pd, .val (.ref (w 7))] [(.ref (w 7))])
        exact own_retA X13 hx hlk hret rfl rfl (hb hby dc3_49) ⟨by rw [acv, if_neg hc11_10, stl, if_neg hc1_1, wrp, if_pos hc24_12], rfl, e13⟩ (by decide) (by decide)
      ·
        refine Go.of (fun _ k => XT.acmpNo X11.here hx rfl (hb hby dc3_24) rfl hp' rfl (XT.aa_eq_f hc24_12) k) ?_
        show Go p e below _ T11 (mkF m 27 #[.val b, .val pd, .val (.int wr), .val pd, .unset] [])
        refine Go.of (fun _ k => XS.aloadN X11.here hx rfl (hb hby dc3_27) rfl hp' k) ?_
        show Go p e below _ T11 (mkF m 28 #[.val b, .val pd, .val (.int wr), .val pd, .unset] [pd])
        obtain ⟨T14, X14, e14, st14⟩ := getS2 X11 hx hZ hown (host := "") (Or.inl (hw _ (List.mem_of_getElem? (i := 26) rfl))) Via.refl e11 S7 (g := (mkF m 28 #[.val b, .val pd, .val (.int wr), .val pd, .unset] [pd])) rfl (hb hby dc3_28)
        refine Go.of st14 ?_
        show Go p e below _ T14 (mkF m 31 #[.val b, .val pd, .val (.int wr), .val pd, .unset] [(.ref (w 7)), pd])
        by_cases hc31_15 : (pd : Value) = (.ref (w 7))
        ·
          refine Go.of (fun _ k => XT.acmpNo X14.here hx rfl (hb hby dc3_31) rfl hp' rfl (XT.aa_ne_f hc31_15) k) ?_
          show Go p e below _ T14 (mkF m 34 #[.val b, .val pd, .val (.int wr), .val pd, .unset] [])
          obtain ⟨T16, X16, e16, st16⟩ := getS2 X14 hx hZ hown (host := "") (Or.inl (hw _ (List.mem_of_getElem? (i := 26) rfl))) Via.refl e14 S7 (g := (mkF m 34 #[.val b, .val pd, .val (.int wr), .val pd, .unset] [])) rfl (hb hby dc3_34)
          refine Go.of st16 ?_
          show Go p e below _ T16 (mkF m 37 #[.val b, .val pd, .val (.int wr), .val pd, .unset] [(.ref (w 7))])
          refine Go.of (fun _ k => XS.astore X16.here hx rfl (hb hby dc3_37) rfl rfl (l' := #[.val b, .val pd, .val (.int wr), .val pd, .val (.ref (w 7))]) rfl k) ?_
          show Go p e below _ T16 (mkF m 39 #[.val b, .val pd, .val (.int wr), .val pd, .val (.ref (w 7))] [])
          refine Go.of (fun _ k => XS.goto X16.here hx rfl (pc0 := 39) (pc' := 47) rfl (hb hby dc3_39) (by decide) (by decide) k) ?_
          show Go p e below _ T16 (mkF m 47 #[.val b, .val pd, .val (.int wr), .val pd, .val (.ref (w 7))] [])
          refine Go.of (fun _ k => XS.aload X16.here hx rfl (hb hby dc3_47) rfl rfl k) ?_
          show Go p e below _ T16 (mkF m 49 #[.val b, .val pd, .val (.int wr), .val pd, .val (.ref (w 7))] [(.ref (w 7))])
          exact own_retA X16 hx hlk hret rfl rfl (hb hby dc3_49) ⟨by rw [acv, if_neg hc11_10, stl, if_neg hc1_1, wrp, if_neg hc24_12, if_pos hc31_15], rfl, e16⟩ (by decide) (by decide)
        ·
          refine Go.of (fun _ k => XT.acmpYes X14.here hx rfl (pc0 := 31) (pc' := 42) rfl (hb hby dc3_31) rfl hp' rfl (XT.aa_ne_t hc31_15) (by decide) (by decide) k) ?_
          show Go p e below _ T14 (mkF m 42 #[.val b, .val pd, .val (.int wr), .val pd, .unset] [])
          obtain ⟨T17, X17, e17, st17⟩ := getS2 X14 hx hZ hown (host := "") (Or.inl (hw _ (List.mem_of_getElem? (i := 25) rfl))) Via.refl e14 S6 (g := (mkF m 42 #[.val b, .val pd, .val (.int wr), .val pd, .unset] [])) rfl (hb hby dc3_42)
          refine Go.of st17 ?_
          show Go p e below _ T17 (mkF m 45 #[.val b, .val pd, .val (.int wr), .val pd, .unset] [(.ref (w 6))])
          refine Go.of (fun _ k => XS.astore X17.here hx rfl (hb hby dc3_45) rfl rfl (l' := #[.val b, .val pd, .val (.int wr), .val pd, .val (.ref (w 6))]) rfl k) ?_
          show Go p e below _ T17 (mkF m 47 #[.val b, .val pd, .val (.int wr), .val pd, .val (.ref (w 6))] [])
          refine Go.of (fun _ k => XS.aload X17.here hx rfl (hb hby dc3_47) rfl rfl k) ?_
          show Go p e below _ T17 (mkF m 49 #[.val b, .val pd, .val (.int wr), .val pd, .val (.ref (w 6))] [(.ref (w 6))])
          exact own_retA X17 hx hlk hret rfl rfl (hb hby dc3_49) ⟨by rw [acv, if_neg hc11_10, stl, if_neg hc1_1, wrp, if_neg hc24_12, if_neg hc31_15], rfl, e17⟩ (by decide) (by decide)
theorem pn_law : plainFor x = true := by first | (refine plainFor_of_name ?_; simp [plainName, overriddenIn, x]; done) | (refine plainFor_of_name ?_; decide +kernel) | decide +kernel
theorem ef_law (m : MethodId) (x0 : Int32) (x1 : Int32) (x2 : Int32) : entryFrame m #[(.int x0), (.int x1), (.int x2)] maxLocals = mkF m 0 #[.val (.int x0), .val (.int x1), .val (.int x2), .unset, .unset, .unset, .unset, .unset, .unset, .unset, .unset, .unset, .unset, .unset, .unset] [] := by first | (simp [entryFrame, mkF, argsToLocals, Value.category, maxLocals]; done) | rfl
set_option maxRecDepth 65536 in
set_option maxHeartbeats 40000000 in
theorem rm0 (l : Launch) (Z : State) (a0 : Array Value) (hw : ∀ d ∈ tables_1, d.before a0 Z = true) (ws : List Jvm.Cond) (w : Nat → Addr) (h0 : Heap) (n0 : Nat) (Z0 : n0 ≤ h0.size) (D : Wd Z h0 w) (x0 x1 x2 : Int32) :
    Ct l Z x code maxLocals ret ws room_1 #[(.int x0), (.int x1), (.int x2)] h0 (fun v h L => v = some (.int 1) ∧ Fr n0 L) := by
  refine own_met pn_law ?_
  intro p e s m below meth c s₁ X0 hx hby hml0 hret hown hnm hlk hZ e0
  have hml : c.maxLocals = 15 := hml0
  have N0 := Fr.nil n0
  have D' := D
  obtain ⟨S0, S1, S2, S3, S4, S5, S6, S7, Ex, Fo⟩ := D'
  have hI : ∀ i j, i < 8 → j < 8 → i ≠ j → ¬ w i = w j := fun i j hi hj hn => own_inj Fo hi hj (own_ofNat hi hj hn)
  have x0_h0 := own_ext0 h0
  refine Go.cast (ef_law m x0 x1 x2) ?_
  show Go p e below _ s₁ (mkF m 0 #[.val (.int x0), .val (.int x1), .val (.int x2), .unset, .unset, .unset, .unset, .unset, .unset, .unset, .unset, .unset, .unset, .unset, .unset] [])
  refine Go.of (fun _ k => XS.bipush X0.here hx rfl (hb hby at_0) k) ?_
  show Go p e below _ s₁ (mkF m 2 #[.val (.int x0), .val (.int x1), .val (.int x2), .unset, .unset, .unset, .unset, .unset, .unset, .unset, .unset, .unset, .unset, .unset, .unset] [(.int (8 : Int32))])
  obtain ⟨T1, h1, k1, X1, e1, E1, A1, O1, st1⟩ := newR X0 hx hZ hown (hw _ (List.mem_of_getElem? (i := 0) rfl)) (hw _ (List.mem_of_getElem? (i := 1) rfl)) e0 (g := (mkF m 2 #[.val (.int x0), .val (.int x1), .val (.int x2), .unset, .unset, .unset, .unset, .unset, .unset, .unset, .unset, .unset, .unset, .unset, .unset] [(.int (8 : Int32))])) rfl (hb hby at_2) rfl (by decide) (cap := 8) (by decide) (by decide) (by decide) (by decide)
  obtain ⟨b1, g1⟩ : ∃ z, z = h0.size := ⟨_, rfl⟩
  rw [← g1] at A1 st1
  have gb1_h0 : h0.size ≤ b1 := by rw [g1]; exact x0_h0.1
  have V1 : Al Z h1 b1 k1 "com/example/unfussy_switchboard/unfussyswitchboard/model/AgentState" [.null, .null, .null, .null, .null, .null, .null, .null] := own_newA A1 rfl
  have x1_h0 := own_extT x0_h0 E1
  refine Go.of st1 ?_
  show Go p e below _ T1 (mkF m 5 #[.val (.int x0), .val (.int x1), .val (.int x2), .unset, .unset, .unset, .unset, .unset, .unset, .unset, .unset, .unset, .unset, .unset, .unset] [(.ref b1)])
  refine Go.of (fun _ k => XS.dup X1.here hx rfl (hb hby at_5) rfl rfl k) ?_
  show Go p e below _ T1 (mkF m 6 #[.val (.int x0), .val (.int x1), .val (.int x2), .unset, .unset, .unset, .unset, .unset, .unset, .unset, .unset, .unset, .unset, .unset, .unset] [(.ref b1), (.ref b1)])
  refine Go.of (fun _ k => XS.iconst X1.here hx rfl (hb hby at_6) k) ?_
  show Go p e below _ T1 (mkF m 7 #[.val (.int x0), .val (.int x1), .val (.int x2), .unset, .unset, .unset, .unset, .unset, .unset, .unset, .unset, .unset, .unset, .unset, .unset] [(.int (0 : Int32)), (.ref b1), (.ref b1)])
  obtain ⟨T2, X2, e2, st2⟩ := getS2 X1 hx hZ hown (host := "") (Or.inl (hw _ (List.mem_of_getElem? (i := 2) rfl))) Via.refl e1 (S0.ext x1_h0) (g := (mkF m 7 #[.val (.int x0), .val (.int x1), .val (.int x2), .unset, .unset, .unset, .unset, .unset, .unset, .unset, .unset, .unset, .unset, .unset, .unset] [(.int (0 : Int32)), (.ref b1), (.ref b1)])) rfl (hb hby at_7)
  refine Go.of st2 ?_
  show Go p e below _ T2 (mkF m 10 #[.val (.int x0), .val (.int x1), .val (.int x2), .unset, .unset, .unset, .unset, .unset, .unset, .unset, .unset, .unset, .unset, .unset, .unset] [(.ref (w 0)), (.int (0 : Int32)), (.ref b1), (.ref b1)])
  obtain ⟨T3, h3, X3, e3, W3, V3, st3⟩ := own_stA X2 hx hZ e2 V1 O1 (j := (0 : Int32)) (by decide) (by show ((0 : Int32)).toNatClampNeg < 8; decide) (Or.inr ⟨_, rfl, ((Ex 0 (by decide)).ext x1_h0)⟩) (vs' := [(.ref (w 0)), .null, .null, .null, .null, .null, .null, .null]) rfl (g := (mkF m 10 #[.val (.int x0), .val (.int x1), .val (.int x2), .unset, .unset, .unset, .unset, .unset, .unset, .unset, .unset, .unset, .unset, .unset, .unset] [(.ref (w 0)), (.int (0 : Int32)), (.ref b1), (.ref b1)])) rfl rfl (hb hby at_10)
  have x3_h0 := own_extW x1_h0 W3 gb1_h0
  have N3 := Fr.snoc X3 N0 (Nat.le_trans Z0 gb1_h0)
  refine Go.of st3 ?_
  show Go p e below _ T3 (mkF m 11 #[.val (.int x0), .val (.int x1), .val (.int x2), .unset, .unset, .unset, .unset, .unset, .unset, .unset, .unset, .unset, .unset, .unset, .unset] [(.ref b1)])
  refine Go.of (fun _ k => XS.dup X3.here hx rfl (hb hby at_11) rfl rfl k) ?_
  show Go p e below _ T3 (mkF m 12 #[.val (.int x0), .val (.int x1), .val (.int x2), .unset, .unset, .unset, .unset, .unset, .unset, .unset, .unset, .unset, .unset, .unset, .unset] [(.ref b1), (.ref b1)])
  refine Go.of (fun _ k => XS.iconst X3.here hx rfl (hb hby at_12) k) ?_
  show Go p e below _ T3 (mkF m 13 #[.val (.int x0), .val (.int x1), .val (.int x2), .unset, .unset, .unset, .unset, .unset, .unset, .unset, .unset, .unset, .unset, .unset, .unset] [(.int (1 : Int32)), (.ref b1), (.ref b1)])
  obtain ⟨T4, X4, e4, st4⟩ := getS2 X3 hx hZ hown (host := "") (Or.inl (hw _ (List.mem_of_getElem? (i := 6) rfl))) Via.refl e3 (S1.ext x3_h0) (g := (mkF m 13 #[.val (.int x0), .val (.int x1), .val (.int x2), .unset, .unset, .unset, .unset, .unset, .unset, .unset, .unset, .unset, .unset, .unset, .unset] [(.int (1 : Int32)), (.ref b1), (.ref b1)])) rfl (hb hby at_13)
  refine Go.of st4 ?_
  show Go p e below _ T4 (mkF m 16 #[.val (.int x0), .val (.int x1), .val (.int x2), .unset, .unset, .unset, .unset, .unset, .unset, .unset, .unset, .unset, .unset, .unset, .unset] [(.ref (w 1)), (.int (1 : Int32)), (.ref b1), (.ref b1)])
  obtain ⟨T5, h5, X5, e5, W5, V5, st5⟩ := own_stA X4 hx hZ e4 V3 O1 (j := (1 : Int32)) (by decide) (by show ((1 : Int32)).toNatClampNeg < 8; decide) (Or.inr ⟨_, rfl, ((Ex 1 (by decide)).ext x3_h0)⟩) (vs' := [(.ref (w 0)), (.ref (w 1)), .null, .null, .null, .null, .null, .null]) rfl (g := (mkF m 16 #[.val (.int x0), .val (.int x1), .val (.int x2), .unset, .unset, .unset, .unset, .unset, .unset, .unset, .unset, .unset, .unset, .unset, .unset] [(.ref (w 1)), (.int (1 : Int32)), (.ref b1), (.ref b1)])) rfl rfl (hb hby at_16)
  have x5_h0 := own_extW x3_h0 W5 gb1_h0
  have N5 := Fr.snoc X5 N3 (Nat.le_trans Z0 gb1_h0)
  refine Go.of st5 ?_
  show Go p e below _ T5 (mkF m 17 #[.val (.int x0), .val (.int x1), .val (.int x2), .unset, .unset, .unset, .unset, .unset, .unset, .unset, .unset, .unset, .unset, .unset, .unset] [(.ref b1)])
  refine Go.of (fun _ k => XS.dup X5.here hx rfl (hb hby at_17) rfl rfl k) ?_
  show Go p e below _ T5 (mkF m 18 #[.val (.int x0), .val (.int x1), .val (.int x2), .unset, .unset, .unset, .unset, .unset, .unset, .unset, .unset, .unset, .unset, .unset, .unset] [(.ref b1), (.ref b1)])
  refine Go.of (fun _ k => XS.iconst X5.here hx rfl (hb hby at_18) k) ?_
  show Go p e below _ T5 (mkF m 19 #[.val (.int x0), .val (.int x1), .val (.int x2), .unset, .unset, .unset, .unset, .unset, .unset, .unset, .unset, .unset, .unset, .unset, .unset] [(.int (2 : Int32)), (.ref b1), (.ref b1)])
  obtain ⟨T6, X6, e6, st6⟩ := getS2 X5 hx hZ hown (host := "") (Or.inl (hw _ (List.mem_of_getElem? (i := 8) rfl))) Via.refl e5 (S2.ext x5_h0) (g := (mkF m 19 #[.val (.int x0), .val (.int x1), .val (.int x2), .unset, .unset, .unset, .unset, .unset, .unset, .unset, .unset, .unset, .unset, .unset, .unset] [(.int (2 : Int32)), (.ref b1), (.ref b1)])) rfl (hb hby at_19)
  refine Go.of st6 ?_
  show Go p e below _ T6 (mkF m 22 #[.val (.int x0), .val (.int x1), .val (.int x2), .unset, .unset, .unset, .unset, .unset, .unset, .unset, .unset, .unset, .unset, .unset, .unset] [(.ref (w 2)), (.int (2 : Int32)), (.ref b1), (.ref b1)])
  obtain ⟨T7, h7, X7, e7, W7, V7, st7⟩ := own_stA X6 hx hZ e6 V5 O1 (j := (2 : Int32)) (by decide) (by show ((2 : Int32)).toNatClampNeg < 8; decide) (Or.inr ⟨_, rfl, ((Ex 2 (by decide)).ext x5_h0)⟩) (vs' := [(.ref (w 0)), (.ref (w 1)), (.ref (w 2)), .null, .null, .null, .null, .null]) rfl (g := (mkF m 22 #[.val (.int x0), .val (.int x1), .val (.int x2), .unset, .unset, .unset, .unset, .unset, .unset, .unset, .unset, .unset, .unset, .unset, .unset] [(.ref (w 2)), (.int (2 : Int32)), (.ref b1), (.ref b1)])) rfl rfl (hb hby at_22)
  have x7_h0 := own_extW x5_h0 W7 gb1_h0
  have N7 := Fr.snoc X7 N5 (Nat.le_trans Z0 gb1_h0)
  refine Go.of st7 ?_
  show Go p e below _ T7 (mkF m 23 #[.val (.int x0), .val (.int x1), .val (.int x2), .unset, .unset, .unset, .unset, .unset, .unset, .unset, .unset, .unset, .unset, .unset, .unset] [(.ref b1)])
  refine Go.of (fun _ k => XS.dup X7.here hx rfl (hb hby at_23) rfl rfl k) ?_
  show Go p e below _ T7 (mkF m 24 #[.val (.int x0), .val (.int x1), .val (.int x2), .unset, .unset, .unset, .unset, .unset, .unset, .unset, .unset, .unset, .unset, .unset, .unset] [(.ref b1), (.ref b1)])
  refine Go.of (fun _ k => XS.iconst X7.here hx rfl (hb hby at_24) k) ?_
  show Go p e below _ T7 (mkF m 25 #[.val (.int x0), .val (.int x1), .val (.int x2), .unset, .unset, .unset, .unset, .unset, .unset, .unset, .unset, .unset, .unset, .unset, .unset] [(.int (3 : Int32)), (.ref b1), (.ref b1)])
  obtain ⟨T8, X8, e8, st8⟩ := getS2 X7 hx hZ hown (host := "") (Or.inl (hw _ (List.mem_of_getElem? (i := 10) rfl))) Via.refl e7 (S3.ext x7_h0) (g := (mkF m 25 #[.val (.int x0), .val (.int x1), .val (.int x2), .unset, .unset, .unset, .unset, .unset, .unset, .unset, .unset, .unset, .unset, .unset, .unset] [(.int (3 : Int32)), (.ref b1), (.ref b1)])) rfl (hb hby at_25)
  refine Go.of st8 ?_
  show Go p e below _ T8 (mkF m 28 #[.val (.int x0), .val (.int x1), .val (.int x2), .unset, .unset, .unset, .unset, .unset, .unset, .unset, .unset, .unset, .unset, .unset, .unset] [(.ref (w 3)), (.int (3 : Int32)), (.ref b1), (.ref b1)])
  obtain ⟨T9, h9, X9, e9, W9, V9, st9⟩ := own_stA X8 hx hZ e8 V7 O1 (j := (3 : Int32)) (by decide) (by show ((3 : Int32)).toNatClampNeg < 8; decide) (Or.inr ⟨_, rfl, ((Ex 3 (by decide)).ext x7_h0)⟩) (vs' := [(.ref (w 0)), (.ref (w 1)), (.ref (w 2)), (.ref (w 3)), .null, .null, .null, .null]) rfl (g := (mkF m 28 #[.val (.int x0), .val (.int x1), .val (.int x2), .unset, .unset, .unset, .unset, .unset, .unset, .unset, .unset, .unset, .unset, .unset, .unset] [(.ref (w 3)), (.int (3 : Int32)), (.ref b1), (.ref b1)])) rfl rfl (hb hby at_28)
  have x9_h0 := own_extW x7_h0 W9 gb1_h0
  have N9 := Fr.snoc X9 N7 (Nat.le_trans Z0 gb1_h0)
  refine Go.of st9 ?_
  show Go p e below _ T9 (mkF m 29 #[.val (.int x0), .val (.int x1), .val (.int x2), .unset, .unset, .unset, .unset, .unset, .unset, .unset, .unset, .unset, .unset, .unset, .unset] [(.ref b1)])
  refine Go.of (fun _ k => XS.dup X9.here hx rfl (hb hby at_29) rfl rfl k) ?_
  show Go p e below _ T9 (mkF m 30 #[.val (.int x0), .val (.int x1), .val (.int x2), .unset, .unset, .unset, .unset, .unset, .unset, .unset, .unset, .unset, .unset, .unset, .unset] [(.ref b1), (.ref b1)])
  refine Go.of (fun _ k => XS.iconst X9.here hx rfl (hb hby at_30) k) ?_
  show Go p e below _ T9 (mkF m 31 #[.val (.int x0), .val (.int x1), .val (.int x2), .unset, .unset, .unset, .unset, .unset, .unset, .unset, .unset, .unset, .unset, .unset, .unset] [(.int (4 : Int32)), (.ref b1), (.ref b1)])
  obtain ⟨T10, X10, e10, st10⟩ := getS2 X9 hx hZ hown (host := "") (Or.inl (hw _ (List.mem_of_getElem? (i := 12) rfl))) Via.refl e9 (S4.ext x9_h0) (g := (mkF m 31 #[.val (.int x0), .val (.int x1), .val (.int x2), .unset, .unset, .unset, .unset, .unset, .unset, .unset, .unset, .unset, .unset, .unset, .unset] [(.int (4 : Int32)), (.ref b1), (.ref b1)])) rfl (hb hby at_31)
  refine Go.of st10 ?_
  show Go p e below _ T10 (mkF m 34 #[.val (.int x0), .val (.int x1), .val (.int x2), .unset, .unset, .unset, .unset, .unset, .unset, .unset, .unset, .unset, .unset, .unset, .unset] [(.ref (w 4)), (.int (4 : Int32)), (.ref b1), (.ref b1)])
  obtain ⟨T11, h11, X11, e11, W11, V11, st11⟩ := own_stA X10 hx hZ e10 V9 O1 (j := (4 : Int32)) (by decide) (by show ((4 : Int32)).toNatClampNeg < 8; decide) (Or.inr ⟨_, rfl, ((Ex 4 (by decide)).ext x9_h0)⟩) (vs' := [(.ref (w 0)), (.ref (w 1)), (.ref (w 2)), (.ref (w 3)), (.ref (w 4)), .null, .null, .null]) rfl (g := (mkF m 34 #[.val (.int x0), .val (.int x1), .val (.int x2), .unset, .unset, .unset, .unset, .unset, .unset, .unset, .unset, .unset, .unset, .unset, .unset] [(.ref (w 4)), (.int (4 : Int32)), (.ref b1), (.ref b1)])) rfl rfl (hb hby at_34)
  have x11_h0 := own_extW x9_h0 W11 gb1_h0
  have N11 := Fr.snoc X11 N9 (Nat.le_trans Z0 gb1_h0)
  refine Go.of st11 ?_
  show Go p e below _ T11 (mkF m 35 #[.val (.int x0), .val (.int x1), .val (.int x2), .unset, .unset, .unset, .unset, .unset, .unset, .unset, .unset, .unset, .unset, .unset, .unset] [(.ref b1)])
  refine Go.of (fun _ k => XS.dup X11.here hx rfl (hb hby at_35) rfl rfl k) ?_
  show Go p e below _ T11 (mkF m 36 #[.val (.int x0), .val (.int x1), .val (.int x2), .unset, .unset, .unset, .unset, .unset, .unset, .unset, .unset, .unset, .unset, .unset, .unset] [(.ref b1), (.ref b1)])
  refine Go.of (fun _ k => XS.iconst X11.here hx rfl (hb hby at_36) k) ?_
  show Go p e below _ T11 (mkF m 37 #[.val (.int x0), .val (.int x1), .val (.int x2), .unset, .unset, .unset, .unset, .unset, .unset, .unset, .unset, .unset, .unset, .unset, .unset] [(.int (5 : Int32)), (.ref b1), (.ref b1)])
  obtain ⟨T12, X12, e12, st12⟩ := getS2 X11 hx hZ hown (host := "") (Or.inl (hw _ (List.mem_of_getElem? (i := 14) rfl))) Via.refl e11 (S5.ext x11_h0) (g := (mkF m 37 #[.val (.int x0), .val (.int x1), .val (.int x2), .unset, .unset, .unset, .unset, .unset, .unset, .unset, .unset, .unset, .unset, .unset, .unset] [(.int (5 : Int32)), (.ref b1), (.ref b1)])) rfl (hb hby at_37)
  refine Go.of st12 ?_
  show Go p e below _ T12 (mkF m 40 #[.val (.int x0), .val (.int x1), .val (.int x2), .unset, .unset, .unset, .unset, .unset, .unset, .unset, .unset, .unset, .unset, .unset, .unset] [(.ref (w 5)), (.int (5 : Int32)), (.ref b1), (.ref b1)])
  obtain ⟨T13, h13, X13, e13, W13, V13, st13⟩ := own_stA X12 hx hZ e12 V11 O1 (j := (5 : Int32)) (by decide) (by show ((5 : Int32)).toNatClampNeg < 8; decide) (Or.inr ⟨_, rfl, ((Ex 5 (by decide)).ext x11_h0)⟩) (vs' := [(.ref (w 0)), (.ref (w 1)), (.ref (w 2)), (.ref (w 3)), (.ref (w 4)), (.ref (w 5)), .null, .null]) rfl (g := (mkF m 40 #[.val (.int x0), .val (.int x1), .val (.int x2), .unset, .unset, .unset, .unset, .unset, .unset, .unset, .unset, .unset, .unset, .unset, .unset] [(.ref (w 5)), (.int (5 : Int32)), (.ref b1), (.ref b1)])) rfl rfl (hb hby at_40)
  have x13_h0 := own_extW x11_h0 W13 gb1_h0
  have N13 := Fr.snoc X13 N11 (Nat.le_trans Z0 gb1_h0)
  refine Go.of st13 ?_
  show Go p e below _ T13 (mkF m 41 #[.val (.int x0), .val (.int x1), .val (.int x2), .unset, .unset, .unset, .unset, .unset, .unset, .unset, .unset, .unset, .unset, .unset, .unset] [(.ref b1)])
  refine Go.of (fun _ k => XS.dup X13.here hx rfl (hb hby at_41) rfl rfl k) ?_
  show Go p e below _ T13 (mkF m 42 #[.val (.int x0), .val (.int x1), .val (.int x2), .unset, .unset, .unset, .unset, .unset, .unset, .unset, .unset, .unset, .unset, .unset, .unset] [(.ref b1), (.ref b1)])
  refine Go.of (fun _ k => XS.bipush X13.here hx rfl (hb hby at_42) k) ?_
  show Go p e below _ T13 (mkF m 44 #[.val (.int x0), .val (.int x1), .val (.int x2), .unset, .unset, .unset, .unset, .unset, .unset, .unset, .unset, .unset, .unset, .unset, .unset] [(.int (6 : Int32)), (.ref b1), (.ref b1)])
  obtain ⟨T14, X14, e14, st14⟩ := getS2 X13 hx hZ hown (host := "") (Or.inl (hw _ (List.mem_of_getElem? (i := 16) rfl))) Via.refl e13 (S6.ext x13_h0) (g := (mkF m 44 #[.val (.int x0), .val (.int x1), .val (.int x2), .unset, .unset, .unset, .unset, .unset, .unset, .unset, .unset, .unset, .unset, .unset, .unset] [(.int (6 : Int32)), (.ref b1), (.ref b1)])) rfl (hb hby at_44)
  refine Go.of st14 ?_
  show Go p e below _ T14 (mkF m 47 #[.val (.int x0), .val (.int x1), .val (.int x2), .unset, .unset, .unset, .unset, .unset, .unset, .unset, .unset, .unset, .unset, .unset, .unset] [(.ref (w 6)), (.int (6 : Int32)), (.ref b1), (.ref b1)])
  obtain ⟨T15, h15, X15, e15, W15, V15, st15⟩ := own_stA X14 hx hZ e14 V13 O1 (j := (6 : Int32)) (by decide) (by show ((6 : Int32)).toNatClampNeg < 8; decide) (Or.inr ⟨_, rfl, ((Ex 6 (by decide)).ext x13_h0)⟩) (vs' := [(.ref (w 0)), (.ref (w 1)), (.ref (w 2)), (.ref (w 3)), (.ref (w 4)), (.ref (w 5)), (.ref (w 6)), .null]) rfl (g := (mkF m 47 #[.val (.int x0), .val (.int x1), .val (.int x2), .unset, .unset, .unset, .unset, .unset, .unset, .unset, .unset, .unset, .unset, .unset, .unset] [(.ref (w 6)), (.int (6 : Int32)), (.ref b1), (.ref b1)])) rfl rfl (hb hby at_47)
  have x15_h0 := own_extW x13_h0 W15 gb1_h0
  have N15 := Fr.snoc X15 N13 (Nat.le_trans Z0 gb1_h0)
  refine Go.of st15 ?_
  show Go p e below _ T15 (mkF m 48 #[.val (.int x0), .val (.int x1), .val (.int x2), .unset, .unset, .unset, .unset, .unset, .unset, .unset, .unset, .unset, .unset, .unset, .unset] [(.ref b1)])
  refine Go.of (fun _ k => XS.dup X15.here hx rfl (hb hby at_48) rfl rfl k) ?_
  show Go p e below _ T15 (mkF m 49 #[.val (.int x0), .val (.int x1), .val (.int x2), .unset, .unset, .unset, .unset, .unset, .unset, .unset, .unset, .unset, .unset, .unset, .unset] [(.ref b1), (.ref b1)])
  refine Go.of (fun _ k => XS.bipush X15.here hx rfl (hb hby at_49) k) ?_
  show Go p e below _ T15 (mkF m 51 #[.val (.int x0), .val (.int x1), .val (.int x2), .unset, .unset, .unset, .unset, .unset, .unset, .unset, .unset, .unset, .unset, .unset, .unset] [(.int (7 : Int32)), (.ref b1), (.ref b1)])
  obtain ⟨T16, X16, e16, st16⟩ := getS2 X15 hx hZ hown (host := "") (Or.inl (hw _ (List.mem_of_getElem? (i := 18) rfl))) Via.refl e15 (S7.ext x15_h0) (g := (mkF m 51 #[.val (.int x0), .val (.int x1), .val (.int x2), .unset, .unset, .unset, .unset, .unset, .unset, .unset, .unset, .unset, .unset, .unset, .unset] [(.int (7 : Int32)), (.ref b1), (.ref b1)])) rfl (hb hby at_51)
  refine Go.of st16 ?_
  show Go p e below _ T16 (mkF m 54 #[.val (.int x0), .val (.int x1), .val (.int x2), .unset, .unset, .unset, .unset, .unset, .unset, .unset, .unset, .unset, .unset, .unset, .unset] [(.ref (w 7)), (.int (7 : Int32)), (.ref b1), (.ref b1)])
  obtain ⟨T17, h17, X17, e17, W17, V17, st17⟩ := own_stA X16 hx hZ e16 V15 O1 (j := (7 : Int32)) (by decide) (by show ((7 : Int32)).toNatClampNeg < 8; decide) (Or.inr ⟨_, rfl, ((Ex 7 (by decide)).ext x15_h0)⟩) (vs' := [(.ref (w 0)), (.ref (w 1)), (.ref (w 2)), (.ref (w 3)), (.ref (w 4)), (.ref (w 5)), (.ref (w 6)), (.ref (w 7))]) rfl (g := (mkF m 54 #[.val (.int x0), .val (.int x1), .val (.int x2), .unset, .unset, .unset, .unset, .unset, .unset, .unset, .unset, .unset, .unset, .unset, .unset] [(.ref (w 7)), (.int (7 : Int32)), (.ref b1), (.ref b1)])) rfl rfl (hb hby at_54)
  have x17_h0 := own_extW x15_h0 W17 gb1_h0
  have N17 := Fr.snoc X17 N15 (Nat.le_trans Z0 gb1_h0)
  refine Go.of st17 ?_
  show Go p e below _ T17 (mkF m 55 #[.val (.int x0), .val (.int x1), .val (.int x2), .unset, .unset, .unset, .unset, .unset, .unset, .unset, .unset, .unset, .unset, .unset, .unset] [(.ref b1)])
  have x0_h17 := own_ext0 h17
  refine Go.of (fun _ k => XS.astoreN X17.here hx rfl (hb hby at_55) rfl rfl (l' := #[.val (.int x0), .val (.int x1), .val (.int x2), .val (.ref b1), .unset, .unset, .unset, .unset, .unset, .unset, .unset, .unset, .unset, .unset, .unset]) rfl k) ?_
  show Go p e below _ T17 (mkF m 56 #[.val (.int x0), .val (.int x1), .val (.int x2), .val (.ref b1), .unset, .unset, .unset, .unset, .unset, .unset, .unset, .unset, .unset, .unset, .unset] [])
  refine Go.of (fun _ k => XS.bipush X17.here hx rfl (hb hby at_56) k) ?_
  show Go p e below _ T17 (mkF m 58 #[.val (.int x0), .val (.int x1), .val (.int x2), .val (.ref b1), .unset, .unset, .unset, .unset, .unset, .unset, .unset, .unset, .unset, .unset, .unset] [(.int (8 : Int32))])
  obtain ⟨T18, h18, k18, X18, e18, E18, A18, O18, st18⟩ := newR X17 hx hZ hown (hw _ (List.mem_of_getElem? (i := 0) rfl)) (hw _ (List.mem_of_getElem? (i := 1) rfl)) e17 (g := (mkF m 58 #[.val (.int x0), .val (.int x1), .val (.int x2), .val (.ref b1), .unset, .unset, .unset, .unset, .unset, .unset, .unset, .unset, .unset, .unset, .unset] [(.int (8 : Int32))])) rfl (hb hby at_58) rfl (by decide) (cap := 8) (by decide) (by decide) (by decide) (by decide)
  obtain ⟨b18, g18⟩ : ∃ z, z = h17.size := ⟨_, rfl⟩
  rw [← g18] at A18 st18
  have gb18_h0 : h0.size ≤ b18 := by rw [g18]; exact x17_h0.1
  have gb18_h17 : h17.size ≤ b18 := by rw [g18]; exact x0_h17.1
  have V18 : Al Z h18 b18 k18 "com/example/unfussy_switchboard/unfussyswitchboard/model/AgentState" [.null, .null, .null, .null, .null, .null, .null, .null] := own_newA A18 rfl
  have x18_h0 := own_extT x17_h0 E18
  have x18_h17 := own_extT x0_h17 E18
  refine Go.of st18 ?_
  show Go p e below _ T18 (mkF m 61 #[.val (.int x0), .val (.int x1), .val (.int x2), .val (.ref b1), .unset, .unset, .unset, .unset, .unset, .unset, .unset, .unset, .unset, .unset, .unset] [(.ref b18)])
  refine Go.of (fun _ k => XS.dup X18.here hx rfl (hb hby at_61) rfl rfl k) ?_
  show Go p e below _ T18 (mkF m 62 #[.val (.int x0), .val (.int x1), .val (.int x2), .val (.ref b1), .unset, .unset, .unset, .unset, .unset, .unset, .unset, .unset, .unset, .unset, .unset] [(.ref b18), (.ref b18)])
  refine Go.of (fun _ k => XS.iconst X18.here hx rfl (hb hby at_62) k) ?_
  show Go p e below _ T18 (mkF m 63 #[.val (.int x0), .val (.int x1), .val (.int x2), .val (.ref b1), .unset, .unset, .unset, .unset, .unset, .unset, .unset, .unset, .unset, .unset, .unset] [(.int (0 : Int32)), (.ref b18), (.ref b18)])
  refine Go.of (fun _ k => XS.aconstNull X18.here hx rfl (hb hby at_63) k) ?_
  show Go p e below _ T18 (mkF m 64 #[.val (.int x0), .val (.int x1), .val (.int x2), .val (.ref b1), .unset, .unset, .unset, .unset, .unset, .unset, .unset, .unset, .unset, .unset, .unset] [.null, (.int (0 : Int32)), (.ref b18), (.ref b18)])
  obtain ⟨T19, h19, X19, e19, W19, V19, st19⟩ := own_stA X18 hx hZ e18 V18 O18 (j := (0 : Int32)) (by decide) (by show ((0 : Int32)).toNatClampNeg < 8; decide) (Or.inl rfl) (vs' := [.null, .null, .null, .null, .null, .null, .null, .null]) rfl (g := (mkF m 64 #[.val (.int x0), .val (.int x1), .val (.int x2), .val (.ref b1), .unset, .unset, .unset, .unset, .unset, .unset, .unset, .unset, .unset, .unset, .unset] [.null, (.int (0 : Int32)), (.ref b18), (.ref b18)])) rfl rfl (hb hby at_64)
  have x19_h0 := own_extW x18_h0 W19 gb18_h0
  have x19_h17 := own_extW x18_h17 W19 gb18_h17
  have N19 := Fr.snoc X19 N17 (Nat.le_trans Z0 gb18_h0)
  refine Go.of st19 ?_
  show Go p e below _ T19 (mkF m 65 #[.val (.int x0), .val (.int x1), .val (.int x2), .val (.ref b1), .unset, .unset, .unset, .unset, .unset, .unset, .unset, .unset, .unset, .unset, .unset] [(.ref b18)])
  refine Go.of (fun _ k => XS.dup X19.here hx rfl (hb hby at_65) rfl rfl k) ?_
  show Go p e below _ T19 (mkF m 66 #[.val (.int x0), .val (.int x1), .val (.int x2), .val (.ref b1), .unset, .unset, .unset, .unset, .unset, .unset, .unset, .unset, .unset, .unset, .unset] [(.ref b18), (.ref b18)])
  refine Go.of (fun _ k => XS.iconst X19.here hx rfl (hb hby at_66) k) ?_
  show Go p e below _ T19 (mkF m 67 #[.val (.int x0), .val (.int x1), .val (.int x2), .val (.ref b1), .unset, .unset, .unset, .unset, .unset, .unset, .unset, .unset, .unset, .unset, .unset] [(.int (1 : Int32)), (.ref b18), (.ref b18)])
  refine Go.of (fun _ k => XS.aconstNull X19.here hx rfl (hb hby at_67) k) ?_
  show Go p e below _ T19 (mkF m 68 #[.val (.int x0), .val (.int x1), .val (.int x2), .val (.ref b1), .unset, .unset, .unset, .unset, .unset, .unset, .unset, .unset, .unset, .unset, .unset] [.null, (.int (1 : Int32)), (.ref b18), (.ref b18)])
  obtain ⟨T20, h20, X20, e20, W20, V20, st20⟩ := own_stA X19 hx hZ e19 V19 O18 (j := (1 : Int32)) (by decide) (by show ((1 : Int32)).toNatClampNeg < 8; decide) (Or.inl rfl) (vs' := [.null, .null, .null, .null, .null, .null, .null, .null]) rfl (g := (mkF m 68 #[.val (.int x0), .val (.int x1), .val (.int x2), .val (.ref b1), .unset, .unset, .unset, .unset, .unset, .unset, .unset, .unset, .unset, .unset, .unset] [.null, (.int (1 : Int32)), (.ref b18), (.ref b18)])) rfl rfl (hb hby at_68)
  have x20_h0 := own_extW x19_h0 W20 gb18_h0
  have x20_h17 := own_extW x19_h17 W20 gb18_h17
  have N20 := Fr.snoc X20 N19 (Nat.le_trans Z0 gb18_h0)
  refine Go.of st20 ?_
  show Go p e below _ T20 (mkF m 69 #[.val (.int x0), .val (.int x1), .val (.int x2), .val (.ref b1), .unset, .unset, .unset, .unset, .unset, .unset, .unset, .unset, .unset, .unset, .unset] [(.ref b18)])
  refine Go.of (fun _ k => XS.dup X20.here hx rfl (hb hby at_69) rfl rfl k) ?_
  show Go p e below _ T20 (mkF m 70 #[.val (.int x0), .val (.int x1), .val (.int x2), .val (.ref b1), .unset, .unset, .unset, .unset, .unset, .unset, .unset, .unset, .unset, .unset, .unset] [(.ref b18), (.ref b18)])
  refine Go.of (fun _ k => XS.iconst X20.here hx rfl (hb hby at_70) k) ?_
  show Go p e below _ T20 (mkF m 71 #[.val (.int x0), .val (.int x1), .val (.int x2), .val (.ref b1), .unset, .unset, .unset, .unset, .unset, .unset, .unset, .unset, .unset, .unset, .unset] [(.int (2 : Int32)), (.ref b18), (.ref b18)])
  refine Go.of (fun _ k => XS.aconstNull X20.here hx rfl (hb hby at_71) k) ?_
  show Go p e below _ T20 (mkF m 72 #[.val (.int x0), .val (.int x1), .val (.int x2), .val (.ref b1), .unset, .unset, .unset, .unset, .unset, .unset, .unset, .unset, .unset, .unset, .unset] [.null, (.int (2 : Int32)), (.ref b18), (.ref b18)])
  obtain ⟨T21, h21, X21, e21, W21, V21, st21⟩ := own_stA X20 hx hZ e20 V20 O18 (j := (2 : Int32)) (by decide) (by show ((2 : Int32)).toNatClampNeg < 8; decide) (Or.inl rfl) (vs' := [.null, .null, .null, .null, .null, .null, .null, .null]) rfl (g := (mkF m 72 #[.val (.int x0), .val (.int x1), .val (.int x2), .val (.ref b1), .unset, .unset, .unset, .unset, .unset, .unset, .unset, .unset, .unset, .unset, .unset] [.null, (.int (2 : Int32)), (.ref b18), (.ref b18)])) rfl rfl (hb hby at_72)
  have x21_h0 := own_extW x20_h0 W21 gb18_h0
  have x21_h17 := own_extW x20_h17 W21 gb18_h17
  have N21 := Fr.snoc X21 N20 (Nat.le_trans Z0 gb18_h0)
  refine Go.of st21 ?_
  show Go p e below _ T21 (mkF m 73 #[.val (.int x0), .val (.int x1), .val (.int x2), .val (.ref b1), .unset, .unset, .unset, .unset, .unset, .unset, .unset, .unset, .unset, .unset, .unset] [(.ref b18)])
  refine Go.of (fun _ k => XS.dup X21.here hx rfl (hb hby at_73) rfl rfl k) ?_
  show Go p e below _ T21 (mkF m 74 #[.val (.int x0), .val (.int x1), .val (.int x2), .val (.ref b1), .unset, .unset, .unset, .unset, .unset, .unset, .unset, .unset, .unset, .unset, .unset] [(.ref b18), (.ref b18)])
  refine Go.of (fun _ k => XS.iconst X21.here hx rfl (hb hby at_74) k) ?_
  show Go p e below _ T21 (mkF m 75 #[.val (.int x0), .val (.int x1), .val (.int x2), .val (.ref b1), .unset, .unset, .unset, .unset, .unset, .unset, .unset, .unset, .unset, .unset, .unset] [(.int (3 : Int32)), (.ref b18), (.ref b18)])
  refine Go.of (fun _ k => XS.aconstNull X21.here hx rfl (hb hby at_75) k) ?_
  show Go p e below _ T21 (mkF m 76 #[.val (.int x0), .val (.int x1), .val (.int x2), .val (.ref b1), .unset, .unset, .unset, .unset, .unset, .unset, .unset, .unset, .unset, .unset, .unset] [.null, (.int (3 : Int32)), (.ref b18), (.ref b18)])
  obtain ⟨T22, h22, X22, e22, W22, V22, st22⟩ := own_stA X21 hx hZ e21 V21 O18 (j := (3 : Int32)) (by decide) (by show ((3 : Int32)).toNatClampNeg < 8; decide) (Or.inl rfl) (vs' := [.null, .null, .null, .null, .null, .null, .null, .null]) rfl (g := (mkF m 76 #[.val (.int x0), .val (.int x1), .val (.int x2), .val (.ref b1), .unset, .unset, .unset, .unset, .unset, .unset, .unset, .unset, .unset, .unset, .unset] [.null, (.int (3 : Int32)), (.ref b18), (.ref b18)])) rfl rfl (hb hby at_76)
  have x22_h0 := own_extW x21_h0 W22 gb18_h0
  have x22_h17 := own_extW x21_h17 W22 gb18_h17
  have N22 := Fr.snoc X22 N21 (Nat.le_trans Z0 gb18_h0)
  refine Go.of st22 ?_
  show Go p e below _ T22 (mkF m 77 #[.val (.int x0), .val (.int x1), .val (.int x2), .val (.ref b1), .unset, .unset, .unset, .unset, .unset, .unset, .unset, .unset, .unset, .unset, .unset] [(.ref b18)])
  refine Go.of (fun _ k => XS.dup X22.here hx rfl (hb hby at_77) rfl rfl k) ?_
  show Go p e below _ T22 (mkF m 78 #[.val (.int x0), .val (.int x1), .val (.int x2), .val (.ref b1), .unset, .unset, .unset, .unset, .unset, .unset, .unset, .unset, .unset, .unset, .unset] [(.ref b18), (.ref b18)])
  refine Go.of (fun _ k => XS.iconst X22.here hx rfl (hb hby at_78) k) ?_
  show Go p e below _ T22 (mkF m 79 #[.val (.int x0), .val (.int x1), .val (.int x2), .val (.ref b1), .unset, .unset, .unset, .unset, .unset, .unset, .unset, .unset, .unset, .unset, .unset] [(.int (4 : Int32)), (.ref b18), (.ref b18)])
  refine Go.of (fun _ k => XS.aconstNull X22.here hx rfl (hb hby at_79) k) ?_
  show Go p e below _ T22 (mkF m 80 #[.val (.int x0), .val (.int x1), .val (.int x2), .val (.ref b1), .unset, .unset, .unset, .unset, .unset, .unset, .unset, .unset, .unset, .unset, .unset] [.null, (.int (4 : Int32)), (.ref b18), (.ref b18)])
  obtain ⟨T23, h23, X23, e23, W23, V23, st23⟩ := own_stA X22 hx hZ e22 V22 O18 (j := (4 : Int32)) (by decide) (by show ((4 : Int32)).toNatClampNeg < 8; decide) (Or.inl rfl) (vs' := [.null, .null, .null, .null, .null, .null, .null, .null]) rfl (g := (mkF m 80 #[.val (.int x0), .val (.int x1), .val (.int x2), .val (.ref b1), .unset, .unset, .unset, .unset, .unset, .unset, .unset, .unset, .unset, .unset, .unset] [.null, (.int (4 : Int32)), (.ref b18), (.ref b18)])) rfl rfl (hb hby at_80)
  have x23_h0 := own_extW x22_h0 W23 gb18_h0
  have x23_h17 := own_extW x22_h17 W23 gb18_h17
  have N23 := Fr.snoc X23 N22 (Nat.le_trans Z0 gb18_h0)
  refine Go.of st23 ?_
  show Go p e below _ T23 (mkF m 81 #[.val (.int x0), .val (.int x1), .val (.int x2), .val (.ref b1), .unset, .unset, .unset, .unset, .unset, .unset, .unset, .unset, .unset, .unset, .unset] [(.ref b18)])
  refine Go.of (fun _ k => XS.dup X23.here hx rfl (hb hby at_81) rfl rfl k) ?_
  show Go p e below _ T23 (mkF m 82 #[.val (.int x0), .val (.int x1), .val (.int x2), .val (.ref b1), .unset, .unset, .unset, .unset, .unset, .unset, .unset, .unset, .unset, .unset, .unset] [(.ref b18), (.ref b18)])
  refine Go.of (fun _ k => XS.iconst X23.here hx rfl (hb hby at_82) k) ?_
  show Go p e below _ T23 (mkF m 83 #[.val (.int x0), .val (.int x1), .val (.int x2), .val (.ref b1), .unset, .unset, .unset, .unset, .unset, .unset, .unset, .unset, .unset, .unset, .unset] [(.int (5 : Int32)), (.ref b18), (.ref b18)])
  refine Go.of (fun _ k => XS.aconstNull X23.here hx rfl (hb hby at_83) k) ?_
  show Go p e below _ T23 (mkF m 84 #[.val (.int x0), .val (.int x1), .val (.int x2), .val (.ref b1), .unset, .unset, .unset, .unset, .unset, .unset, .unset, .unset, .unset, .unset, .unset] [.null, (.int (5 : Int32)), (.ref b18), (.ref b18)])
  obtain ⟨T24, h24, X24, e24, W24, V24, st24⟩ := own_stA X23 hx hZ e23 V23 O18 (j := (5 : Int32)) (by decide) (by show ((5 : Int32)).toNatClampNeg < 8; decide) (Or.inl rfl) (vs' := [.null, .null, .null, .null, .null, .null, .null, .null]) rfl (g := (mkF m 84 #[.val (.int x0), .val (.int x1), .val (.int x2), .val (.ref b1), .unset, .unset, .unset, .unset, .unset, .unset, .unset, .unset, .unset, .unset, .unset] [.null, (.int (5 : Int32)), (.ref b18), (.ref b18)])) rfl rfl (hb hby at_84)
  have x24_h0 := own_extW x23_h0 W24 gb18_h0
  have x24_h17 := own_extW x23_h17 W24 gb18_h17
  have N24 := Fr.snoc X24 N23 (Nat.le_trans Z0 gb18_h0)
  refine Go.of st24 ?_
  show Go p e below _ T24 (mkF m 85 #[.val (.int x0), .val (.int x1), .val (.int x2), .val (.ref b1), .unset, .unset, .unset, .unset, .unset, .unset, .unset, .unset, .unset, .unset, .unset] [(.ref b18)])
  refine Go.of (fun _ k => XS.dup X24.here hx rfl (hb hby at_85) rfl rfl k) ?_
  show Go p e below _ T24 (mkF m 86 #[.val (.int x0), .val (.int x1), .val (.int x2), .val (.ref b1), .unset, .unset, .unset, .unset, .unset, .unset, .unset, .unset, .unset, .unset, .unset] [(.ref b18), (.ref b18)])
  refine Go.of (fun _ k => XS.bipush X24.here hx rfl (hb hby at_86) k) ?_
  show Go p e below _ T24 (mkF m 88 #[.val (.int x0), .val (.int x1), .val (.int x2), .val (.ref b1), .unset, .unset, .unset, .unset, .unset, .unset, .unset, .unset, .unset, .unset, .unset] [(.int (6 : Int32)), (.ref b18), (.ref b18)])
  obtain ⟨T25, X25, e25, st25⟩ := getS2 X24 hx hZ hown (host := "") (Or.inl (hw _ (List.mem_of_getElem? (i := 6) rfl))) Via.refl e24 (S1.ext x24_h0) (g := (mkF m 88 #[.val (.int x0), .val (.int x1), .val (.int x2), .val (.ref b1), .unset, .unset, .unset, .unset, .unset, .unset, .unset, .unset, .unset, .unset, .unset] [(.int (6 : Int32)), (.ref b18), (.ref b18)])) rfl (hb hby at_88)
  refine Go.of st25 ?_
  show Go p e below _ T25 (mkF m 91 #[.val (.int x0), .val (.int x1), .val (.int x2), .val (.ref b1), .unset, .unset, .unset, .unset, .unset, .unset, .unset, .unset, .unset, .unset, .unset] [(.ref (w 1)), (.int (6 : Int32)), (.ref b18), (.ref b18)])
  obtain ⟨T26, h26, X26, e26, W26, V26, st26⟩ := own_stA X25 hx hZ e25 V24 O18 (j := (6 : Int32)) (by decide) (by show ((6 : Int32)).toNatClampNeg < 8; decide) (Or.inr ⟨_, rfl, ((Ex 1 (by decide)).ext x24_h0)⟩) (vs' := [.null, .null, .null, .null, .null, .null, (.ref (w 1)), .null]) rfl (g := (mkF m 91 #[.val (.int x0), .val (.int x1), .val (.int x2), .val (.ref b1), .unset, .unset, .unset, .unset, .unset, .unset, .unset, .unset, .unset, .unset, .unset] [(.ref (w 1)), (.int (6 : Int32)), (.ref b18), (.ref b18)])) rfl rfl (hb hby at_91)
  have x26_h0 := own_extW x24_h0 W26 gb18_h0
  have x26_h17 := own_extW x24_h17 W26 gb18_h17
  have N26 := Fr.snoc X26 N24 (Nat.le_trans Z0 gb18_h0)
  refine Go.of st26 ?_
  show Go p e below _ T26 (mkF m 92 #[.val (.int x0), .val (.int x1), .val (.int x2), .val (.ref b1), .unset, .unset, .unset, .unset, .unset, .unset, .unset, .unset, .unset, .unset, .unset] [(.ref b18)])
  refine Go.of (fun _ k => XS.dup X26.here hx rfl (hb hby at_92) rfl rfl k) ?_
  show Go p e below _ T26 (mkF m 93 #[.val (.int x0), .val (.int x1), .val (.int x2), .val (.ref b1), .unset, .unset, .unset, .unset, .unset, .unset, .unset, .unset, .unset, .unset, .unset] [(.ref b18), (.ref b18)])
  refine Go.of (fun _ k => XS.bipush X26.here hx rfl (hb hby at_93) k) ?_
  show Go p e below _ T26 (mkF m 95 #[.val (.int x0), .val (.int x1), .val (.int x2), .val (.ref b1), .unset, .unset, .unset, .unset, .unset, .unset, .unset, .unset, .unset, .unset, .unset] [(.int (7 : Int32)), (.ref b18), (.ref b18)])
  obtain ⟨T27, X27, e27, st27⟩ := getS2 X26 hx hZ hown (host := "") (Or.inl (hw _ (List.mem_of_getElem? (i := 8) rfl))) Via.refl e26 (S2.ext x26_h0) (g := (mkF m 95 #[.val (.int x0), .val (.int x1), .val (.int x2), .val (.ref b1), .unset, .unset, .unset, .unset, .unset, .unset, .unset, .unset, .unset, .unset, .unset] [(.int (7 : Int32)), (.ref b18), (.ref b18)])) rfl (hb hby at_95)
  refine Go.of st27 ?_
  show Go p e below _ T27 (mkF m 98 #[.val (.int x0), .val (.int x1), .val (.int x2), .val (.ref b1), .unset, .unset, .unset, .unset, .unset, .unset, .unset, .unset, .unset, .unset, .unset] [(.ref (w 2)), (.int (7 : Int32)), (.ref b18), (.ref b18)])
  obtain ⟨T28, h28, X28, e28, W28, V28, st28⟩ := own_stA X27 hx hZ e27 V26 O18 (j := (7 : Int32)) (by decide) (by show ((7 : Int32)).toNatClampNeg < 8; decide) (Or.inr ⟨_, rfl, ((Ex 2 (by decide)).ext x26_h0)⟩) (vs' := [.null, .null, .null, .null, .null, .null, (.ref (w 1)), (.ref (w 2))]) rfl (g := (mkF m 98 #[.val (.int x0), .val (.int x1), .val (.int x2), .val (.ref b1), .unset, .unset, .unset, .unset, .unset, .unset, .unset, .unset, .unset, .unset, .unset] [(.ref (w 2)), (.int (7 : Int32)), (.ref b18), (.ref b18)])) rfl rfl (hb hby at_98)
  have x28_h0 := own_extW x26_h0 W28 gb18_h0
  have x28_h17 := own_extW x26_h17 W28 gb18_h17
  have N28 := Fr.snoc X28 N26 (Nat.le_trans Z0 gb18_h0)
  refine Go.of st28 ?_
  show Go p e below _ T28 (mkF m 99 #[.val (.int x0), .val (.int x1), .val (.int x2), .val (.ref b1), .unset, .unset, .unset, .unset, .unset, .unset, .unset, .unset, .unset, .unset, .unset] [(.ref b18)])
  refine Go.of (fun _ k => XS.astore X28.here hx rfl (hb hby at_99) rfl rfl (l' := #[.val (.int x0), .val (.int x1), .val (.int x2), .val (.ref b1), .val (.ref b18), .unset, .unset, .unset, .unset, .unset, .unset, .unset, .unset, .unset, .unset]) rfl k) ?_
  show Go p e below _ T28 (mkF m 101 #[.val (.int x0), .val (.int x1), .val (.int x2), .val (.ref b1), .val (.ref b18), .unset, .unset, .unset, .unset, .unset, .unset, .unset, .unset, .unset, .unset] [])
  refine Go.of (fun _ k => XS.iloadN X28.here hx rfl (hb hby at_101) rfl k) ?_
  show Go p e below _ T28 (mkF m 102 #[.val (.int x0), .val (.int x1), .val (.int x2), .val (.ref b1), .val (.ref b18), .unset, .unset, .unset, .unset, .unset, .unset, .unset, .unset, .unset, .unset] [(.int x0)])
  refine Go.of (fun _ k => XS.bipush X28.here hx rfl (hb hby at_102) k) ?_
  show Go p e below _ T28 (mkF m 104 #[.val (.int x0), .val (.int x1), .val (.int x2), .val (.ref b1), .val (.ref b18), .unset, .unset, .unset, .unset, .unset, .unset, .unset, .unset, .unset, .unset] [(.int (7 : Int32)), (.int x0)])
  refine Go.of (fun _ k => XS.iand X28.here hx rfl (hb hby at_104) rfl k) ?_
  show Go p e below _ T28 (mkF m 105 #[.val (.int x0), .val (.int x1), .val (.int x2), .val (.ref b1), .val (.ref b18), .unset, .unset, .unset, .unset, .unset, .unset, .unset, .unset, .unset, .unset] [(.int (x0 &&& (7 : Int32)))])
  generalize hi : (x0 &&& (7 : Int32)) = i
  show Go p e below _ T28 (mkF m 105 #[.val (.int x0), .val (.int x1), .val (.int x2), .val (.ref b1), .val (.ref b18), .unset, .unset, .unset, .unset, .unset, .unset, .unset, .unset, .unset, .unset] [(.int i)])
  have Ri : 0 ≤ i.toInt ∧ i.toInt < 8 := by rw [← hi]; exact own_and7 x0
  refine Go.of (fun _ k => XS.istore X28.here hx rfl (hb hby at_105) rfl (l' := #[.val (.int x0), .val (.int x1), .val (.int x2), .val (.ref b1), .val (.ref b18), .val (.int i), .unset, .unset, .unset, .unset, .unset, .unset, .unset, .unset, .unset]) rfl k) ?_
  show Go p e below _ T28 (mkF m 107 #[.val (.int x0), .val (.int x1), .val (.int x2), .val (.ref b1), .val (.ref b18), .val (.int i), .unset, .unset, .unset, .unset, .unset, .unset, .unset, .unset, .unset] [])
  obtain ⟨cl_i_3, A_i_3, -, s_i_3⟩ := (V17.ext x28_h17)
  have hat_i_3 : cl_i_3.slots[i.toNatClampNeg]? = some (.ref (w i.toNatClampNeg)) := by rw [s_i_3]; rcases own_c8 Ri with rfl | rfl | rfl | rfl | rfl | rfl | rfl | rfl <;> rfl
  have hin_i_3 : ¬ (i < 0 ∨ cl_i_3.slots.size ≤ i.toNatClampNeg) := fun q => q.elim (own_nn Ri).1 (fun z => by rw [s_i_3] at z; exact absurd (own_nn Ri).2 (Nat.not_lt.mpr z))
  refine Go.of (fun _ k => XS.aloadN X28.here hx rfl (hb hby at_107) rfl rfl k) ?_
  show Go p e below _ T28 (mkF m 108 #[.val (.int x0), .val (.int x1), .val (.int x2), .val (.ref b1), .val (.ref b18), .val (.int i), .unset, .unset, .unset, .unset, .unset, .unset, .unset, .unset, .unset] [(.ref b1)])
  refine Go.of (fun _ k => XS.iload X28.here hx rfl (hb hby at_108) rfl k) ?_
  show Go p e below _ T28 (mkF m 110 #[.val (.int x0), .val (.int x1), .val (.int x2), .val (.ref b1), .val (.ref b18), .val (.int i), .unset, .unset, .unset, .unset, .unset, .unset, .unset, .unset, .unset] [(.int i), (.ref b1)])
  refine Go.of (X28.aaload hx (j := i) (v := (.ref (w i.toNatClampNeg))) (by rw [e28]; exact A_i_3.1) (State.isArrayOf_alike hZ.alike A_i_3.2.1) rfl A_i_3.2.2 hin_i_3 hat_i_3 (g := (mkF m 110 #[.val (.int x0), .val (.int x1), .val (.int x2), .val (.ref b1), .val (.ref b18), .val (.int i), .unset, .unset, .unset, .unset, .unset, .unset, .unset, .unset, .unset] [(.int i), (.ref b1)])) rfl rfl (hb hby at_110)) ?_
  show Go p e below _ T28 (mkF m 111 #[.val (.int x0), .val (.int x1), .val (.int x2), .val (.ref b1), .val (.ref b18), .val (.int i), .unset, .unset, .unset, .unset, .unset, .unset, .unset, .unset, .unset] [(.ref (w i.toNatClampNeg))])
  refine Go.of (fun _ k => XS.astore X28.here hx rfl (hb hby at_111) rfl rfl (l' := #[.val (.int x0), .val (.int x1), .val (.int x2), .val (.ref b1), .val (.ref b18), .val (.int i), .val (.ref (w i.toNatClampNeg)), .unset, .unset, .unset, .unset, .unset, .unset, .unset, .unset]) rfl k) ?_
  show Go p e below _ T28 (mkF m 113 #[.val (.int x0), .val (.int x1), .val (.int x2), .val (.ref b1), .val (.ref b18), .val (.int i), .val (.ref (w i.toNatClampNeg)), .unset, .unset, .unset, .unset, .unset, .unset, .unset, .unset] [])
  refine Go.of (fun _ k => XS.aload X28.here hx rfl (hb hby at_113) rfl rfl k) ?_
  show Go p e below _ T28 (mkF m 115 #[.val (.int x0), .val (.int x1), .val (.int x2), .val (.ref b1), .val (.ref b18), .val (.int i), .val (.ref (w i.toNatClampNeg)), .unset, .unset, .unset, .unset, .unset, .unset, .unset, .unset] [(.ref (w i.toNatClampNeg))])
  obtain ⟨T29, X29, e29, st29⟩ := own_pure rfl rfl (own_callVQ X28 hx hZ (y := (⟨"com/example/unfussy_switchboard/unfussyswitchboard/model/AgentState", "afterWrapUp", "()Lcom/example/unfussy_switchboard/unfussyswitchboard/model/AgentState;"⟩ : MethodName)) hown (hw _ (List.mem_of_getElem? (i := 20) rfl)) (hw _ (List.mem_of_getElem? (i := 21) rfl)) (hw _ (List.mem_of_getElem? (i := 23) rfl)) (hw _ (List.mem_of_getElem? (i := 23) rfl)) (hw _ (List.mem_of_getElem? (i := 22) rfl)) (hw _ (List.mem_of_getElem? (i := 24) rfl)) (hw _ (List.mem_of_getElem? (i := 3) rfl)) (by decide) (c1 l Z a0 hw w h28 (D.ext x28_h0) (w i.toNatClampNeg) _ rfl) (by decide) 0 (by decide) (by decide) (by decide) e28 ((Ex _ (own_nn Ri).2).ext x28_h0) (g := (mkF m 115 #[.val (.int x0), .val (.int x1), .val (.int x2), .val (.ref b1), .val (.ref b18), .val (.int i), .val (.ref (w i.toNatClampNeg)), .unset, .unset, .unset, .unset, .unset, .unset, .unset, .unset] [(.ref (w i.toNatClampNeg))])) rfl (by rw [hml]; rfl) [] [] (lenOf (by decide +kernel : parseMethodDescriptor "()Lcom/example/unfussy_switchboard/unfussyswitchboard/model/AgentState;" = some ⟨[], some (.object "com/example/unfussy_switchboard/unfussyswitchboard/model/AgentState")⟩) rfl) rfl (by show 2 * 0 + _ ≤ _; exact Nat.le_of_eq rfl) rfl (hb hby at_115))
  refine Go.of st29 ?_
  show Go p e below _ T29 (mkF m 118 #[.val (.int x0), .val (.int x1), .val (.int x2), .val (.ref b1), .val (.ref b18), .val (.int i), .val (.ref (w i.toNatClampNeg)), .unset, .unset, .unset, .unset, .unset, .unset, .unset, .unset] [(awv w (w i.toNatClampNeg))])
  refine Go.of (fun _ k => XS.astoreS X29.here hx rfl (hb hby at_118) rfl (awv_ref w _) (XT.cat1 (awv_ref w _)) rfl (Or.inl rfl) k) ?_
  show Go p e below _ T29 (mkF m 120 #[.val (.int x0), .val (.int x1), .val (.int x2), .val (.ref b1), .val (.ref b18), .val (.int i), .val (.ref (w i.toNatClampNeg)), .val (awv w (w i.toNatClampNeg)), .unset, .unset, .unset, .unset, .unset, .unset, .unset] [])
  obtain ⟨cl_i_4, A_i_4, -, s_i_4⟩ := V28
  have hat_i_4 : cl_i_4.slots[i.toNatClampNeg]? = some (exq w i) := by rw [s_i_4]; rcases own_c8 Ri with rfl | rfl | rfl | rfl | rfl | rfl | rfl | rfl <;> rfl
  have hin_i_4 : ¬ (i < 0 ∨ cl_i_4.slots.size ≤ i.toNatClampNeg) := fun q => q.elim (own_nn Ri).1 (fun z => by rw [s_i_4] at z; exact absurd (own_nn Ri).2 (Nat.not_lt.mpr z))
  refine Go.of (fun _ k => XS.aload X29.here hx rfl (hb hby at_120) rfl (awv_ref w _) k) ?_
  show Go p e below _ T29 (mkF m 122 #[.val (.int x0), .val (.int x1), .val (.int x2), .val (.ref b1), .val (.ref b18), .val (.int i), .val (.ref (w i.toNatClampNeg)), .val (awv w (w i.toNatClampNeg)), .unset, .unset, .unset, .unset, .unset, .unset, .unset] [(awv w (w i.toNatClampNeg))])
  refine Go.of (fun _ k => XS.aload X29.here hx rfl (hb hby at_122) rfl rfl k) ?_
  show Go p e below _ T29 (mkF m 124 #[.val (.int x0), .val (.int x1), .val (.int x2), .val (.ref b1), .val (.ref b18), .val (.int i), .val (.ref (w i.toNatClampNeg)), .val (awv w (w i.toNatClampNeg)), .unset, .unset, .unset, .unset, .unset, .unset, .unset] [(.ref b18), (awv w (w i.toNatClampNeg))])
  refine Go.of (fun _ k => XS.iload X29.here hx rfl (hb hby at_124) rfl k) ?_
  show Go p e below _ T29 (mkF m 126 #[.val (.int x0), .val (.int x1), .val (.int x2), .val (.ref b1), .val (.ref b18), .val (.int i), .val (.ref (w i.toNatClampNeg)), .val (awv w (w i.toNatClampNeg)), .unset, .unset, .unset, .unset, .unset, .unset, .unset] [(.int i), (.ref b18), (awv w (w i.toNatClampNeg))])
  refine Go.of (X29.aaload hx (j := i) (v := (exq w i)) (by rw [e29]; exact A_i_4.1) (State.isArrayOf_alike hZ.alike A_i_4.2.1) rfl A_i_4.2.2 hin_i_4 hat_i_4 (g := (mkF m 126 #[.val (.int x0), .val (.int x1), .val (.int x2), .val (.ref b1), .val (.ref b18), .val (.int i), .val (.ref (w i.toNatClampNeg)), .val (awv w (w i.toNatClampNeg)), .unset, .unset, .unset, .unset, .unset, .unset, .unset] [(.int i), (.ref b18), (awv w (w i.toNatClampNeg))])) rfl rfl (hb hby at_126)) ?_
  show Go p e below _ T29 (mkF m 127 #[.val (.int x0), .val (.int x1), .val (.int x2), .val (.ref b1), .val (.ref b18), .val (.int i), .val (.ref (w i.toNatClampNeg)), .val (awv w (w i.toNatClampNeg)), .unset, .unset, .unset, .unset, .unset, .unset, .unset] [(exq w i), (awv w (w i.toNatClampNeg))])
  have hc127_30 : ((awv w (w i.toNatClampNeg)) : Value) = (exq w i) := (awq hI Ri)
  refine Go.of (fun _ k => XT.acmpNo X29.here hx rfl (hb hby at_127) rfl (awv_ref w _) (exq_ref w i) (XT.aa_ne_f hc127_30) k) ?_
  show Go p e below _ T29 (mkF m 130 #[.val (.int x0), .val (.int x1), .val (.int x2), .val (.ref b1), .val (.ref b18), .val (.int i), .val (.ref (w i.toNatClampNeg)), .val (awv w (w i.toNatClampNeg)), .unset, .unset, .unset, .unset, .unset, .unset, .unset] [])
  refine Go.of (fun _ k => XS.iconst X29.here hx rfl (hb hby at_130) k) ?_
  show Go p e below _ T29 (mkF m 131 #[.val (.int x0), .val (.int x1), .val (.int x2), .val (.ref b1), .val (.ref b18), .val (.int i), .val (.ref (w i.toNatClampNeg)), .val (awv w (w i.toNatClampNeg)), .unset, .unset, .unset, .unset, .unset, .unset, .unset] [(.int (1 : Int32))])
  refine Go.of (fun _ k => XS.goto X29.here hx rfl (pc0 := 131) (pc' := 135) rfl (hb hby at_131) (by decide) (by decide) k) ?_
  show Go p e below _ T29 (mkF m 135 #[.val (.int x0), .val (.int x1), .val (.int x2), .val (.ref b1), .val (.ref b18), .val (.int i), .val (.ref (w i.toNatClampNeg)), .val (awv w (w i.toNatClampNeg)), .unset, .unset, .unset, .unset, .unset, .unset, .unset] [(.int (1 : Int32))])
  refine Go.of (fun _ k => XS.istore X29.here hx rfl (hb hby at_135) rfl (l' := #[.val (.int x0), .val (.int x1), .val (.int x2), .val (.ref b1), .val (.ref b18), .val (.int i), .val (.ref (w i.toNatClampNeg)), .val (awv w (w i.toNatClampNeg)), .val (.int (1 : Int32)), .unset, .unset, .unset, .unset, .unset, .unset]) rfl k) ?_
  show Go p e below _ T29 (mkF m 137 #[.val (.int x0), .val (.int x1), .val (.int x2), .val (.ref b1), .val (.ref b18), .val (.int i), .val (.ref (w i.toNatClampNeg)), .val (awv w (w i.toNatClampNeg)), .val (.int (1 : Int32)), .unset, .unset, .unset, .unset, .unset, .unset] [])
  refine Go.of (fun _ k => XS.iload X29.here hx rfl (hb hby at_137) rfl k) ?_
  show Go p e below _ T29 (mkF m 139 #[.val (.int x0), .val (.int x1), .val (.int x2), .val (.ref b1), .val (.ref b18), .val (.int i), .val (.ref (w i.toNatClampNeg)), .val (awv w (w i.toNatClampNeg)), .val (.int (1 : Int32)), .unset, .unset, .unset, .unset, .unset, .unset] [(.int (1 : Int32))])
  refine Go.of (fun _ k => XS.ifNo X29.here hx rfl (hb hby at_139) rfl (XT.i0_eq_f (by decide)) k) ?_
  show Go p e below _ T29 (mkF m 142 #[.val (.int x0), .val (.int x1), .val (.int x2), .val (.ref b1), .val (.ref b18), .val (.int i), .val (.ref (w i.toNatClampNeg)), .val (awv w (w i.toNatClampNeg)), .val (.int (1 : Int32)), .unset, .unset, .unset, .unset, .unset, .unset] [])
  have J31 : ∀ T', Same X29 T' → T'.heap = h28 → Go p e below (Fine s below room_1 (fun v h L => v = some (.int 1) ∧ Fr n0 L)) T' (mkF m 165 #[.val (.int x0), .val (.int x1), .val (.int x2), .val (.ref b1), .val (.ref b18), .val (.int i), .val (.ref (w i.toNatClampNeg)), .val (awv w (w i.toNatClampNeg)), .val (.int (1 : Int32)), .unset, .unset, .unset, .unset, .unset, .unset] [(.int (1 : Int32))]) := by
    intro T31 X31' e31
    have X31 := X31'.out
    show Go p e below _ T31 (mkF m 165 #[.val (.int x0), .val (.int x1), .val (.int x2), .val (.ref b1), .val (.ref b18), .val (.int i), .val (.ref (w i.toNatClampNeg)), .val (awv w (w i.toNatClampNeg)), .val (.int (1 : Int32)), .unset, .unset, .unset, .unset, .unset, .unset] [(.int (1 : Int32))])
    refine Go.of (fun _ k => XS.istore X31.here hx rfl (hb hby at_165) rfl (l' := #[.val (.int x0), .val (.int x1), .val (.int x2), .val (.ref b1), .val (.ref b18), .val (.int i), .val (.ref (w i.toNatClampNeg)), .val (awv w (w i.toNatClampNeg)), .val (.int (1 : Int32)), .unset, .unset, .unset, .unset, .unset, .unset]) rfl k) ?_
    show Go p e below _ T31 (mkF m 167 #[.val (.int x0), .val (.int x1), .val (.int x2), .val (.ref b1), .val (.ref b18), .val (.int i), .val (.ref (w i.toNatClampNeg)), .val (awv w (w i.toNatClampNeg)), .val (.int (1 : Int32)), .unset, .unset, .unset, .unset, .unset, .unset] [])
    refine Go.of (fun _ k => XS.aloadN X31.here hx rfl (hb hby at_167) rfl rfl k) ?_
    show Go p e below _ T31 (mkF m 168 #[.val (.int x0), .val (.int x1), .val (.int x2), .val (.ref b1), .val (.ref b18), .val (.int i), .val (.ref (w i.toNatClampNeg)), .val (awv w (w i.toNatClampNeg)), .val (.int (1 : Int32)), .unset, .unset, .unset, .unset, .unset, .unset] [(.ref b1)])
    refine Go.of (fun _ k => XS.iloadN X31.here hx rfl (hb hby at_168) rfl k) ?_
    show Go p e below _ T31 (mkF m 169 #[.val (.int x0), .val (.int x1), .val (.int x2), .val (.ref b1), .val (.ref b18), .val (.int i), .val (.ref (w i.toNatClampNeg)), .val (awv w (w i.toNatClampNeg)), .val (.int (1 : Int32)), .unset, .unset, .unset, .unset, .unset, .unset] [(.int x1), (.ref b1)])
    refine Go.of (fun _ k => XS.bipush X31.here hx rfl (hb hby at_169) k) ?_
    show Go p e below _ T31 (mkF m 171 #[.val (.int x0), .val (.int x1), .val (.int x2), .val (.ref b1), .val (.ref b18), .val (.int i), .val (.ref (w i.toNatClampNeg)), .val (awv w (w i.toNatClampNeg)), .val (.int (1 : Int32)), .unset, .unset, .unset, .unset, .unset, .unset] [(.int (7 : Int32)), (.int x1), (.ref b1)])
    refine Go.of (fun _ k => XS.iand X31.here hx rfl (hb hby at_171) rfl k) ?_
    show Go p e below _ T31 (mkF m 172 #[.val (.int x0), .val (.int x1), .val (.int x2), .val (.ref b1), .val (.ref b18), .val (.int i), .val (.ref (w i.toNatClampNeg)), .val (awv w (w i.toNatClampNeg)), .val (.int (1 : Int32)), .unset, .unset, .unset, .unset, .unset, .unset] [(.int (x1 &&& (7 : Int32))), (.ref b1)])
    generalize hjb : (x1 &&& (7 : Int32)) = jb
    show Go p e below _ T31 (mkF m 172 #[.val (.int x0), .val (.int x1), .val (.int x2), .val (.ref b1), .val (.ref b18), .val (.int i), .val (.ref (w i.toNatClampNeg)), .val (awv w (w i.toNatClampNeg)), .val (.int (1 : Int32)), .unset, .unset, .unset, .unset, .unset, .unset] [(.int jb), (.ref b1)])
    have Rjb : 0 ≤ jb.toInt ∧ jb.toInt < 8 := by rw [← hjb]; exact own_and7 x1
    obtain ⟨cl_jb_3, A_jb_3, -, s_jb_3⟩ := (V17.ext x28_h17)
    have hat_jb_3 : cl_jb_3.slots[jb.toNatClampNeg]? = some (.ref (w jb.toNatClampNeg)) := by rw [s_jb_3]; rcases own_c8 Rjb with rfl | rfl | rfl | rfl | rfl | rfl | rfl | rfl <;> rfl
    have hin_jb_3 : ¬ (jb < 0 ∨ cl_jb_3.slots.size ≤ jb.toNatClampNeg) := fun q => q.elim (own_nn Rjb).1 (fun z => by rw [s_jb_3] at z; exact absurd (own_nn Rjb).2 (Nat.not_lt.mpr z))
    refine Go.of (X31.aaload hx (j := jb) (v := (.ref (w jb.toNatClampNeg))) (by rw [e31]; exact A_jb_3.1) (State.isArrayOf_alike hZ.alike A_jb_3.2.1) rfl A_jb_3.2.2 hin_jb_3 hat_jb_3 (g := (mkF m 172 #[.val (.int x0), .val (.int x1), .val (.int x2), .val (.ref b1), .val (.ref b18), .val (.int i), .val (.ref (w i.toNatClampNeg)), .val (awv w (w i.toNatClampNeg)), .val (.int (1 : Int32)), .unset, .unset, .unset, .unset, .unset, .unset] [(.int jb), (.ref b1)])) rfl rfl (hb hby at_172)) ?_
    show Go p e below _ T31 (mkF m 173 #[.val (.int x0), .val (.int x1), .val (.int x2), .val (.ref b1), .val (.ref b18), .val (.int i), .val (.ref (w i.toNatClampNeg)), .val (awv w (w i.toNatClampNeg)), .val (.int (1 : Int32)), .unset, .unset, .unset, .unset, .unset, .unset] [(.ref (w jb.toNatClampNeg))])
    refine Go.of (fun _ k => XS.astore X31.here hx rfl (hb hby at_173) rfl rfl (l' := #[.val (.int x0), .val (.int x1), .val (.int x2), .val (.ref b1), .val (.ref b18), .val (.int i), .val (.ref (w i.toNatClampNeg)), .val (awv w (w i.toNatClampNeg)), .val (.int (1 : Int32)), .val (.ref (w jb.toNatClampNeg)), .unset, .unset, .unset, .unset, .unset]) rfl k) ?_
    show Go p e below _ T31 (mkF m 175 #[.val (.int x0), .val (.int x1), .val (.int x2), .val (.ref b1), .val (.ref b18), .val (.int i), .val (.ref (w i.toNatClampNeg)), .val (awv w (w i.toNatClampNeg)), .val (.int (1 : Int32)), .val (.ref (w jb.toNatClampNeg)), .unset, .unset, .unset, .unset, .unset] [])
    refine Go.of (fun _ k => XS.iloadN X31.here hx rfl (hb hby at_175) rfl k) ?_
    show Go p e below _ T31 (mkF m 176 #[.val (.int x0), .val (.int x1), .val (.int x2), .val (.ref b1), .val (.ref b18), .val (.int i), .val (.ref (w i.toNatClampNeg)), .val (awv w (w i.toNatClampNeg)), .val (.int (1 : Int32)), .val (.ref (w jb.toNatClampNeg)), .unset, .unset, .unset, .unset, .unset] [(.int x2)])
    refine Go.of (fun _ k => XS.bipush X31.here hx rfl (hb hby at_176) k) ?_
    show Go p e below _ T31 (mkF m 178 #[.val (.int x0), .val (.int x1), .val (.int x2), .val (.ref b1), .val (.ref b18), .val (.int i), .val (.ref (w i.toNatClampNeg)), .val (awv w (w i.toNatClampNeg)), .val (.int (1 : Int32)), .val (.ref (w jb.toNatClampNeg)), .unset, .unset, .unset, .unset, .unset] [(.int (8 : Int32)), (.int x2)])
    refine Go.of (fun _ k => XS.iand X31.here hx rfl (hb hby at_178) rfl k) ?_
    show Go p e below _ T31 (mkF m 179 #[.val (.int x0), .val (.int x1), .val (.int x2), .val (.ref b1), .val (.ref b18), .val (.int i), .val (.ref (w i.toNatClampNeg)), .val (awv w (w i.toNatClampNeg)), .val (.int (1 : Int32)), .val (.ref (w jb.toNatClampNeg)), .unset, .unset, .unset, .unset, .unset] [(.int (x2 &&& (8 : Int32)))])
    by_cases hc179_32 : (x2 &&& (8 : Int32)) = (0 : Int32)
    ·
      refine Go.of (fun _ k => XS.ifYes X31.here hx rfl (pc0 := 179) (pc' := 186) rfl (hb hby at_179) rfl (XT.i0_eq_t hc179_32) (by decide) (by decide) k) ?_
      show Go p e below _ T31 (mkF m 186 #[.val (.int x0), .val (.int x1), .val (.int x2), .val (.ref b1), .val (.ref b18), .val (.int i), .val (.ref (w i.toNatClampNeg)), .val (awv w (w i.toNatClampNeg)), .val (.int (1 : Int32)), .val (.ref (w jb.toNatClampNeg)), .unset, .unset, .unset, .unset, .unset] [])
      refine Go.of (fun _ k => XS.aloadN X31.here hx rfl (hb hby at_186) rfl rfl k) ?_
      show Go p e below _ T31 (mkF m 187 #[.val (.int x0), .val (.int x1), .val (.int x2), .val (.ref b1), .val (.ref b18), .val (.int i), .val (.ref (w i.toNatClampNeg)), .val (awv w (w i.toNatClampNeg)), .val (.int (1 : Int32)), .val (.ref (w jb.toNatClampNeg)), .unset, .unset, .unset, .unset, .unset] [(.ref b1)])
      refine Go.of (fun _ k => XS.iloadN X31.here hx rfl (hb hby at_187) rfl k) ?_
      show Go p e below _ T31 (mkF m 188 #[.val (.int x0), .val (.int x1), .val (.int x2), .val (.ref b1), .val (.ref b18), .val (.int i), .val (.ref (w i.toNatClampNeg)), .val (awv w (w i.toNatClampNeg)), .val (.int (1 : Int32)), .val (.ref (w jb.toNatClampNeg)), .unset, .unset, .unset, .unset, .unset] [(.int x2), (.ref b1)])
      refine Go.of (fun _ k => XS.bipush X31.here hx rfl (hb hby at_188) k) ?_
      show Go p e below _ T31 (mkF m 190 #[.val (.int x0), .val (.int x1), .val (.int x2), .val (.ref b1), .val (.ref b18), .val (.int i), .val (.ref (w i.toNatClampNeg)), .val (awv w (w i.toNatClampNeg)), .val (.int (1 : Int32)), .val (.ref (w jb.toNatClampNeg)), .unset, .unset, .unset, .unset, .unset] [(.int (7 : Int32)), (.int x2), (.ref b1)])
      refine Go.of (fun _ k => XS.iand X31.here hx rfl (hb hby at_190) rfl k) ?_
      show Go p e below _ T31 (mkF m 191 #[.val (.int x0), .val (.int x1), .val (.int x2), .val (.ref b1), .val (.ref b18), .val (.int i), .val (.ref (w i.toNatClampNeg)), .val (awv w (w i.toNatClampNeg)), .val (.int (1 : Int32)), .val (.ref (w jb.toNatClampNeg)), .unset, .unset, .unset, .unset, .unset] [(.int (x2 &&& (7 : Int32))), (.ref b1)])
      generalize hjc : (x2 &&& (7 : Int32)) = jc
      show Go p e below _ T31 (mkF m 191 #[.val (.int x0), .val (.int x1), .val (.int x2), .val (.ref b1), .val (.ref b18), .val (.int i), .val (.ref (w i.toNatClampNeg)), .val (awv w (w i.toNatClampNeg)), .val (.int (1 : Int32)), .val (.ref (w jb.toNatClampNeg)), .unset, .unset, .unset, .unset, .unset] [(.int jc), (.ref b1)])
      have Rjc : 0 ≤ jc.toInt ∧ jc.toInt < 8 := by rw [← hjc]; exact own_and7 x2
      obtain ⟨cl_jc_3, A_jc_3, -, s_jc_3⟩ := (V17.ext x28_h17)
      have hat_jc_3 : cl_jc_3.slots[jc.toNatClampNeg]? = some (.ref (w jc.toNatClampNeg)) := by rw [s_jc_3]; rcases own_c8 Rjc with rfl | rfl | rfl | rfl | rfl | rfl | rfl | rfl <;> rfl
      have hin_jc_3 : ¬ (jc < 0 ∨ cl_jc_3.slots.size ≤ jc.toNatClampNeg) := fun q => q.elim (own_nn Rjc).1 (fun z => by rw [s_jc_3] at z; exact absurd (own_nn Rjc).2 (Nat.not_lt.mpr z))
      refine Go.of (X31.aaload hx (j := jc) (v := (.ref (w jc.toNatClampNeg))) (by rw [e31]; exact A_jc_3.1) (State.isArrayOf_alike hZ.alike A_jc_3.2.1) rfl A_jc_3.2.2 hin_jc_3 hat_jc_3 (g := (mkF m 191 #[.val (.int x0), .val (.int x1), .val (.int x2), .val (.ref b1), .val (.ref b18), .val (.int i), .val (.ref (w i.toNatClampNeg)), .val (awv w (w i.toNatClampNeg)), .val (.int (1 : Int32)), .val (.ref (w jb.toNatClampNeg)), .unset, .unset, .unset, .unset, .unset] [(.int jc), (.ref b1)])) rfl rfl (hb hby at_191)) ?_
      show Go p e below _ T31 (mkF m 192 #[.val (.int x0), .val (.int x1), .val (.int x2), .val (.ref b1), .val (.ref b18), .val (.int i), .val (.ref (w i.toNatClampNeg)), .val (awv w (w i.toNatClampNeg)), .val (.int (1 : Int32)), .val (.ref (w jb.toNatClampNeg)), .unset, .unset, .unset, .unset, .unset] [(.ref (w jc.toNatClampNeg))])
      refine Go.of (fun _ k => XS.astore X31.here hx rfl (hb hby at_192) rfl rfl (l' := #[.val (.int x0), .val (.int x1), .val (.int x2), .val (.ref b1), .val (.ref b18), .val (.int i), .val (.ref (w i.toNatClampNeg)), .val (awv w (w i.toNatClampNeg)), .val (.int (1 : Int32)), .val (.ref (w jb.toNatClampNeg)), .val (.ref (w jc.toNatClampNeg)), .unset, .unset, .unset, .unset]) rfl k) ?_
      show Go p e below _ T31 (mkF m 194 #[.val (.int x0), .val (.int x1), .val (.int x2), .val (.ref b1), .val (.ref b18), .val (.int i), .val (.ref (w i.toNatClampNeg)), .val (awv w (w i.toNatClampNeg)), .val (.int (1 : Int32)), .val (.ref (w jb.toNatClampNeg)), .val (.ref (w jc.toNatClampNeg)), .unset, .unset, .unset, .unset] [])
      refine Go.of (fun _ k => XS.aload X31.here hx rfl (hb hby at_194) rfl rfl k) ?_
      show Go p e below _ T31 (mkF m 196 #[.val (.int x0), .val (.int x1), .val (.int x2), .val (.ref b1), .val (.ref b18), .val (.int i), .val (.ref (w i.toNatClampNeg)), .val (awv w (w i.toNatClampNeg)), .val (.int (1 : Int32)), .val (.ref (w jb.toNatClampNeg)), .val (.ref (w jc.toNatClampNeg)), .unset, .unset, .unset, .unset] [(.ref (w jb.toNatClampNeg))])
      refine Go.of (fun _ k => XS.aload X31.here hx rfl (hb hby at_196) rfl rfl k) ?_
      show Go p e below _ T31 (mkF m 198 #[.val (.int x0), .val (.int x1), .val (.int x2), .val (.ref b1), .val (.ref b18), .val (.int i), .val (.ref (w i.toNatClampNeg)), .val (awv w (w i.toNatClampNeg)), .val (.int (1 : Int32)), .val (.ref (w jb.toNatClampNeg)), .val (.ref (w jc.toNatClampNeg)), .unset, .unset, .unset, .unset] [(.ref (w jc.toNatClampNeg)), (.ref (w jb.toNatClampNeg))])
      refine Go.of (fun _ k => XS.iconst X31.here hx rfl (hb hby at_198) k) ?_
      show Go p e below _ T31 (mkF m 199 #[.val (.int x0), .val (.int x1), .val (.int x2), .val (.ref b1), .val (.ref b18), .val (.int i), .val (.ref (w i.toNatClampNeg)), .val (awv w (w i.toNatClampNeg)), .val (.int (1 : Int32)), .val (.ref (w jb.toNatClampNeg)), .val (.ref (w jc.toNatClampNeg)), .unset, .unset, .unset, .unset] [(.int (1 : Int32)), (.ref (w jc.toNatClampNeg)), (.ref (w jb.toNatClampNeg))])
      obtain ⟨T33, X33, e33, st33⟩ := own_pure rfl rfl (own_callSQ X31 hx hZ (y := (⟨"com/example/unfussy_switchboard/unfussyswitchboard/model/AgentState", "afterCall", "(Lcom/example/unfussy_switchboard/unfussyswitchboard/model/AgentState;Lcom/example/unfussy_switchboard/unfussyswitchboard/model/AgentState;Z)Lcom/example/unfussy_switchboard/unfussyswitchboard/model/AgentState;"⟩ : MethodName)) hown (hw _ (List.mem_of_getElem? (i := 32) rfl)) (hw _ (List.mem_of_getElem? (i := 33) rfl)) (hw _ (List.mem_of_getElem? (i := 3) rfl)) (hw _ (List.mem_of_getElem? (i := 34) rfl)) (by decide) (c3 l Z a0 hw w h28 (D.ext x28_h0) (.ref (w jb.toNatClampNeg)) (.ref (w jc.toNatClampNeg)) rfl rfl (1 : Int32) (.ref (wrA w (w jc.toNatClampNeg))) (acv_r w _ _)) (by decide) 0 (by decide) (by decide) (by decide) e31 (g := (mkF m 199 #[.val (.int x0), .val (.int x1), .val (.int x2), .val (.ref b1), .val (.ref b18), .val (.int i), .val (.ref (w i.toNatClampNeg)), .val (awv w (w i.toNatClampNeg)), .val (.int (1 : Int32)), .val (.ref (w jb.toNatClampNeg)), .val (.ref (w jc.toNatClampNeg)), .unset, .unset, .unset, .unset] [(.int (1 : Int32)), (.ref (w jc.toNatClampNeg)), (.ref (w jb.toNatClampNeg))])) rfl (by rw [hml]; rfl) [(.ref (w jb.toNatClampNeg)), (.ref (w jc.toNatClampNeg)), (.int (1 : Int32))] [] (lenOf (by decide +kernel : parseMethodDescriptor "(Lcom/example/unfussy_switchboard/unfussyswitchboard/model/AgentState;Lcom/example/unfussy_switchboard/unfussyswitchboard/model/AgentState;Z)Lcom/example/unfussy_switchboard/unfussyswitchboard/model/AgentState;" = some ⟨[(.object "com/example/unfussy_switchboard/unfussyswitchboard/model/AgentState"), (.object "com/example/unfussy_switchboard/unfussyswitchboard/model/AgentState"), .boolean], some (.object "com/example/unfussy_switchboard/unfussyswitchboard/model/AgentState")⟩) rfl) rfl (by show 2 * 0 + _ ≤ _; exact Nat.le_of_eq rfl) rfl (hb hby at_199))
      refine Go.of st33 ?_
      show Go p e below _ T33 (mkF m 202 #[.val (.int x0), .val (.int x1), .val (.int x2), .val (.ref b1), .val (.ref b18), .val (.int i), .val (.ref (w i.toNatClampNeg)), .val (awv w (w i.toNatClampNeg)), .val (.int (1 : Int32)), .val (.ref (w jb.toNatClampNeg)), .val (.ref (w jc.toNatClampNeg)), .unset, .unset, .unset, .unset] [(.ref (wrA w (w jc.toNatClampNeg)))])
      refine Go.of (fun _ k => XS.astore X33.here hx rfl (hb hby at_202) rfl rfl (l' := #[.val (.int x0), .val (.int x1), .val (.int x2), .val (.ref b1), .val (.ref b18), .val (.int i), .val (.ref (w i.toNatClampNeg)), .val (awv w (w i.toNatClampNeg)), .val (.int (1 : Int32)), .val (.ref (w jb.toNatClampNeg)), .val (.ref (w jc.toNatClampNeg)), .val (.ref (wrA w (w jc.toNatClampNeg))), .unset, .unset, .unset]) rfl k) ?_
      show Go p e below _ T33 (mkF m 204 #[.val (.int x0), .val (.int x1), .val (.int x2), .val (.ref b1), .val (.ref b18), .val (.int i), .val (.ref (w i.toNatClampNeg)), .val (awv w (w i.toNatClampNeg)), .val (.int (1 : Int32)), .val (.ref (w jb.toNatClampNeg)), .val (.ref (w jc.toNatClampNeg)), .val (.ref (wrA w (w jc.toNatClampNeg))), .unset, .unset, .unset] [])
      refine Go.of (fun _ k => XS.aload X33.here hx rfl (hb hby at_204) rfl rfl k) ?_
      show Go p e below _ T33 (mkF m 206 #[.val (.int x0), .val (.int x1), .val (.int x2), .val (.ref b1), .val (.ref b18), .val (.int i), .val (.ref (w i.toNatClampNeg)), .val (awv w (w i.toNatClampNeg)), .val (.int (1 : Int32)), .val (.ref (w jb.toNatClampNeg)), .val (.ref (w jc.toNatClampNeg)), .val (.ref (wrA w (w jc.toNatClampNeg))), .unset, .unset, .unset] [(.ref (w jc.toNatClampNeg))])
      refine Go.of (fun _ k => XS.ifnullNo X33.here hx rfl (hb hby at_206) rfl k) ?_
      show Go p e below _ T33 (mkF m 209 #[.val (.int x0), .val (.int x1), .val (.int x2), .val (.ref b1), .val (.ref b18), .val (.int i), .val (.ref (w i.toNatClampNeg)), .val (awv w (w i.toNatClampNeg)), .val (.int (1 : Int32)), .val (.ref (w jb.toNatClampNeg)), .val (.ref (w jc.toNatClampNeg)), .val (.ref (wrA w (w jc.toNatClampNeg))), .unset, .unset, .unset] [])
      refine Go.of (fun _ k => XS.aload X33.here hx rfl (hb hby at_209) rfl rfl k) ?_
      show Go p e below _ T33 (mkF m 211 #[.val (.int x0), .val (.int x1), .val (.int x2), .val (.ref b1), .val (.ref b18), .val (.int i), .val (.ref (w i.toNatClampNeg)), .val (awv w (w i.toNatClampNeg)), .val (.int (1 : Int32)), .val (.ref (w jb.toNatClampNeg)), .val (.ref (w jc.toNatClampNeg)), .val (.ref (wrA w (w jc.toNatClampNeg))), .unset, .unset, .unset] [(.ref (w jc.toNatClampNeg))])
      refine Go.of (fun _ k => XS.goto X33.here hx rfl (pc0 := 211) (pc' := 216) rfl (hb hby at_211) (by decide) (by decide) k) ?_
      show Go p e below _ T33 (mkF m 216 #[.val (.int x0), .val (.int x1), .val (.int x2), .val (.ref b1), .val (.ref b18), .val (.int i), .val (.ref (w i.toNatClampNeg)), .val (awv w (w i.toNatClampNeg)), .val (.int (1 : Int32)), .val (.ref (w jb.toNatClampNeg)), .val (.ref (w jc.toNatClampNeg)), .val (.ref (wrA w (w jc.toNatClampNeg))), .unset, .unset, .unset] [(.ref (w jc.toNatClampNeg))])
      refine Go.of (fun _ k => XS.astore X33.here hx rfl (hb hby at_216) rfl rfl (l' := #[.val (.int x0), .val (.int x1), .val (.int x2), .val (.ref b1), .val (.ref b18), .val (.int i), .val (.ref (w i.toNatClampNeg)), .val (awv w (w i.toNatClampNeg)), .val (.int (1 : Int32)), .val (.ref (w jb.toNatClampNeg)), .val (.ref (w jc.toNatClampNeg)), .val (.ref (wrA w (w jc.toNatClampNeg))), .val (.ref (w jc.toNatClampNeg)), .unset, .unset]) rfl k) ?_
      show Go p e below _ T33 (mkF m 218 #[.val (.int x0), .val (.int x1), .val (.int x2), .val (.ref b1), .val (.ref b18), .val (.int i), .val (.ref (w i.toNatClampNeg)), .val (awv w (w i.toNatClampNeg)), .val (.int (1 : Int32)), .val (.ref (w jb.toNatClampNeg)), .val (.ref (w jc.toNatClampNeg)), .val (.ref (wrA w (w jc.toNatClampNeg))), .val (.ref (w jc.toNatClampNeg)), .unset, .unset] [])
      refine Go.of (fun _ k => XS.aload X33.here hx rfl (hb hby at_218) rfl rfl k) ?_
      show Go p e below _ T33 (mkF m 220 #[.val (.int x0), .val (.int x1), .val (.int x2), .val (.ref b1), .val (.ref b18), .val (.int i), .val (.ref (w i.toNatClampNeg)), .val (awv w (w i.toNatClampNeg)), .val (.int (1 : Int32)), .val (.ref (w jb.toNatClampNeg)), .val (.ref (w jc.toNatClampNeg)), .val (.ref (wrA w (w jc.toNatClampNeg))), .val (.ref (w jc.toNatClampNeg)), .unset, .unset] [(.ref (w jc.toNatClampNeg))])
      obtain ⟨T34, X34, e34, st34⟩ := getS2 X33 hx hZ hown (host := "") (Or.inl (hw _ (List.mem_of_getElem? (i := 8) rfl))) Via.refl e33 (S2.ext x28_h0) (g := (mkF m 220 #[.val (.int x0), .val (.int x1), .val (.int x2), .val (.ref b1), .val (.ref b18), .val (.int i), .val (.ref (w i.toNatClampNeg)), .val (awv w (w i.toNatClampNeg)), .val (.int (1 : Int32)), .val (.ref (w jb.toNatClampNeg)), .val (.ref (w jc.toNatClampNeg)), .val (.ref (wrA w (w jc.toNatClampNeg))), .val (.ref (w jc.toNatClampNeg)), .unset, .unset] [(.ref (w jc.toNatClampNeg))])) rfl (hb hby at_220)
      refine Go.of st34 ?_
      show Go p e below _ T34 (mkF m 223 #[.val (.int x0), .val (.int x1), .val (.int x2), .val (.ref b1), .val (.ref b18), .val (.int i), .val (.ref (w i.toNatClampNeg)), .val (awv w (w i.toNatClampNeg)), .val (.int (1 : Int32)), .val (.ref (w jb.toNatClampNeg)), .val (.ref (w jc.toNatClampNeg)), .val (.ref (wrA w (w jc.toNatClampNeg))), .val (.ref (w jc.toNatClampNeg)), .unset, .unset] [(.ref (w 2)), (.ref (w jc.toNatClampNeg))])
      by_cases hc223_35 : (w jc.toNatClampNeg) = (w 2)
      ·
        refine Go.of (fun _ k => XT.acmpYes X34.here hx rfl (pc0 := 223) (pc' := 234) rfl (hb hby at_223) rfl rfl rfl (XT.aa_eq_t (congrArg Value.ref hc223_35)) (by decide) (by decide) k) ?_
        show Go p e below _ T34 (mkF m 234 #[.val (.int x0), .val (.int x1), .val (.int x2), .val (.ref b1), .val (.ref b18), .val (.int i), .val (.ref (w i.toNatClampNeg)), .val (awv w (w i.toNatClampNeg)), .val (.int (1 : Int32)), .val (.ref (w jb.toNatClampNeg)), .val (.ref (w jc.toNatClampNeg)), .val (.ref (wrA w (w jc.toNatClampNeg))), .val (.ref (w jc.toNatClampNeg)), .unset, .unset] [])
        refine Go.of (fun _ k => XS.iconst X34.here hx rfl (hb hby at_234) k) ?_
        show Go p e below _ T34 (mkF m 235 #[.val (.int x0), .val (.int x1), .val (.int x2), .val (.ref b1), .val (.ref b18), .val (.int i), .val (.ref (w i.toNatClampNeg)), .val (awv w (w i.toNatClampNeg)), .val (.int (1 : Int32)), .val (.ref (w jb.toNatClampNeg)), .val (.ref (w jc.toNatClampNeg)), .val (.ref (wrA w (w jc.toNatClampNeg))), .val (.ref (w jc.toNatClampNeg)), .unset, .unset] [(.int (1 : Int32))])
        refine Go.of (fun _ k => XS.goto X34.here hx rfl (pc0 := 235) (pc' := 239) rfl (hb hby at_235) (by decide) (by decide) k) ?_
        show Go p e below _ T34 (mkF m 239 #[.val (.int x0), .val (.int x1), .val (.int x2), .val (.ref b1), .val (.ref b18), .val (.int i), .val (.ref (w i.toNatClampNeg)), .val (awv w (w i.toNatClampNeg)), .val (.int (1 : Int32)), .val (.ref (w jb.toNatClampNeg)), .val (.ref (w jc.toNatClampNeg)), .val (.ref (wrA w (w jc.toNatClampNeg))), .val (.ref (w jc.toNatClampNeg)), .unset, .unset] [(.int (1 : Int32))])
        refine Go.of (fun _ k => XS.istore X34.here hx rfl (hb hby at_239) rfl (l' := #[.val (.int x0), .val (.int x1), .val (.int x2), .val (.ref b1), .val (.ref b18), .val (.int i), .val (.ref (w i.toNatClampNeg)), .val (awv w (w i.toNatClampNeg)), .val (.int (1 : Int32)), .val (.ref (w jb.toNatClampNeg)), .val (.ref (w jc.toNatClampNeg)), .val (.ref (wrA w (w jc.toNatClampNeg))), .val (.ref (w jc.toNatClampNeg)), .val (.int (1 : Int32)), .unset]) rfl k) ?_
        show Go p e below _ T34 (mkF m 241 #[.val (.int x0), .val (.int x1), .val (.int x2), .val (.ref b1), .val (.ref b18), .val (.int i), .val (.ref (w i.toNatClampNeg)), .val (awv w (w i.toNatClampNeg)), .val (.int (1 : Int32)), .val (.ref (w jb.toNatClampNeg)), .val (.ref (w jc.toNatClampNeg)), .val (.ref (wrA w (w jc.toNatClampNeg))), .val (.ref (w jc.toNatClampNeg)), .val (.int (1 : Int32)), .unset] [])
        refine Go.of (fun _ k => XS.iload X34.here hx rfl (hb hby at_241) rfl k) ?_
        show Go p e below _ T34 (mkF m 243 #[.val (.int x0), .val (.int x1), .val (.int x2), .val (.ref b1), .val (.ref b18), .val (.int i), .val (.ref (w i.toNatClampNeg)), .val (awv w (w i.toNatClampNeg)), .val (.int (1 : Int32)), .val (.ref (w jb.toNatClampNeg)), .val (.ref (w jc.toNatClampNeg)), .val (.ref (wrA w (w jc.toNatClampNeg))), .val (.ref (w jc.toNatClampNeg)), .val (.int (1 : Int32)), .unset] [(.int (1 : Int32))])
        refine Go.of (fun _ k => XS.ifNo X34.here hx rfl (hb hby at_243) rfl (XT.i0_eq_f (by decide)) k) ?_
        show Go p e below _ T34 (mkF m 246 #[.val (.int x0), .val (.int x1), .val (.int x2), .val (.ref b1), .val (.ref b18), .val (.int i), .val (.ref (w i.toNatClampNeg)), .val (awv w (w i.toNatClampNeg)), .val (.int (1 : Int32)), .val (.ref (w jb.toNatClampNeg)), .val (.ref (w jc.toNatClampNeg)), .val (.ref (wrA w (w jc.toNatClampNeg))), .val (.ref (w jc.toNatClampNeg)), .val (.int (1 : Int32)), .unset] [])
        obtain ⟨T36, X36, e36, st36⟩ := getS2 X34 hx hZ hown (host := "") (Or.inl (hw _ (List.mem_of_getElem? (i := 8) rfl))) Via.refl e34 (S2.ext x28_h0) (g := (mkF m 246 #[.val (.int x0), .val (.int x1), .val (.int x2), .val (.ref b1), .val (.ref b18), .val (.int i), .val (.ref (w i.toNatClampNeg)), .val (awv w (w i.toNatClampNeg)), .val (.int (1 : Int32)), .val (.ref (w jb.toNatClampNeg)), .val (.ref (w jc.toNatClampNeg)), .val (.ref (wrA w (w jc.toNatClampNeg))), .val (.ref (w jc.toNatClampNeg)), .val (.int (1 : Int32)), .unset] [])) rfl (hb hby at_246)
        refine Go.of st36 ?_
        show Go p e below _ T36 (mkF m 249 #[.val (.int x0), .val (.int x1), .val (.int x2), .val (.ref b1), .val (.ref b18), .val (.int i), .val (.ref (w i.toNatClampNeg)), .val (awv w (w i.toNatClampNeg)), .val (.int (1 : Int32)), .val (.ref (w jb.toNatClampNeg)), .val (.ref (w jc.toNatClampNeg)), .val (.ref (wrA w (w jc.toNatClampNeg))), .val (.ref (w jc.toNatClampNeg)), .val (.int (1 : Int32)), .unset] [(.ref (w 2))])
        refine Go.of (fun _ k => XS.goto X36.here hx rfl (pc0 := 249) (pc' := 255) rfl (hb hby at_249) (by decide) (by decide) k) ?_
        show Go p e below _ T36 (mkF m 255 #[.val (.int x0), .val (.int x1), .val (.int x2), .val (.ref b1), .val (.ref b18), .val (.int i), .val (.ref (w i.toNatClampNeg)), .val (awv w (w i.toNatClampNeg)), .val (.int (1 : Int32)), .val (.ref (w jb.toNatClampNeg)), .val (.ref (w jc.toNatClampNeg)), .val (.ref (wrA w (w jc.toNatClampNeg))), .val (.ref (w jc.toNatClampNeg)), .val (.int (1 : Int32)), .unset] [(.ref (w 2))])
        refine Go.of (fun _ k => XS.astore X36.here hx rfl (hb hby at_255) rfl rfl (l' := #[.val (.int x0), .val (.int x1), .val (.int x2), .val (.ref b1), .val (.ref b18), .val (.int i), .val (.ref (w i.toNatClampNeg)), .val (awv w (w i.toNatClampNeg)), .val (.int (1 : Int32)), .val (.ref (w jb.toNatClampNeg)), .val (.ref (w jc.toNatClampNeg)), .val (.ref (wrA w (w jc.toNatClampNeg))), .val (.ref (w jc.toNatClampNeg)), .val (.int (1 : Int32)), .val (.ref (w 2))]) rfl k) ?_
        show Go p e below _ T36 (mkF m 257 #[.val (.int x0), .val (.int x1), .val (.int x2), .val (.ref b1), .val (.ref b18), .val (.int i), .val (.ref (w i.toNatClampNeg)), .val (awv w (w i.toNatClampNeg)), .val (.int (1 : Int32)), .val (.ref (w jb.toNatClampNeg)), .val (.ref (w jc.toNatClampNeg)), .val (.ref (wrA w (w jc.toNatClampNeg))), .val (.ref (w jc.toNatClampNeg)), .val (.int (1 : Int32)), .val (.ref (w 2))] [])
        refine Go.of (fun _ k => XS.iload X36.here hx rfl (hb hby at_257) rfl k) ?_
        show Go p e below _ T36 (mkF m 259 #[.val (.int x0), .val (.int x1), .val (.int x2), .val (.ref b1), .val (.ref b18), .val (.int i), .val (.ref (w i.toNatClampNeg)), .val (awv w (w i.toNatClampNeg)), .val (.int (1 : Int32)), .val (.ref (w jb.toNatClampNeg)), .val (.ref (w jc.toNatClampNeg)), .val (.ref (wrA w (w jc.toNatClampNeg))), .val (.ref (w jc.toNatClampNeg)), .val (.int (1 : Int32)), .val (.ref (w 2))] [(.int (1 : Int32))])
        refine Go.of (fun _ k => XS.ifNo X36.here hx rfl (hb hby at_259) rfl (XT.i0_eq_f (by decide)) k) ?_
        show Go p e below _ T36 (mkF m 262 #[.val (.int x0), .val (.int x1), .val (.int x2), .val (.ref b1), .val (.ref b18), .val (.int i), .val (.ref (w i.toNatClampNeg)), .val (awv w (w i.toNatClampNeg)), .val (.int (1 : Int32)), .val (.ref (w jb.toNatClampNeg)), .val (.ref (w jc.toNatClampNeg)), .val (.ref (wrA w (w jc.toNatClampNeg))), .val (.ref (w jc.toNatClampNeg)), .val (.int (1 : Int32)), .val (.ref (w 2))] [])
        refine Go.of (fun _ k => XS.aload X36.here hx rfl (hb hby at_262) rfl rfl k) ?_
        show Go p e below _ T36 (mkF m 264 #[.val (.int x0), .val (.int x1), .val (.int x2), .val (.ref b1), .val (.ref b18), .val (.int i), .val (.ref (w i.toNatClampNeg)), .val (awv w (w i.toNatClampNeg)), .val (.int (1 : Int32)), .val (.ref (w jb.toNatClampNeg)), .val (.ref (w jc.toNatClampNeg)), .val (.ref (wrA w (w jc.toNatClampNeg))), .val (.ref (w jc.toNatClampNeg)), .val (.int (1 : Int32)), .val (.ref (w 2))] [(.ref (wrA w (w jc.toNatClampNeg)))])
        refine Go.of (fun _ k => XS.ifnullNo X36.here hx rfl (hb hby at_264) rfl k) ?_
        show Go p e below _ T36 (mkF m 267 #[.val (.int x0), .val (.int x1), .val (.int x2), .val (.ref b1), .val (.ref b18), .val (.int i), .val (.ref (w i.toNatClampNeg)), .val (awv w (w i.toNatClampNeg)), .val (.int (1 : Int32)), .val (.ref (w jb.toNatClampNeg)), .val (.ref (w jc.toNatClampNeg)), .val (.ref (wrA w (w jc.toNatClampNeg))), .val (.ref (w jc.toNatClampNeg)), .val (.int (1 : Int32)), .val (.ref (w 2))] [])
        refine Go.of (fun _ k => XS.aload X36.here hx rfl (hb hby at_267) rfl rfl k) ?_
        show Go p e below _ T36 (mkF m 269 #[.val (.int x0), .val (.int x1), .val (.int x2), .val (.ref b1), .val (.ref b18), .val (.int i), .val (.ref (w i.toNatClampNeg)), .val (awv w (w i.toNatClampNeg)), .val (.int (1 : Int32)), .val (.ref (w jb.toNatClampNeg)), .val (.ref (w jc.toNatClampNeg)), .val (.ref (wrA w (w jc.toNatClampNeg))), .val (.ref (w jc.toNatClampNeg)), .val (.int (1 : Int32)), .val (.ref (w 2))] [(.ref (wrA w (w jc.toNatClampNeg)))])
        obtain ⟨T37, X37, e37, st37⟩ := own_pure rfl rfl (own_callVQ X36 hx hZ (y := (⟨"com/example/unfussy_switchboard/unfussyswitchboard/model/AgentState", "afterWrapUp", "()Lcom/example/unfussy_switchboard/unfussyswitchboard/model/AgentState;"⟩ : MethodName)) hown (hw _ (List.mem_of_getElem? (i := 20) rfl)) (hw _ (List.mem_of_getElem? (i := 21) rfl)) (hw _ (List.mem_of_getElem? (i := 23) rfl)) (hw _ (List.mem_of_getElem? (i := 23) rfl)) (hw _ (List.mem_of_getElem? (i := 22) rfl)) (hw _ (List.mem_of_getElem? (i := 24) rfl)) (hw _ (List.mem_of_getElem? (i := 3) rfl)) (by decide) (c1 l Z a0 hw w h28 (D.ext x28_h0) (wrA w (w jc.toNatClampNeg)) (.ref (w 2)) ((congrArg (awv w) (if_pos hc223_35)).trans (awv7 hI))) (by decide) 0 (by decide) (by decide) (by decide) e36 (wrA_exa (fun i hi => (Ex i hi).ext x28_h0) _) (g := (mkF m 269 #[.val (.int x0), .val (.int x1), .val (.int x2), .val (.ref b1), .val (.ref b18), .val (.int i), .val (.ref (w i.toNatClampNeg)), .val (awv w (w i.toNatClampNeg)), .val (.int (1 : Int32)), .val (.ref (w jb.toNatClampNeg)), .val (.ref (w jc.toNatClampNeg)), .val (.ref (wrA w (w jc.toNatClampNeg))), .val (.ref (w jc.toNatClampNeg)), .val (.int (1 : Int32)), .val (.ref (w 2))] [(.ref (wrA w (w jc.toNatClampNeg)))])) rfl (by rw [hml]; rfl) [] [] (lenOf (by decide +kernel : parseMethodDescriptor "()Lcom/example/unfussy_switchboard/unfussyswitchboard/model/AgentState;" = some ⟨[], some (.object "com/example/unfussy_switchboard/unfussyswitchboard/model/AgentState")⟩) rfl) rfl (by show 2 * 0 + _ ≤ _; exact Nat.le_of_eq rfl) rfl (hb hby at_269))
        refine Go.of st37 ?_
        show Go p e below _ T37 (mkF m 272 #[.val (.int x0), .val (.int x1), .val (.int x2), .val (.ref b1), .val (.ref b18), .val (.int i), .val (.ref (w i.toNatClampNeg)), .val (awv w (w i.toNatClampNeg)), .val (.int (1 : Int32)), .val (.ref (w jb.toNatClampNeg)), .val (.ref (w jc.toNatClampNeg)), .val (.ref (wrA w (w jc.toNatClampNeg))), .val (.ref (w jc.toNatClampNeg)), .val (.int (1 : Int32)), .val (.ref (w 2))] [(.ref (w 2))])
        refine Go.of (fun _ k => XS.aload X37.here hx rfl (hb hby at_272) rfl rfl k) ?_
        show Go p e below _ T37 (mkF m 274 #[.val (.int x0), .val (.int x1), .val (.int x2), .val (.ref b1), .val (.ref b18), .val (.int i), .val (.ref (w i.toNatClampNeg)), .val (awv w (w i.toNatClampNeg)), .val (.int (1 : Int32)), .val (.ref (w jb.toNatClampNeg)), .val (.ref (w jc.toNatClampNeg)), .val (.ref (wrA w (w jc.toNatClampNeg))), .val (.ref (w jc.toNatClampNeg)), .val (.int (1 : Int32)), .val (.ref (w 2))] [(.ref (w 2)), (.ref (w 2))])
        refine Go.of (fun _ k => XT.acmpNo X37.here hx rfl (hb hby at_274) rfl rfl rfl (XT.aa_ne_f rfl) k) ?_
        show Go p e below _ T37 (mkF m 277 #[.val (.int x0), .val (.int x1), .val (.int x2), .val (.ref b1), .val (.ref b18), .val (.int i), .val (.ref (w i.toNatClampNeg)), .val (awv w (w i.toNatClampNeg)), .val (.int (1 : Int32)), .val (.ref (w jb.toNatClampNeg)), .val (.ref (w jc.toNatClampNeg)), .val (.ref (wrA w (w jc.toNatClampNeg))), .val (.ref (w jc.toNatClampNeg)), .val (.int (1 : Int32)), .val (.ref (w 2))] [])
        refine Go.of (fun _ k => XS.iconst X37.here hx rfl (hb hby at_277) k) ?_
        show Go p e below _ T37 (mkF m 278 #[.val (.int x0), .val (.int x1), .val (.int x2), .val (.ref b1), .val (.ref b18), .val (.int i), .val (.ref (w i.toNatClampNeg)), .val (awv w (w i.toNatClampNeg)), .val (.int (1 : Int32)), .val (.ref (w jb.toNatClampNeg)), .val (.ref (w jc.toNatClampNeg)), .val (.ref (wrA w (w jc.toNatClampNeg))), .val (.ref (w jc.toNatClampNeg)), .val (.int (1 : Int32)), .val (.ref (w 2))] [(.int (1 : Int32))])
        refine Go.of (fun _ k => XS.goto X37.here hx rfl (pc0 := 278) (pc' := 282) rfl (hb hby at_278) (by decide) (by decide) k) ?_
        show Go p e below _ T37 (mkF m 282 #[.val (.int x0), .val (.int x1), .val (.int x2), .val (.ref b1), .val (.ref b18), .val (.int i), .val (.ref (w i.toNatClampNeg)), .val (awv w (w i.toNatClampNeg)), .val (.int (1 : Int32)), .val (.ref (w jb.toNatClampNeg)), .val (.ref (w jc.toNatClampNeg)), .val (.ref (wrA w (w jc.toNatClampNeg))), .val (.ref (w jc.toNatClampNeg)), .val (.int (1 : Int32)), .val (.ref (w 2))] [(.int (1 : Int32))])
        refine Go.of (fun _ k => XS.istore X37.here hx rfl (hb hby at_282) rfl (l' := #[.val (.int x0), .val (.int x1), .val (.int x2), .val (.ref b1), .val (.ref b18), .val (.int i), .val (.ref (w i.toNatClampNeg)), .val (awv w (w i.toNatClampNeg)), .val (.int (1 : Int32)), .val (.ref (w jb.toNatClampNeg)), .val (.ref (w jc.toNatClampNeg)), .val (.ref (wrA w (w jc.toNatClampNeg))), .val (.ref (w jc.toNatClampNeg)), .val (.int (1 : Int32)), .val (.ref (w 2))]) rfl k) ?_
        show Go p e below _ T37 (mkF m 284 #[.val (.int x0), .val (.int x1), .val (.int x2), .val (.ref b1), .val (.ref b18), .val (.int i), .val (.ref (w i.toNatClampNeg)), .val (awv w (w i.toNatClampNeg)), .val (.int (1 : Int32)), .val (.ref (w jb.toNatClampNeg)), .val (.ref (w jc.toNatClampNeg)), .val (.ref (wrA w (w jc.toNatClampNeg))), .val (.ref (w jc.toNatClampNeg)), .val (.int (1 : Int32)), .val (.ref (w 2))] [])
        refine Go.of (fun _ k => XS.iload X37.here hx rfl (hb hby at_284) rfl k) ?_
        show Go p e below _ T37 (mkF m 286 #[.val (.int x0), .val (.int x1), .val (.int x2), .val (.ref b1), .val (.ref b18), .val (.int i), .val (.ref (w i.toNatClampNeg)), .val (awv w (w i.toNatClampNeg)), .val (.int (1 : Int32)), .val (.ref (w jb.toNatClampNeg)), .val (.ref (w jc.toNatClampNeg)), .val (.ref (wrA w (w jc.toNatClampNeg))), .val (.ref (w jc.toNatClampNeg)), .val (.int (1 : Int32)), .val (.ref (w 2))] [(.int (1 : Int32))])
        exact own_retZ (z' := (1 : Int32)) X37 hx hlk hret (hb hby at_286) rfl ⟨rfl, N28⟩ (by decide) (by decide)
      ·
        refine Go.of (fun _ k => XT.acmpNo X34.here hx rfl (hb hby at_223) rfl rfl rfl (XT.aa_eq_f (fun q => hc223_35 (Value.ref.inj q))) k) ?_
        show Go p e below _ T34 (mkF m 226 #[.val (.int x0), .val (.int x1), .val (.int x2), .val (.ref b1), .val (.ref b18), .val (.int i), .val (.ref (w i.toNatClampNeg)), .val (awv w (w i.toNatClampNeg)), .val (.int (1 : Int32)), .val (.ref (w jb.toNatClampNeg)), .val (.ref (w jc.toNatClampNeg)), .val (.ref (wrA w (w jc.toNatClampNeg))), .val (.ref (w jc.toNatClampNeg)), .unset, .unset] [])
        refine Go.of (fun _ k => XS.aload X34.here hx rfl (hb hby at_226) rfl rfl k) ?_
        show Go p e below _ T34 (mkF m 228 #[.val (.int x0), .val (.int x1), .val (.int x2), .val (.ref b1), .val (.ref b18), .val (.int i), .val (.ref (w i.toNatClampNeg)), .val (awv w (w i.toNatClampNeg)), .val (.int (1 : Int32)), .val (.ref (w jb.toNatClampNeg)), .val (.ref (w jc.toNatClampNeg)), .val (.ref (wrA w (w jc.toNatClampNeg))), .val (.ref (w jc.toNatClampNeg)), .unset, .unset] [(.ref (w jc.toNatClampNeg))])
        obtain ⟨T38, X38, e38, st38⟩ := getS2 X34 hx hZ hown (host := "") (Or.inl (hw _ (List.mem_of_getElem? (i := 18) rfl))) Via.refl e34 (S7.ext x28_h0) (g := (mkF m 228 #[.val (.int x0), .val (.int x1), .val (.int x2), .val (.ref b1), .val (.ref b18), .val (.int i), .val (.ref (w i.toNatClampNeg)), .val (awv w (w i.toNatClampNeg)), .val (.int (1 : Int32)), .val (.ref (w jb.toNatClampNeg)), .val (.ref (w jc.toNatClampNeg)), .val (.ref (wrA w (w jc.toNatClampNeg))), .val (.ref (w jc.toNatClampNeg)), .unset, .unset] [(.ref (w jc.toNatClampNeg))])) rfl (hb hby at_228)
        refine Go.of st38 ?_
        show Go p e below _ T38 (mkF m 231 #[.val (.int x0), .val (.int x1), .val (.int x2), .val (.ref b1), .val (.ref b18), .val (.int i), .val (.ref (w i.toNatClampNeg)), .val (awv w (w i.toNatClampNeg)), .val (.int (1 : Int32)), .val (.ref (w jb.toNatClampNeg)), .val (.ref (w jc.toNatClampNeg)), .val (.ref (wrA w (w jc.toNatClampNeg))), .val (.ref (w jc.toNatClampNeg)), .unset, .unset] [(.ref (w 7)), (.ref (w jc.toNatClampNeg))])
        by_cases hc231_39 : (w jc.toNatClampNeg) = (w 7)
        ·
          refine Go.of (fun _ k => XT.acmpNo X38.here hx rfl (hb hby at_231) rfl rfl rfl (XT.aa_ne_f (congrArg Value.ref hc231_39)) k) ?_
          show Go p e below _ T38 (mkF m 234 #[.val (.int x0), .val (.int x1), .val (.int x2), .val (.ref b1), .val (.ref b18), .val (.int i), .val (.ref (w i.toNatClampNeg)), .val (awv w (w i.toNatClampNeg)), .val (.int (1 : Int32)), .val (.ref (w jb.toNatClampNeg)), .val (.ref (w jc.toNatClampNeg)), .val (.ref (wrA w (w jc.toNatClampNeg))), .val (.ref (w jc.toNatClampNeg)), .unset, .unset] [])
          refine Go.of (fun _ k => XS.iconst X38.here hx rfl (hb hby at_234) k) ?_
          show Go p e below _ T38 (mkF m 235 #[.val (.int x0), .val (.int x1), .val (.int x2), .val (.ref b1), .val (.ref b18), .val (.int i), .val (.ref (w i.toNatClampNeg)), .val (awv w (w i.toNatClampNeg)), .val (.int (1 : Int32)), .val (.ref (w jb.toNatClampNeg)), .val (.ref (w jc.toNatClampNeg)), .val (.ref (wrA w (w jc.toNatClampNeg))), .val (.ref (w jc.toNatClampNeg)), .unset, .unset] [(.int (1 : Int32))])
          refine Go.of (fun _ k => XS.goto X38.here hx rfl (pc0 := 235) (pc' := 239) rfl (hb hby at_235) (by decide) (by decide) k) ?_
          show Go p e below _ T38 (mkF m 239 #[.val (.int x0), .val (.int x1), .val (.int x2), .val (.ref b1), .val (.ref b18), .val (.int i), .val (.ref (w i.toNatClampNeg)), .val (awv w (w i.toNatClampNeg)), .val (.int (1 : Int32)), .val (.ref (w jb.toNatClampNeg)), .val (.ref (w jc.toNatClampNeg)), .val (.ref (wrA w (w jc.toNatClampNeg))), .val (.ref (w jc.toNatClampNeg)), .unset, .unset] [(.int (1 : Int32))])
          refine Go.of (fun _ k => XS.istore X38.here hx rfl (hb hby at_239) rfl (l' := #[.val (.int x0), .val (.int x1), .val (.int x2), .val (.ref b1), .val (.ref b18), .val (.int i), .val (.ref (w i.toNatClampNeg)), .val (awv w (w i.toNatClampNeg)), .val (.int (1 : Int32)), .val (.ref (w jb.toNatClampNeg)), .val (.ref (w jc.toNatClampNeg)), .val (.ref (wrA w (w jc.toNatClampNeg))), .val (.ref (w jc.toNatClampNeg)), .val (.int (1 : Int32)), .unset]) rfl k) ?_
          show Go p e below _ T38 (mkF m 241 #[.val (.int x0), .val (.int x1), .val (.int x2), .val (.ref b1), .val (.ref b18), .val (.int i), .val (.ref (w i.toNatClampNeg)), .val (awv w (w i.toNatClampNeg)), .val (.int (1 : Int32)), .val (.ref (w jb.toNatClampNeg)), .val (.ref (w jc.toNatClampNeg)), .val (.ref (wrA w (w jc.toNatClampNeg))), .val (.ref (w jc.toNatClampNeg)), .val (.int (1 : Int32)), .unset] [])
          refine Go.of (fun _ k => XS.iload X38.here hx rfl (hb hby at_241) rfl k) ?_
          show Go p e below _ T38 (mkF m 243 #[.val (.int x0), .val (.int x1), .val (.int x2), .val (.ref b1), .val (.ref b18), .val (.int i), .val (.ref (w i.toNatClampNeg)), .val (awv w (w i.toNatClampNeg)), .val (.int (1 : Int32)), .val (.ref (w jb.toNatClampNeg)), .val (.ref (w jc.toNatClampNeg)), .val (.ref (wrA w (w jc.toNatClampNeg))), .val (.ref (w jc.toNatClampNeg)), .val (.int (1 : Int32)), .unset] [(.int (1 : Int32))])
          refine Go.of (fun _ k => XS.ifNo X38.here hx rfl (hb hby at_243) rfl (XT.i0_eq_f (by decide)) k) ?_
          show Go p e below _ T38 (mkF m 246 #[.val (.int x0), .val (.int x1), .val (.int x2), .val (.ref b1), .val (.ref b18), .val (.int i), .val (.ref (w i.toNatClampNeg)), .val (awv w (w i.toNatClampNeg)), .val (.int (1 : Int32)), .val (.ref (w jb.toNatClampNeg)), .val (.ref (w jc.toNatClampNeg)), .val (.ref (wrA w (w jc.toNatClampNeg))), .val (.ref (w jc.toNatClampNeg)), .val (.int (1 : Int32)), .unset] [])
          obtain ⟨T40, X40, e40, st40⟩ := getS2 X38 hx hZ hown (host := "") (Or.inl (hw _ (List.mem_of_getElem? (i := 8) rfl))) Via.refl e38 (S2.ext x28_h0) (g := (mkF m 246 #[.val (.int x0), .val (.int x1), .val (.int x2), .val (.ref b1), .val (.ref b18), .val (.int i), .val (.ref (w i.toNatClampNeg)), .val (awv w (w i.toNatClampNeg)), .val (.int (1 : Int32)), .val (.ref (w jb.toNatClampNeg)), .val (.ref (w jc.toNatClampNeg)), .val (.ref (wrA w (w jc.toNatClampNeg))), .val (.ref (w jc.toNatClampNeg)), .val (.int (1 : Int32)), .unset] [])) rfl (hb hby at_246)
          refine Go.of st40 ?_
          show Go p e below _ T40 (mkF m 249 #[.val (.int x0), .val (.int x1), .val (.int x2), .val (.ref b1), .val (.ref b18), .val (.int i), .val (.ref (w i.toNatClampNeg)), .val (awv w (w i.toNatClampNeg)), .val (.int (1 : Int32)), .val (.ref (w jb.toNatClampNeg)), .val (.ref (w jc.toNatClampNeg)), .val (.ref (wrA w (w jc.toNatClampNeg))), .val (.ref (w jc.toNatClampNeg)), .val (.int (1 : Int32)), .unset] [(.ref (w 2))])
          refine Go.of (fun _ k => XS.goto X40.here hx rfl (pc0 := 249) (pc' := 255) rfl (hb hby at_249) (by decide) (by decide) k) ?_
          show Go p e below _ T40 (mkF m 255 #[.val (.int x0), .val (.int x1), .val (.int x2), .val (.ref b1), .val (.ref b18), .val (.int i), .val (.ref (w i.toNatClampNeg)), .val (awv w (w i.toNatClampNeg)), .val (.int (1 : Int32)), .val (.ref (w jb.toNatClampNeg)), .val (.ref (w jc.toNatClampNeg)), .val (.ref (wrA w (w jc.toNatClampNeg))), .val (.ref (w jc.toNatClampNeg)), .val (.int (1 : Int32)), .unset] [(.ref (w 2))])
          refine Go.of (fun _ k => XS.astore X40.here hx rfl (hb hby at_255) rfl rfl (l' := #[.val (.int x0), .val (.int x1), .val (.int x2), .val (.ref b1), .val (.ref b18), .val (.int i), .val (.ref (w i.toNatClampNeg)), .val (awv w (w i.toNatClampNeg)), .val (.int (1 : Int32)), .val (.ref (w jb.toNatClampNeg)), .val (.ref (w jc.toNatClampNeg)), .val (.ref (wrA w (w jc.toNatClampNeg))), .val (.ref (w jc.toNatClampNeg)), .val (.int (1 : Int32)), .val (.ref (w 2))]) rfl k) ?_
          show Go p e below _ T40 (mkF m 257 #[.val (.int x0), .val (.int x1), .val (.int x2), .val (.ref b1), .val (.ref b18), .val (.int i), .val (.ref (w i.toNatClampNeg)), .val (awv w (w i.toNatClampNeg)), .val (.int (1 : Int32)), .val (.ref (w jb.toNatClampNeg)), .val (.ref (w jc.toNatClampNeg)), .val (.ref (wrA w (w jc.toNatClampNeg))), .val (.ref (w jc.toNatClampNeg)), .val (.int (1 : Int32)), .val (.ref (w 2))] [])
          refine Go.of (fun _ k => XS.iload X40.here hx rfl (hb hby at_257) rfl k) ?_
          show Go p e below _ T40 (mkF m 259 #[.val (.int x0), .val (.int x1), .val (.int x2), .val (.ref b1), .val (.ref b18), .val (.int i), .val (.ref (w i.toNatClampNeg)), .val (awv w (w i.toNatClampNeg)), .val (.int (1 : Int32)), .val (.ref (w jb.toNatClampNeg)), .val (.ref (w jc.toNatClampNeg)), .val (.ref (wrA w (w jc.toNatClampNeg))), .val (.ref (w jc.toNatClampNeg)), .val (.int (1 : Int32)), .val (.ref (w 2))] [(.int (1 : Int32))])
          refine Go.of (fun _ k => XS.ifNo X40.here hx rfl (hb hby at_259) rfl (XT.i0_eq_f (by decide)) k) ?_
          show Go p e below _ T40 (mkF m 262 #[.val (.int x0), .val (.int x1), .val (.int x2), .val (.ref b1), .val (.ref b18), .val (.int i), .val (.ref (w i.toNatClampNeg)), .val (awv w (w i.toNatClampNeg)), .val (.int (1 : Int32)), .val (.ref (w jb.toNatClampNeg)), .val (.ref (w jc.toNatClampNeg)), .val (.ref (wrA w (w jc.toNatClampNeg))), .val (.ref (w jc.toNatClampNeg)), .val (.int (1 : Int32)), .val (.ref (w 2))] [])
          refine Go.of (fun _ k => XS.aload X40.here hx rfl (hb hby at_262) rfl rfl k) ?_
          show Go p e below _ T40 (mkF m 264 #[.val (.int x0), .val (.int x1), .val (.int x2), .val (.ref b1), .val (.ref b18), .val (.int i), .val (.ref (w i.toNatClampNeg)), .val (awv w (w i.toNatClampNeg)), .val (.int (1 : Int32)), .val (.ref (w jb.toNatClampNeg)), .val (.ref (w jc.toNatClampNeg)), .val (.ref (wrA w (w jc.toNatClampNeg))), .val (.ref (w jc.toNatClampNeg)), .val (.int (1 : Int32)), .val (.ref (w 2))] [(.ref (wrA w (w jc.toNatClampNeg)))])
          refine Go.of (fun _ k => XS.ifnullNo X40.here hx rfl (hb hby at_264) rfl k) ?_
          show Go p e below _ T40 (mkF m 267 #[.val (.int x0), .val (.int x1), .val (.int x2), .val (.ref b1), .val (.ref b18), .val (.int i), .val (.ref (w i.toNatClampNeg)), .val (awv w (w i.toNatClampNeg)), .val (.int (1 : Int32)), .val (.ref (w jb.toNatClampNeg)), .val (.ref (w jc.toNatClampNeg)), .val (.ref (wrA w (w jc.toNatClampNeg))), .val (.ref (w jc.toNatClampNeg)), .val (.int (1 : Int32)), .val (.ref (w 2))] [])
          refine Go.of (fun _ k => XS.aload X40.here hx rfl (hb hby at_267) rfl rfl k) ?_
          show Go p e below _ T40 (mkF m 269 #[.val (.int x0), .val (.int x1), .val (.int x2), .val (.ref b1), .val (.ref b18), .val (.int i), .val (.ref (w i.toNatClampNeg)), .val (awv w (w i.toNatClampNeg)), .val (.int (1 : Int32)), .val (.ref (w jb.toNatClampNeg)), .val (.ref (w jc.toNatClampNeg)), .val (.ref (wrA w (w jc.toNatClampNeg))), .val (.ref (w jc.toNatClampNeg)), .val (.int (1 : Int32)), .val (.ref (w 2))] [(.ref (wrA w (w jc.toNatClampNeg)))])
          obtain ⟨T41, X41, e41, st41⟩ := own_pure rfl rfl (own_callVQ X40 hx hZ (y := (⟨"com/example/unfussy_switchboard/unfussyswitchboard/model/AgentState", "afterWrapUp", "()Lcom/example/unfussy_switchboard/unfussyswitchboard/model/AgentState;"⟩ : MethodName)) hown (hw _ (List.mem_of_getElem? (i := 20) rfl)) (hw _ (List.mem_of_getElem? (i := 21) rfl)) (hw _ (List.mem_of_getElem? (i := 23) rfl)) (hw _ (List.mem_of_getElem? (i := 23) rfl)) (hw _ (List.mem_of_getElem? (i := 22) rfl)) (hw _ (List.mem_of_getElem? (i := 24) rfl)) (hw _ (List.mem_of_getElem? (i := 3) rfl)) (by decide) (c1 l Z a0 hw w h28 (D.ext x28_h0) (wrA w (w jc.toNatClampNeg)) (.ref (w 2)) ((congrArg (awv w) ((if_neg hc223_35).trans (if_pos hc231_39))).trans (awv7 hI))) (by decide) 0 (by decide) (by decide) (by decide) e40 (wrA_exa (fun i hi => (Ex i hi).ext x28_h0) _) (g := (mkF m 269 #[.val (.int x0), .val (.int x1), .val (.int x2), .val (.ref b1), .val (.ref b18), .val (.int i), .val (.ref (w i.toNatClampNeg)), .val (awv w (w i.toNatClampNeg)), .val (.int (1 : Int32)), .val (.ref (w jb.toNatClampNeg)), .val (.ref (w jc.toNatClampNeg)), .val (.ref (wrA w (w jc.toNatClampNeg))), .val (.ref (w jc.toNatClampNeg)), .val (.int (1 : Int32)), .val (.ref (w 2))] [(.ref (wrA w (w jc.toNatClampNeg)))])) rfl (by rw [hml]; rfl) [] [] (lenOf (by decide +kernel : parseMethodDescriptor "()Lcom/example/unfussy_switchboard/unfussyswitchboard/model/AgentState;" = some ⟨[], some (.object "com/example/unfussy_switchboard/unfussyswitchboard/model/AgentState")⟩) rfl) rfl (by show 2 * 0 + _ ≤ _; exact Nat.le_of_eq rfl) rfl (hb hby at_269))
          refine Go.of st41 ?_
          show Go p e below _ T41 (mkF m 272 #[.val (.int x0), .val (.int x1), .val (.int x2), .val (.ref b1), .val (.ref b18), .val (.int i), .val (.ref (w i.toNatClampNeg)), .val (awv w (w i.toNatClampNeg)), .val (.int (1 : Int32)), .val (.ref (w jb.toNatClampNeg)), .val (.ref (w jc.toNatClampNeg)), .val (.ref (wrA w (w jc.toNatClampNeg))), .val (.ref (w jc.toNatClampNeg)), .val (.int (1 : Int32)), .val (.ref (w 2))] [(.ref (w 2))])
          refine Go.of (fun _ k => XS.aload X41.here hx rfl (hb hby at_272) rfl rfl k) ?_
          show Go p e below _ T41 (mkF m 274 #[.val (.int x0), .val (.int x1), .val (.int x2), .val (.ref b1), .val (.ref b18), .val (.int i), .val (.ref (w i.toNatClampNeg)), .val (awv w (w i.toNatClampNeg)), .val (.int (1 : Int32)), .val (.ref (w jb.toNatClampNeg)), .val (.ref (w jc.toNatClampNeg)), .val (.ref (wrA w (w jc.toNatClampNeg))), .val (.ref (w jc.toNatClampNeg)), .val (.int (1 : Int32)), .val (.ref (w 2))] [(.ref (w 2)), (.ref (w 2))])
          refine Go.of (fun _ k => XT.acmpNo X41.here hx rfl (hb hby at_274) rfl rfl rfl (XT.aa_ne_f rfl) k) ?_
          show Go p e below _ T41 (mkF m 277 #[.val (.int x0), .val (.int x1), .val (.int x2), .val (.ref b1), .val (.ref b18), .val (.int i), .val (.ref (w i.toNatClampNeg)), .val (awv w (w i.toNatClampNeg)), .val (.int (1 : Int32)), .val (.ref (w jb.toNatClampNeg)), .val (.ref (w jc.toNatClampNeg)), .val (.ref (wrA w (w jc.toNatClampNeg))), .val (.ref (w jc.toNatClampNeg)), .val (.int (1 : Int32)), .val (.ref (w 2))] [])
          refine Go.of (fun _ k => XS.iconst X41.here hx rfl (hb hby at_277) k) ?_
          show Go p e below _ T41 (mkF m 278 #[.val (.int x0), .val (.int x1), .val (.int x2), .val (.ref b1), .val (.ref b18), .val (.int i), .val (.ref (w i.toNatClampNeg)), .val (awv w (w i.toNatClampNeg)), .val (.int (1 : Int32)), .val (.ref (w jb.toNatClampNeg)), .val (.ref (w jc.toNatClampNeg)), .val (.ref (wrA w (w jc.toNatClampNeg))), .val (.ref (w jc.toNatClampNeg)), .val (.int (1 : Int32)), .val (.ref (w 2))] [(.int (1 : Int32))])
          refine Go.of (fun _ k => XS.goto X41.here hx rfl (pc0 := 278) (pc' := 282) rfl (hb hby at_278) (by decide) (by decide) k) ?_
          show Go p e below _ T41 (mkF m 282 #[.val (.int x0), .val (.int x1), .val (.int x2), .val (.ref b1), .val (.ref b18), .val (.int i), .val (.ref (w i.toNatClampNeg)), .val (awv w (w i.toNatClampNeg)), .val (.int (1 : Int32)), .val (.ref (w jb.toNatClampNeg)), .val (.ref (w jc.toNatClampNeg)), .val (.ref (wrA w (w jc.toNatClampNeg))), .val (.ref (w jc.toNatClampNeg)), .val (.int (1 : Int32)), .val (.ref (w 2))] [(.int (1 : Int32))])
          refine Go.of (fun _ k => XS.istore X41.here hx rfl (hb hby at_282) rfl (l' := #[.val (.int x0), .val (.int x1), .val (.int x2), .val (.ref b1), .val (.ref b18), .val (.int i), .val (.ref (w i.toNatClampNeg)), .val (awv w (w i.toNatClampNeg)), .val (.int (1 : Int32)), .val (.ref (w jb.toNatClampNeg)), .val (.ref (w jc.toNatClampNeg)), .val (.ref (wrA w (w jc.toNatClampNeg))), .val (.ref (w jc.toNatClampNeg)), .val (.int (1 : Int32)), .val (.ref (w 2))]) rfl k) ?_
          show Go p e below _ T41 (mkF m 284 #[.val (.int x0), .val (.int x1), .val (.int x2), .val (.ref b1), .val (.ref b18), .val (.int i), .val (.ref (w i.toNatClampNeg)), .val (awv w (w i.toNatClampNeg)), .val (.int (1 : Int32)), .val (.ref (w jb.toNatClampNeg)), .val (.ref (w jc.toNatClampNeg)), .val (.ref (wrA w (w jc.toNatClampNeg))), .val (.ref (w jc.toNatClampNeg)), .val (.int (1 : Int32)), .val (.ref (w 2))] [])
          refine Go.of (fun _ k => XS.iload X41.here hx rfl (hb hby at_284) rfl k) ?_
          show Go p e below _ T41 (mkF m 286 #[.val (.int x0), .val (.int x1), .val (.int x2), .val (.ref b1), .val (.ref b18), .val (.int i), .val (.ref (w i.toNatClampNeg)), .val (awv w (w i.toNatClampNeg)), .val (.int (1 : Int32)), .val (.ref (w jb.toNatClampNeg)), .val (.ref (w jc.toNatClampNeg)), .val (.ref (wrA w (w jc.toNatClampNeg))), .val (.ref (w jc.toNatClampNeg)), .val (.int (1 : Int32)), .val (.ref (w 2))] [(.int (1 : Int32))])
          exact own_retZ (z' := (1 : Int32)) X41 hx hlk hret (hb hby at_286) rfl ⟨rfl, N28⟩ (by decide) (by decide)
        ·
          refine Go.of (fun _ k => XT.acmpYes X38.here hx rfl (pc0 := 231) (pc' := 238) rfl (hb hby at_231) rfl rfl rfl (XT.aa_ne_t (fun q => hc231_39 (Value.ref.inj q))) (by decide) (by decide) k) ?_
          show Go p e below _ T38 (mkF m 238 #[.val (.int x0), .val (.int x1), .val (.int x2), .val (.ref b1), .val (.ref b18), .val (.int i), .val (.ref (w i.toNatClampNeg)), .val (awv w (w i.toNatClampNeg)), .val (.int (1 : Int32)), .val (.ref (w jb.toNatClampNeg)), .val (.ref (w jc.toNatClampNeg)), .val (.ref (wrA w (w jc.toNatClampNeg))), .val (.ref (w jc.toNatClampNeg)), .unset, .unset] [])
          refine Go.of (fun _ k => XS.iconst X38.here hx rfl (hb hby at_238) k) ?_
          show Go p e below _ T38 (mkF m 239 #[.val (.int x0), .val (.int x1), .val (.int x2), .val (.ref b1), .val (.ref b18), .val (.int i), .val (.ref (w i.toNatClampNeg)), .val (awv w (w i.toNatClampNeg)), .val (.int (1 : Int32)), .val (.ref (w jb.toNatClampNeg)), .val (.ref (w jc.toNatClampNeg)), .val (.ref (wrA w (w jc.toNatClampNeg))), .val (.ref (w jc.toNatClampNeg)), .unset, .unset] [(.int (0 : Int32))])
          refine Go.of (fun _ k => XS.istore X38.here hx rfl (hb hby at_239) rfl (l' := #[.val (.int x0), .val (.int x1), .val (.int x2), .val (.ref b1), .val (.ref b18), .val (.int i), .val (.ref (w i.toNatClampNeg)), .val (awv w (w i.toNatClampNeg)), .val (.int (1 : Int32)), .val (.ref (w jb.toNatClampNeg)), .val (.ref (w jc.toNatClampNeg)), .val (.ref (wrA w (w jc.toNatClampNeg))), .val (.ref (w jc.toNatClampNeg)), .val (.int (0 : Int32)), .unset]) rfl k) ?_
          show Go p e below _ T38 (mkF m 241 #[.val (.int x0), .val (.int x1), .val (.int x2), .val (.ref b1), .val (.ref b18), .val (.int i), .val (.ref (w i.toNatClampNeg)), .val (awv w (w i.toNatClampNeg)), .val (.int (1 : Int32)), .val (.ref (w jb.toNatClampNeg)), .val (.ref (w jc.toNatClampNeg)), .val (.ref (wrA w (w jc.toNatClampNeg))), .val (.ref (w jc.toNatClampNeg)), .val (.int (0 : Int32)), .unset] [])
          refine Go.of (fun _ k => XS.iload X38.here hx rfl (hb hby at_241) rfl k) ?_
          show Go p e below _ T38 (mkF m 243 #[.val (.int x0), .val (.int x1), .val (.int x2), .val (.ref b1), .val (.ref b18), .val (.int i), .val (.ref (w i.toNatClampNeg)), .val (awv w (w i.toNatClampNeg)), .val (.int (1 : Int32)), .val (.ref (w jb.toNatClampNeg)), .val (.ref (w jc.toNatClampNeg)), .val (.ref (wrA w (w jc.toNatClampNeg))), .val (.ref (w jc.toNatClampNeg)), .val (.int (0 : Int32)), .unset] [(.int (0 : Int32))])
          refine Go.of (fun _ k => XS.ifYes X38.here hx rfl (pc0 := 243) (pc' := 252) rfl (hb hby at_243) rfl (XT.i0_eq_t (by decide)) (by decide) (by decide) k) ?_
          show Go p e below _ T38 (mkF m 252 #[.val (.int x0), .val (.int x1), .val (.int x2), .val (.ref b1), .val (.ref b18), .val (.int i), .val (.ref (w i.toNatClampNeg)), .val (awv w (w i.toNatClampNeg)), .val (.int (1 : Int32)), .val (.ref (w jb.toNatClampNeg)), .val (.ref (w jc.toNatClampNeg)), .val (.ref (wrA w (w jc.toNatClampNeg))), .val (.ref (w jc.toNatClampNeg)), .val (.int (0 : Int32)), .unset] [])
          obtain ⟨T42, X42, e42, st42⟩ := getS2 X38 hx hZ hown (host := "") (Or.inl (hw _ (List.mem_of_getElem? (i := 6) rfl))) Via.refl e38 (S1.ext x28_h0) (g := (mkF m 252 #[.val (.int x0), .val (.int x1), .val (.int x2), .val (.ref b1), .val (.ref b18), .val (.int i), .val (.ref (w i.toNatClampNeg)), .val (awv w (w i.toNatClampNeg)), .val (.int (1 : Int32)), .val (.ref (w jb.toNatClampNeg)), .val (.ref (w jc.toNatClampNeg)), .val (.ref (wrA w (w jc.toNatClampNeg))), .val (.ref (w jc.toNatClampNeg)), .val (.int (0 : Int32)), .unset] [])) rfl (hb hby at_252)
          refine Go.of st42 ?_
          show Go p e below _ T42 (mkF m 255 #[.val (.int x0), .val (.int x1), .val (.int x2), .val (.ref b1), .val (.ref b18), .val (.int i), .val (.ref (w i.toNatClampNeg)), .val (awv w (w i.toNatClampNeg)), .val (.int (1 : Int32)), .val (.ref (w jb.toNatClampNeg)), .val (.ref (w jc.toNatClampNeg)), .val (.ref (wrA w (w jc.toNatClampNeg))), .val (.ref (w jc.toNatClampNeg)), .val (.int (0 : Int32)), .unset] [(.ref (w 1))])
          refine Go.of (fun _ k => XS.astore X42.here hx rfl (hb hby at_255) rfl rfl (l' := #[.val (.int x0), .val (.int x1), .val (.int x2), .val (.ref b1), .val (.ref b18), .val (.int i), .val (.ref (w i.toNatClampNeg)), .val (awv w (w i.toNatClampNeg)), .val (.int (1 : Int32)), .val (.ref (w jb.toNatClampNeg)), .val (.ref (w jc.toNatClampNeg)), .val (.ref (wrA w (w jc.toNatClampNeg))), .val (.ref (w jc.toNatClampNeg)), .val (.int (0 : Int32)), .val (.ref (w 1))]) rfl k) ?_
          show Go p e below _ T42 (mkF m 257 #[.val (.int x0), .val (.int x1), .val (.int x2), .val (.ref b1), .val (.ref b18), .val (.int i), .val (.ref (w i.toNatClampNeg)), .val (awv w (w i.toNatClampNeg)), .val (.int (1 : Int32)), .val (.ref (w jb.toNatClampNeg)), .val (.ref (w jc.toNatClampNeg)), .val (.ref (wrA w (w jc.toNatClampNeg))), .val (.ref (w jc.toNatClampNeg)), .val (.int (0 : Int32)), .val (.ref (w 1))] [])
          refine Go.of (fun _ k => XS.iload X42.here hx rfl (hb hby at_257) rfl k) ?_
          show Go p e below _ T42 (mkF m 259 #[.val (.int x0), .val (.int x1), .val (.int x2), .val (.ref b1), .val (.ref b18), .val (.int i), .val (.ref (w i.toNatClampNeg)), .val (awv w (w i.toNatClampNeg)), .val (.int (1 : Int32)), .val (.ref (w jb.toNatClampNeg)), .val (.ref (w jc.toNatClampNeg)), .val (.ref (wrA w (w jc.toNatClampNeg))), .val (.ref (w jc.toNatClampNeg)), .val (.int (0 : Int32)), .val (.ref (w 1))] [(.int (1 : Int32))])
          refine Go.of (fun _ k => XS.ifNo X42.here hx rfl (hb hby at_259) rfl (XT.i0_eq_f (by decide)) k) ?_
          show Go p e below _ T42 (mkF m 262 #[.val (.int x0), .val (.int x1), .val (.int x2), .val (.ref b1), .val (.ref b18), .val (.int i), .val (.ref (w i.toNatClampNeg)), .val (awv w (w i.toNatClampNeg)), .val (.int (1 : Int32)), .val (.ref (w jb.toNatClampNeg)), .val (.ref (w jc.toNatClampNeg)), .val (.ref (wrA w (w jc.toNatClampNeg))), .val (.ref (w jc.toNatClampNeg)), .val (.int (0 : Int32)), .val (.ref (w 1))] [])
          refine Go.of (fun _ k => XS.aload X42.here hx rfl (hb hby at_262) rfl rfl k) ?_
          show Go p e below _ T42 (mkF m 264 #[.val (.int x0), .val (.int x1), .val (.int x2), .val (.ref b1), .val (.ref b18), .val (.int i), .val (.ref (w i.toNatClampNeg)), .val (awv w (w i.toNatClampNeg)), .val (.int (1 : Int32)), .val (.ref (w jb.toNatClampNeg)), .val (.ref (w jc.toNatClampNeg)), .val (.ref (wrA w (w jc.toNatClampNeg))), .val (.ref (w jc.toNatClampNeg)), .val (.int (0 : Int32)), .val (.ref (w 1))] [(.ref (wrA w (w jc.toNatClampNeg)))])
          refine Go.of (fun _ k => XS.ifnullNo X42.here hx rfl (hb hby at_264) rfl k) ?_
          show Go p e below _ T42 (mkF m 267 #[.val (.int x0), .val (.int x1), .val (.int x2), .val (.ref b1), .val (.ref b18), .val (.int i), .val (.ref (w i.toNatClampNeg)), .val (awv w (w i.toNatClampNeg)), .val (.int (1 : Int32)), .val (.ref (w jb.toNatClampNeg)), .val (.ref (w jc.toNatClampNeg)), .val (.ref (wrA w (w jc.toNatClampNeg))), .val (.ref (w jc.toNatClampNeg)), .val (.int (0 : Int32)), .val (.ref (w 1))] [])
          refine Go.of (fun _ k => XS.aload X42.here hx rfl (hb hby at_267) rfl rfl k) ?_
          show Go p e below _ T42 (mkF m 269 #[.val (.int x0), .val (.int x1), .val (.int x2), .val (.ref b1), .val (.ref b18), .val (.int i), .val (.ref (w i.toNatClampNeg)), .val (awv w (w i.toNatClampNeg)), .val (.int (1 : Int32)), .val (.ref (w jb.toNatClampNeg)), .val (.ref (w jc.toNatClampNeg)), .val (.ref (wrA w (w jc.toNatClampNeg))), .val (.ref (w jc.toNatClampNeg)), .val (.int (0 : Int32)), .val (.ref (w 1))] [(.ref (wrA w (w jc.toNatClampNeg)))])
          obtain ⟨T43, X43, e43, st43⟩ := own_pure rfl rfl (own_callVQ X42 hx hZ (y := (⟨"com/example/unfussy_switchboard/unfussyswitchboard/model/AgentState", "afterWrapUp", "()Lcom/example/unfussy_switchboard/unfussyswitchboard/model/AgentState;"⟩ : MethodName)) hown (hw _ (List.mem_of_getElem? (i := 20) rfl)) (hw _ (List.mem_of_getElem? (i := 21) rfl)) (hw _ (List.mem_of_getElem? (i := 23) rfl)) (hw _ (List.mem_of_getElem? (i := 23) rfl)) (hw _ (List.mem_of_getElem? (i := 22) rfl)) (hw _ (List.mem_of_getElem? (i := 24) rfl)) (hw _ (List.mem_of_getElem? (i := 3) rfl)) (by decide) (c1 l Z a0 hw w h28 (D.ext x28_h0) (wrA w (w jc.toNatClampNeg)) (.ref (w 1)) ((congrArg (awv w) ((if_neg hc223_35).trans (if_neg hc231_39))).trans (awv6 w))) (by decide) 0 (by decide) (by decide) (by decide) e42 (wrA_exa (fun i hi => (Ex i hi).ext x28_h0) _) (g := (mkF m 269 #[.val (.int x0), .val (.int x1), .val (.int x2), .val (.ref b1), .val (.ref b18), .val (.int i), .val (.ref (w i.toNatClampNeg)), .val (awv w (w i.toNatClampNeg)), .val (.int (1 : Int32)), .val (.ref (w jb.toNatClampNeg)), .val (.ref (w jc.toNatClampNeg)), .val (.ref (wrA w (w jc.toNatClampNeg))), .val (.ref (w jc.toNatClampNeg)), .val (.int (0 : Int32)), .val (.ref (w 1))] [(.ref (wrA w (w jc.toNatClampNeg)))])) rfl (by rw [hml]; rfl) [] [] (lenOf (by decide +kernel : parseMethodDescriptor "()Lcom/example/unfussy_switchboard/unfussyswitchboard/model/AgentState;" = some ⟨[], some (.object "com/example/unfussy_switchboard/unfussyswitchboard/model/AgentState")⟩) rfl) rfl (by show 2 * 0 + _ ≤ _; exact Nat.le_of_eq rfl) rfl (hb hby at_269))
          refine Go.of st43 ?_
          show Go p e below _ T43 (mkF m 272 #[.val (.int x0), .val (.int x1), .val (.int x2), .val (.ref b1), .val (.ref b18), .val (.int i), .val (.ref (w i.toNatClampNeg)), .val (awv w (w i.toNatClampNeg)), .val (.int (1 : Int32)), .val (.ref (w jb.toNatClampNeg)), .val (.ref (w jc.toNatClampNeg)), .val (.ref (wrA w (w jc.toNatClampNeg))), .val (.ref (w jc.toNatClampNeg)), .val (.int (0 : Int32)), .val (.ref (w 1))] [(.ref (w 1))])
          refine Go.of (fun _ k => XS.aload X43.here hx rfl (hb hby at_272) rfl rfl k) ?_
          show Go p e below _ T43 (mkF m 274 #[.val (.int x0), .val (.int x1), .val (.int x2), .val (.ref b1), .val (.ref b18), .val (.int i), .val (.ref (w i.toNatClampNeg)), .val (awv w (w i.toNatClampNeg)), .val (.int (1 : Int32)), .val (.ref (w jb.toNatClampNeg)), .val (.ref (w jc.toNatClampNeg)), .val (.ref (wrA w (w jc.toNatClampNeg))), .val (.ref (w jc.toNatClampNeg)), .val (.int (0 : Int32)), .val (.ref (w 1))] [(.ref (w 1)), (.ref (w 1))])
          refine Go.of (fun _ k => XT.acmpNo X43.here hx rfl (hb hby at_274) rfl rfl rfl (XT.aa_ne_f rfl) k) ?_
          show Go p e below _ T43 (mkF m 277 #[.val (.int x0), .val (.int x1), .val (.int x2), .val (.ref b1), .val (.ref b18), .val (.int i), .val (.ref (w i.toNatClampNeg)), .val (awv w (w i.toNatClampNeg)), .val (.int (1 : Int32)), .val (.ref (w jb.toNatClampNeg)), .val (.ref (w jc.toNatClampNeg)), .val (.ref (wrA w (w jc.toNatClampNeg))), .val (.ref (w jc.toNatClampNeg)), .val (.int (0 : Int32)), .val (.ref (w 1))] [])
          refine Go.of (fun _ k => XS.iconst X43.here hx rfl (hb hby at_277) k) ?_
          show Go p e below _ T43 (mkF m 278 #[.val (.int x0), .val (.int x1), .val (.int x2), .val (.ref b1), .val (.ref b18), .val (.int i), .val (.ref (w i.toNatClampNeg)), .val (awv w (w i.toNatClampNeg)), .val (.int (1 : Int32)), .val (.ref (w jb.toNatClampNeg)), .val (.ref (w jc.toNatClampNeg)), .val (.ref (wrA w (w jc.toNatClampNeg))), .val (.ref (w jc.toNatClampNeg)), .val (.int (0 : Int32)), .val (.ref (w 1))] [(.int (1 : Int32))])
          refine Go.of (fun _ k => XS.goto X43.here hx rfl (pc0 := 278) (pc' := 282) rfl (hb hby at_278) (by decide) (by decide) k) ?_
          show Go p e below _ T43 (mkF m 282 #[.val (.int x0), .val (.int x1), .val (.int x2), .val (.ref b1), .val (.ref b18), .val (.int i), .val (.ref (w i.toNatClampNeg)), .val (awv w (w i.toNatClampNeg)), .val (.int (1 : Int32)), .val (.ref (w jb.toNatClampNeg)), .val (.ref (w jc.toNatClampNeg)), .val (.ref (wrA w (w jc.toNatClampNeg))), .val (.ref (w jc.toNatClampNeg)), .val (.int (0 : Int32)), .val (.ref (w 1))] [(.int (1 : Int32))])
          refine Go.of (fun _ k => XS.istore X43.here hx rfl (hb hby at_282) rfl (l' := #[.val (.int x0), .val (.int x1), .val (.int x2), .val (.ref b1), .val (.ref b18), .val (.int i), .val (.ref (w i.toNatClampNeg)), .val (awv w (w i.toNatClampNeg)), .val (.int (1 : Int32)), .val (.ref (w jb.toNatClampNeg)), .val (.ref (w jc.toNatClampNeg)), .val (.ref (wrA w (w jc.toNatClampNeg))), .val (.ref (w jc.toNatClampNeg)), .val (.int (0 : Int32)), .val (.ref (w 1))]) rfl k) ?_
          show Go p e below _ T43 (mkF m 284 #[.val (.int x0), .val (.int x1), .val (.int x2), .val (.ref b1), .val (.ref b18), .val (.int i), .val (.ref (w i.toNatClampNeg)), .val (awv w (w i.toNatClampNeg)), .val (.int (1 : Int32)), .val (.ref (w jb.toNatClampNeg)), .val (.ref (w jc.toNatClampNeg)), .val (.ref (wrA w (w jc.toNatClampNeg))), .val (.ref (w jc.toNatClampNeg)), .val (.int (0 : Int32)), .val (.ref (w 1))] [])
          refine Go.of (fun _ k => XS.iload X43.here hx rfl (hb hby at_284) rfl k) ?_
          show Go p e below _ T43 (mkF m 286 #[.val (.int x0), .val (.int x1), .val (.int x2), .val (.ref b1), .val (.ref b18), .val (.int i), .val (.ref (w i.toNatClampNeg)), .val (awv w (w i.toNatClampNeg)), .val (.int (1 : Int32)), .val (.ref (w jb.toNatClampNeg)), .val (.ref (w jc.toNatClampNeg)), .val (.ref (wrA w (w jc.toNatClampNeg))), .val (.ref (w jc.toNatClampNeg)), .val (.int (0 : Int32)), .val (.ref (w 1))] [(.int (1 : Int32))])
          exact own_retZ (z' := (1 : Int32)) X43 hx hlk hret (hb hby at_286) rfl ⟨rfl, N28⟩ (by decide) (by decide)
    ·
      refine Go.of (fun _ k => XS.ifNo X31.here hx rfl (hb hby at_179) rfl (XT.i0_eq_f hc179_32) k) ?_
      show Go p e below _ T31 (mkF m 182 #[.val (.int x0), .val (.int x1), .val (.int x2), .val (.ref b1), .val (.ref b18), .val (.int i), .val (.ref (w i.toNatClampNeg)), .val (awv w (w i.toNatClampNeg)), .val (.int (1 : Int32)), .val (.ref (w jb.toNatClampNeg)), .unset, .unset, .unset, .unset, .unset] [])
      refine Go.of (fun _ k => XS.aconstNull X31.here hx rfl (hb hby at_182) k) ?_
      show Go p e below _ T31 (mkF m 183 #[.val (.int x0), .val (.int x1), .val (.int x2), .val (.ref b1), .val (.ref b18), .val (.int i), .val (.ref (w i.toNatClampNeg)), .val (awv w (w i.toNatClampNeg)), .val (.int (1 : Int32)), .val (.ref (w jb.toNatClampNeg)), .unset, .unset, .unset, .unset, .unset] [.null])
      refine Go.of (fun _ k => XS.goto X31.here hx rfl (pc0 := 183) (pc' := 192) rfl (hb hby at_183) (by decide) (by decide) k) ?_
      show Go p e below _ T31 (mkF m 192 #[.val (.int x0), .val (.int x1), .val (.int x2), .val (.ref b1), .val (.ref b18), .val (.int i), .val (.ref (w i.toNatClampNeg)), .val (awv w (w i.toNatClampNeg)), .val (.int (1 : Int32)), .val (.ref (w jb.toNatClampNeg)), .unset, .unset, .unset, .unset, .unset] [.null])
      refine Go.of (fun _ k => XS.astore X31.here hx rfl (hb hby at_192) rfl rfl (l' := #[.val (.int x0), .val (.int x1), .val (.int x2), .val (.ref b1), .val (.ref b18), .val (.int i), .val (.ref (w i.toNatClampNeg)), .val (awv w (w i.toNatClampNeg)), .val (.int (1 : Int32)), .val (.ref (w jb.toNatClampNeg)), .val .null, .unset, .unset, .unset, .unset]) rfl k) ?_
      show Go p e below _ T31 (mkF m 194 #[.val (.int x0), .val (.int x1), .val (.int x2), .val (.ref b1), .val (.ref b18), .val (.int i), .val (.ref (w i.toNatClampNeg)), .val (awv w (w i.toNatClampNeg)), .val (.int (1 : Int32)), .val (.ref (w jb.toNatClampNeg)), .val .null, .unset, .unset, .unset, .unset] [])
      refine Go.of (fun _ k => XS.aload X31.here hx rfl (hb hby at_194) rfl rfl k) ?_
      show Go p e below _ T31 (mkF m 196 #[.val (.int x0), .val (.int x1), .val (.int x2), .val (.ref b1), .val (.ref b18), .val (.int i), .val (.ref (w i.toNatClampNeg)), .val (awv w (w i.toNatClampNeg)), .val (.int (1 : Int32)), .val (.ref (w jb.toNatClampNeg)), .val .null, .unset, .unset, .unset, .unset] [(.ref (w jb.toNatClampNeg))])
      refine Go.of (fun _ k => XS.aload X31.here hx rfl (hb hby at_196) rfl rfl k) ?_
      show Go p e below _ T31 (mkF m 198 #[.val (.int x0), .val (.int x1), .val (.int x2), .val (.ref b1), .val (.ref b18), .val (.int i), .val (.ref (w i.toNatClampNeg)), .val (awv w (w i.toNatClampNeg)), .val (.int (1 : Int32)), .val (.ref (w jb.toNatClampNeg)), .val .null, .unset, .unset, .unset, .unset] [.null, (.ref (w jb.toNatClampNeg))])
      refine Go.of (fun _ k => XS.iconst X31.here hx rfl (hb hby at_198) k) ?_
      show Go p e below _ T31 (mkF m 199 #[.val (.int x0), .val (.int x1), .val (.int x2), .val (.ref b1), .val (.ref b18), .val (.int i), .val (.ref (w i.toNatClampNeg)), .val (awv w (w i.toNatClampNeg)), .val (.int (1 : Int32)), .val (.ref (w jb.toNatClampNeg)), .val .null, .unset, .unset, .unset, .unset] [(.int (1 : Int32)), .null, (.ref (w jb.toNatClampNeg))])
      obtain ⟨T44, X44, e44, st44⟩ := own_pure rfl rfl (own_callSQ X31 hx hZ (y := (⟨"com/example/unfussy_switchboard/unfussyswitchboard/model/AgentState", "afterCall", "(Lcom/example/unfussy_switchboard/unfussyswitchboard/model/AgentState;Lcom/example/unfussy_switchboard/unfussyswitchboard/model/AgentState;Z)Lcom/example/unfussy_switchboard/unfussyswitchboard/model/AgentState;"⟩ : MethodName)) hown (hw _ (List.mem_of_getElem? (i := 32) rfl)) (hw _ (List.mem_of_getElem? (i := 33) rfl)) (hw _ (List.mem_of_getElem? (i := 3) rfl)) (hw _ (List.mem_of_getElem? (i := 34) rfl)) (by decide) (c3 l Z a0 hw w h28 (D.ext x28_h0) (.ref (w jb.toNatClampNeg)) .null rfl rfl (1 : Int32) (.ref (wrA w (w jb.toNatClampNeg))) (acv_n w _)) (by decide) 0 (by decide) (by decide) (by decide) e31 (g := (mkF m 199 #[.val (.int x0), .val (.int x1), .val (.int x2), .val (.ref b1), .val (.ref b18), .val (.int i), .val (.ref (w i.toNatClampNeg)), .val (awv w (w i.toNatClampNeg)), .val (.int (1 : Int32)), .val (.ref (w jb.toNatClampNeg)), .val .null, .unset, .unset, .unset, .unset] [(.int (1 : Int32)), .null, (.ref (w jb.toNatClampNeg))])) rfl (by rw [hml]; rfl) [(.ref (w jb.toNatClampNeg)), .null, (.int (1 : Int32))] [] (lenOf (by decide +kernel : parseMethodDescriptor "(Lcom/example/unfussy_switchboard/unfussyswitchboard/model/AgentState;Lcom/example/unfussy_switchboard/unfussyswitchboard/model/AgentState;Z)Lcom/example/unfussy_switchboard/unfussyswitchboard/model/AgentState;" = some ⟨[(.object "com/example/unfussy_switchboard/unfussyswitchboard/model/AgentState"), (.object "com/example/unfussy_switchboard/unfussyswitchboard/model/AgentState"), .boolean], some (.object "com/example/unfussy_switchboard/unfussyswitchboard/model/AgentState")⟩) rfl) rfl (by show 2 * 0 + _ ≤ _; exact Nat.le_of_eq rfl) rfl (hb hby at_199))
      refine Go.of st44 ?_
      show Go p e below _ T44 (mkF m 202 #[.val (.int x0), .val (.int x1), .val (.int x2), .val (.ref b1), .val (.ref b18), .val (.int i), .val (.ref (w i.toNatClampNeg)), .val (awv w (w i.toNatClampNeg)), .val (.int (1 : Int32)), .val (.ref (w jb.toNatClampNeg)), .val .null, .unset, .unset, .unset, .unset] [(.ref (wrA w (w jb.toNatClampNeg)))])
      refine Go.of (fun _ k => XS.astore X44.here hx rfl (hb hby at_202) rfl rfl (l' := #[.val (.int x0), .val (.int x1), .val (.int x2), .val (.ref b1), .val (.ref b18), .val (.int i), .val (.ref (w i.toNatClampNeg)), .val (awv w (w i.toNatClampNeg)), .val (.int (1 : Int32)), .val (.ref (w jb.toNatClampNeg)), .val .null, .val (.ref (wrA w (w jb.toNatClampNeg))), .unset, .unset, .unset]) rfl k) ?_
      show Go p e below _ T44 (mkF m 204 #[.val (.int x0), .val (.int x1), .val (.int x2), .val (.ref b1), .val (.ref b18), .val (.int i), .val (.ref (w i.toNatClampNeg)), .val (awv w (w i.toNatClampNeg)), .val (.int (1 : Int32)), .val (.ref (w jb.toNatClampNeg)), .val .null, .val (.ref (wrA w (w jb.toNatClampNeg))), .unset, .unset, .unset] [])
      refine Go.of (fun _ k => XS.aload X44.here hx rfl (hb hby at_204) rfl rfl k) ?_
      show Go p e below _ T44 (mkF m 206 #[.val (.int x0), .val (.int x1), .val (.int x2), .val (.ref b1), .val (.ref b18), .val (.int i), .val (.ref (w i.toNatClampNeg)), .val (awv w (w i.toNatClampNeg)), .val (.int (1 : Int32)), .val (.ref (w jb.toNatClampNeg)), .val .null, .val (.ref (wrA w (w jb.toNatClampNeg))), .unset, .unset, .unset] [.null])
      refine Go.of (fun _ k => XS.ifnullYes X44.here hx rfl (pc0 := 206) (pc' := 214) rfl (hb hby at_206) rfl (by decide) (by decide) k) ?_
      show Go p e below _ T44 (mkF m 214 #[.val (.int x0), .val (.int x1), .val (.int x2), .val (.ref b1), .val (.ref b18), .val (.int i), .val (.ref (w i.toNatClampNeg)), .val (awv w (w i.toNatClampNeg)), .val (.int (1 : Int32)), .val (.ref (w jb.toNatClampNeg)), .val .null, .val (.ref (wrA w (w jb.toNatClampNeg))), .unset, .unset, .unset] [])
      refine Go.of (fun _ k => XS.aload X44.here hx rfl (hb hby at_214) rfl rfl k) ?_
      show Go p e below _ T44 (mkF m 216 #[.val (.int x0), .val (.int x1), .val (.int x2), .val (.ref b1), .val (.ref b18), .val (.int i), .val (.ref (w i.toNatClampNeg)), .val (awv w (w i.toNatClampNeg)), .val (.int (1 : Int32)), .val (.ref (w jb.toNatClampNeg)), .val .null, .val (.ref (wrA w (w jb.toNatClampNeg))), .unset, .unset, .unset] [(.ref (w jb.toNatClampNeg))])
      refine Go.of (fun _ k => XS.astore X44.here hx rfl (hb hby at_216) rfl rfl (l' := #[.val (.int x0), .val (.int x1), .val (.int x2), .val (.ref b1), .val (.ref b18), .val (.int i), .val (.ref (w i.toNatClampNeg)), .val (awv w (w i.toNatClampNeg)), .val (.int (1 : Int32)), .val (.ref (w jb.toNatClampNeg)), .val .null, .val (.ref (wrA w (w jb.toNatClampNeg))), .val (.ref (w jb.toNatClampNeg)), .unset, .unset]) rfl k) ?_
      show Go p e below _ T44 (mkF m 218 #[.val (.int x0), .val (.int x1), .val (.int x2), .val (.ref b1), .val (.ref b18), .val (.int i), .val (.ref (w i.toNatClampNeg)), .val (awv w (w i.toNatClampNeg)), .val (.int (1 : Int32)), .val (.ref (w jb.toNatClampNeg)), .val .null, .val (.ref (wrA w (w jb.toNatClampNeg))), .val (.ref (w jb.toNatClampNeg)), .unset, .unset] [])
      refine Go.of (fun _ k => XS.aload X44.here hx rfl (hb hby at_218) rfl rfl k) ?_
      show Go p e below _ T44 (mkF m 220 #[.val (.int x0), .val (.int x1), .val (.int x2), .val (.ref b1), .val (.ref b18), .val (.int i), .val (.ref (w i.toNatClampNeg)), .val (awv w (w i.toNatClampNeg)), .val (.int (1 : Int32)), .val (.ref (w jb.toNatClampNeg)), .val .null, .val (.ref (wrA w (w jb.toNatClampNeg))), .val (.ref (w jb.toNatClampNeg)), .unset, .unset] [(.ref (w jb.toNatClampNeg))])
      obtain ⟨T45, X45, e45, st45⟩ := getS2 X44 hx hZ hown (host := "") (Or.inl (hw _ (List.mem_of_getElem? (i := 8) rfl))) Via.refl e44 (S2.ext x28_h0) (g := (mkF m 220 #[.val (.int x0), .val (.int x1), .val (.int x2), .val (.ref b1), .val (.ref b18), .val (.int i), .val (.ref (w i.toNatClampNeg)), .val (awv w (w i.toNatClampNeg)), .val (.int (1 : Int32)), .val (.ref (w jb.toNatClampNeg)), .val .null, .val (.ref (wrA w (w jb.toNatClampNeg))), .val (.ref (w jb.toNatClampNeg)), .unset, .unset] [(.ref (w jb.toNatClampNeg))])) rfl (hb hby at_220)
      refine Go.of st45 ?_
      show Go p e below _ T45 (mkF m 223 #[.val (.int x0), .val (.int x1), .val (.int x2), .val (.ref b1), .val (.ref b18), .val (.int i), .val (.ref (w i.toNatClampNeg)), .val (awv w (w i.toNatClampNeg)), .val (.int (1 : Int32)), .val (.ref (w jb.toNatClampNeg)), .val .null, .val (.ref (wrA w (w jb.toNatClampNeg))), .val (.ref (w jb.toNatClampNeg)), .unset, .unset] [(.ref (w 2)), (.ref (w jb.toNatClampNeg))])
      by_cases hc223_46 : (w jb.toNatClampNeg) = (w 2)
      ·
        refine Go.of (fun _ k => XT.acmpYes X45.here hx rfl (pc0 := 223) (pc' := 234) rfl (hb hby at_223) rfl rfl rfl (XT.aa_eq_t (congrArg Value.ref hc223_46)) (by decide) (by decide) k) ?_
        show Go p e below _ T45 (mkF m 234 #[.val (.int x0), .val (.int x1), .val (.int x2), .val (.ref b1), .val (.ref b18), .val (.int i), .val (.ref (w i.toNatClampNeg)), .val (awv w (w i.toNatClampNeg)), .val (.int (1 : Int32)), .val (.ref (w jb.toNatClampNeg)), .val .null, .val (.ref (wrA w (w jb.toNatClampNeg))), .val (.ref (w jb.toNatClampNeg)), .unset, .unset] [])
        refine Go.of (fun _ k => XS.iconst X45.here hx rfl (hb hby at_234) k) ?_
        show Go p e below _ T45 (mkF m 235 #[.val (.int x0), .val (.int x1), .val (.int x2), .val (.ref b1), .val (.ref b18), .val (.int i), .val (.ref (w i.toNatClampNeg)), .val (awv w (w i.toNatClampNeg)), .val (.int (1 : Int32)), .val (.ref (w jb.toNatClampNeg)), .val .null, .val (.ref (wrA w (w jb.toNatClampNeg))), .val (.ref (w jb.toNatClampNeg)), .unset, .unset] [(.int (1 : Int32))])
        refine Go.of (fun _ k => XS.goto X45.here hx rfl (pc0 := 235) (pc' := 239) rfl (hb hby at_235) (by decide) (by decide) k) ?_
        show Go p e below _ T45 (mkF m 239 #[.val (.int x0), .val (.int x1), .val (.int x2), .val (.ref b1), .val (.ref b18), .val (.int i), .val (.ref (w i.toNatClampNeg)), .val (awv w (w i.toNatClampNeg)), .val (.int (1 : Int32)), .val (.ref (w jb.toNatClampNeg)), .val .null, .val (.ref (wrA w (w jb.toNatClampNeg))), .val (.ref (w jb.toNatClampNeg)), .unset, .unset] [(.int (1 : Int32))])
        refine Go.of (fun _ k => XS.istore X45.here hx rfl (hb hby at_239) rfl (l' := #[.val (.int x0), .val (.int x1), .val (.int x2), .val (.ref b1), .val (.ref b18), .val (.int i), .val (.ref (w i.toNatClampNeg)), .val (awv w (w i.toNatClampNeg)), .val (.int (1 : Int32)), .val (.ref (w jb.toNatClampNeg)), .val .null, .val (.ref (wrA w (w jb.toNatClampNeg))), .val (.ref (w jb.toNatClampNeg)), .val (.int (1 : Int32)), .unset]) rfl k) ?_
        show Go p e below _ T45 (mkF m 241 #[.val (.int x0), .val (.int x1), .val (.int x2), .val (.ref b1), .val (.ref b18), .val (.int i), .val (.ref (w i.toNatClampNeg)), .val (awv w (w i.toNatClampNeg)), .val (.int (1 : Int32)), .val (.ref (w jb.toNatClampNeg)), .val .null, .val (.ref (wrA w (w jb.toNatClampNeg))), .val (.ref (w jb.toNatClampNeg)), .val (.int (1 : Int32)), .unset] [])
        refine Go.of (fun _ k => XS.iload X45.here hx rfl (hb hby at_241) rfl k) ?_
        show Go p e below _ T45 (mkF m 243 #[.val (.int x0), .val (.int x1), .val (.int x2), .val (.ref b1), .val (.ref b18), .val (.int i), .val (.ref (w i.toNatClampNeg)), .val (awv w (w i.toNatClampNeg)), .val (.int (1 : Int32)), .val (.ref (w jb.toNatClampNeg)), .val .null, .val (.ref (wrA w (w jb.toNatClampNeg))), .val (.ref (w jb.toNatClampNeg)), .val (.int (1 : Int32)), .unset] [(.int (1 : Int32))])
        refine Go.of (fun _ k => XS.ifNo X45.here hx rfl (hb hby at_243) rfl (XT.i0_eq_f (by decide)) k) ?_
        show Go p e below _ T45 (mkF m 246 #[.val (.int x0), .val (.int x1), .val (.int x2), .val (.ref b1), .val (.ref b18), .val (.int i), .val (.ref (w i.toNatClampNeg)), .val (awv w (w i.toNatClampNeg)), .val (.int (1 : Int32)), .val (.ref (w jb.toNatClampNeg)), .val .null, .val (.ref (wrA w (w jb.toNatClampNeg))), .val (.ref (w jb.toNatClampNeg)), .val (.int (1 : Int32)), .unset] [])
        obtain ⟨T47, X47, e47, st47⟩ := getS2 X45 hx hZ hown (host := "") (Or.inl (hw _ (List.mem_of_getElem? (i := 8) rfl))) Via.refl e45 (S2.ext x28_h0) (g := (mkF m 246 #[.val (.int x0), .val (.int x1), .val (.int x2), .val (.ref b1), .val (.ref b18), .val (.int i), .val (.ref (w i.toNatClampNeg)), .val (awv w (w i.toNatClampNeg)), .val (.int (1 : Int32)), .val (.ref (w jb.toNatClampNeg)), .val .null, .val (.ref (wrA w (w jb.toNatClampNeg))), .val (.ref (w jb.toNatClampNeg)), .val (.int (1 : Int32)), .unset] [])) rfl (hb hby at_246)
        refine Go.of st47 ?_
        show Go p e below _ T47 (mkF m 249 #[.val (.int x0), .val (.int x1), .val (.int x2), .val (.ref b1), .val (.ref b18), .val (.int i), .val (.ref (w i.toNatClampNeg)), .val (awv w (w i.toNatClampNeg)), .val (.int (1 : Int32)), .val (.ref (w jb.toNatClampNeg)), .val .null, .val (.ref (wrA w (w jb.toNatClampNeg))), .val (.ref (w jb.toNatClampNeg)), .val (.int (1 : Int32)), .unset] [(.ref (w 2))])
        refine Go.of (fun _ k => XS.goto X47.here hx rfl (pc0 := 249) (pc' := 255) rfl (hb hby at_249) (by decide) (by decide) k) ?_
        show Go p e below _ T47 (mkF m 255 #[.val (.int x0), .val (.int x1), .val (.int x2), .val (.ref b1), .val (.ref b18), .val (.int i), .val (.ref (w i.toNatClampNeg)), .val (awv w (w i.toNatClampNeg)), .val (.int (1 : Int32)), .val (.ref (w jb.toNatClampNeg)), .val .null, .val (.ref (wrA w (w jb.toNatClampNeg))), .val (.ref (w jb.toNatClampNeg)), .val (.int (1 : Int32)), .unset] [(.ref (w 2))])
        refine Go.of (fun _ k => XS.astore X47.here hx rfl (hb hby at_255) rfl rfl (l' := #[.val (.int x0), .val (.int x1), .val (.int x2), .val (.ref b1), .val (.ref b18), .val (.int i), .val (.ref (w i.toNatClampNeg)), .val (awv w (w i.toNatClampNeg)), .val (.int (1 : Int32)), .val (.ref (w jb.toNatClampNeg)), .val .null, .val (.ref (wrA w (w jb.toNatClampNeg))), .val (.ref (w jb.toNatClampNeg)), .val (.int (1 : Int32)), .val (.ref (w 2))]) rfl k) ?_
        show Go p e below _ T47 (mkF m 257 #[.val (.int x0), .val (.int x1), .val (.int x2), .val (.ref b1), .val (.ref b18), .val (.int i), .val (.ref (w i.toNatClampNeg)), .val (awv w (w i.toNatClampNeg)), .val (.int (1 : Int32)), .val (.ref (w jb.toNatClampNeg)), .val .null, .val (.ref (wrA w (w jb.toNatClampNeg))), .val (.ref (w jb.toNatClampNeg)), .val (.int (1 : Int32)), .val (.ref (w 2))] [])
        refine Go.of (fun _ k => XS.iload X47.here hx rfl (hb hby at_257) rfl k) ?_
        show Go p e below _ T47 (mkF m 259 #[.val (.int x0), .val (.int x1), .val (.int x2), .val (.ref b1), .val (.ref b18), .val (.int i), .val (.ref (w i.toNatClampNeg)), .val (awv w (w i.toNatClampNeg)), .val (.int (1 : Int32)), .val (.ref (w jb.toNatClampNeg)), .val .null, .val (.ref (wrA w (w jb.toNatClampNeg))), .val (.ref (w jb.toNatClampNeg)), .val (.int (1 : Int32)), .val (.ref (w 2))] [(.int (1 : Int32))])
        refine Go.of (fun _ k => XS.ifNo X47.here hx rfl (hb hby at_259) rfl (XT.i0_eq_f (by decide)) k) ?_
        show Go p e below _ T47 (mkF m 262 #[.val (.int x0), .val (.int x1), .val (.int x2), .val (.ref b1), .val (.ref b18), .val (.int i), .val (.ref (w i.toNatClampNeg)), .val (awv w (w i.toNatClampNeg)), .val (.int (1 : Int32)), .val (.ref (w jb.toNatClampNeg)), .val .null, .val (.ref (wrA w (w jb.toNatClampNeg))), .val (.ref (w jb.toNatClampNeg)), .val (.int (1 : Int32)), .val (.ref (w 2))] [])
        refine Go.of (fun _ k => XS.aload X47.here hx rfl (hb hby at_262) rfl rfl k) ?_
        show Go p e below _ T47 (mkF m 264 #[.val (.int x0), .val (.int x1), .val (.int x2), .val (.ref b1), .val (.ref b18), .val (.int i), .val (.ref (w i.toNatClampNeg)), .val (awv w (w i.toNatClampNeg)), .val (.int (1 : Int32)), .val (.ref (w jb.toNatClampNeg)), .val .null, .val (.ref (wrA w (w jb.toNatClampNeg))), .val (.ref (w jb.toNatClampNeg)), .val (.int (1 : Int32)), .val (.ref (w 2))] [(.ref (wrA w (w jb.toNatClampNeg)))])
        refine Go.of (fun _ k => XS.ifnullNo X47.here hx rfl (hb hby at_264) rfl k) ?_
        show Go p e below _ T47 (mkF m 267 #[.val (.int x0), .val (.int x1), .val (.int x2), .val (.ref b1), .val (.ref b18), .val (.int i), .val (.ref (w i.toNatClampNeg)), .val (awv w (w i.toNatClampNeg)), .val (.int (1 : Int32)), .val (.ref (w jb.toNatClampNeg)), .val .null, .val (.ref (wrA w (w jb.toNatClampNeg))), .val (.ref (w jb.toNatClampNeg)), .val (.int (1 : Int32)), .val (.ref (w 2))] [])
        refine Go.of (fun _ k => XS.aload X47.here hx rfl (hb hby at_267) rfl rfl k) ?_
        show Go p e below _ T47 (mkF m 269 #[.val (.int x0), .val (.int x1), .val (.int x2), .val (.ref b1), .val (.ref b18), .val (.int i), .val (.ref (w i.toNatClampNeg)), .val (awv w (w i.toNatClampNeg)), .val (.int (1 : Int32)), .val (.ref (w jb.toNatClampNeg)), .val .null, .val (.ref (wrA w (w jb.toNatClampNeg))), .val (.ref (w jb.toNatClampNeg)), .val (.int (1 : Int32)), .val (.ref (w 2))] [(.ref (wrA w (w jb.toNatClampNeg)))])
        obtain ⟨T48, X48, e48, st48⟩ := own_pure rfl rfl (own_callVQ X47 hx hZ (y := (⟨"com/example/unfussy_switchboard/unfussyswitchboard/model/AgentState", "afterWrapUp", "()Lcom/example/unfussy_switchboard/unfussyswitchboard/model/AgentState;"⟩ : MethodName)) hown (hw _ (List.mem_of_getElem? (i := 20) rfl)) (hw _ (List.mem_of_getElem? (i := 21) rfl)) (hw _ (List.mem_of_getElem? (i := 23) rfl)) (hw _ (List.mem_of_getElem? (i := 23) rfl)) (hw _ (List.mem_of_getElem? (i := 22) rfl)) (hw _ (List.mem_of_getElem? (i := 24) rfl)) (hw _ (List.mem_of_getElem? (i := 3) rfl)) (by decide) (c1 l Z a0 hw w h28 (D.ext x28_h0) (wrA w (w jb.toNatClampNeg)) (.ref (w 2)) ((congrArg (awv w) (if_pos hc223_46)).trans (awv7 hI))) (by decide) 0 (by decide) (by decide) (by decide) e47 (wrA_exa (fun i hi => (Ex i hi).ext x28_h0) _) (g := (mkF m 269 #[.val (.int x0), .val (.int x1), .val (.int x2), .val (.ref b1), .val (.ref b18), .val (.int i), .val (.ref (w i.toNatClampNeg)), .val (awv w (w i.toNatClampNeg)), .val (.int (1 : Int32)), .val (.ref (w jb.toNatClampNeg)), .val .null, .val (.ref (wrA w (w jb.toNatClampNeg))), .val (.ref (w jb.toNatClampNeg)), .val (.int (1 : Int32)), .val (.ref (w 2))] [(.ref (wrA w (w jb.toNatClampNeg)))])) rfl (by rw [hml]; rfl) [] [] (lenOf (by decide +kernel : parseMethodDescriptor "()Lcom/example/unfussy_switchboard/unfussyswitchboard/model/AgentState;" = some ⟨[], some (.object "com/example/unfussy_switchboard/unfussyswitchboard/model/AgentState")⟩) rfl) rfl (by show 2 * 0 + _ ≤ _; exact Nat.le_of_eq rfl) rfl (hb hby at_269))
        refine Go.of st48 ?_
        show Go p e below _ T48 (mkF m 272 #[.val (.int x0), .val (.int x1), .val (.int x2), .val (.ref b1), .val (.ref b18), .val (.int i), .val (.ref (w i.toNatClampNeg)), .val (awv w (w i.toNatClampNeg)), .val (.int (1 : Int32)), .val (.ref (w jb.toNatClampNeg)), .val .null, .val (.ref (wrA w (w jb.toNatClampNeg))), .val (.ref (w jb.toNatClampNeg)), .val (.int (1 : Int32)), .val (.ref (w 2))] [(.ref (w 2))])
        refine Go.of (fun _ k => XS.aload X48.here hx rfl (hb hby at_272) rfl rfl k) ?_
        show Go p e below _ T48 (mkF m 274 #[.val (.int x0), .val (.int x1), .val (.int x2), .val (.ref b1), .val (.ref b18), .val (.int i), .val (.ref (w i.toNatClampNeg)), .val (awv w (w i.toNatClampNeg)), .val (.int (1 : Int32)), .val (.ref (w jb.toNatClampNeg)), .val .null, .val (.ref (wrA w (w jb.toNatClampNeg))), .val (.ref (w jb.toNatClampNeg)), .val (.int (1 : Int32)), .val (.ref (w 2))] [(.ref (w 2)), (.ref (w 2))])
        refine Go.of (fun _ k => XT.acmpNo X48.here hx rfl (hb hby at_274) rfl rfl rfl (XT.aa_ne_f rfl) k) ?_
        show Go p e below _ T48 (mkF m 277 #[.val (.int x0), .val (.int x1), .val (.int x2), .val (.ref b1), .val (.ref b18), .val (.int i), .val (.ref (w i.toNatClampNeg)), .val (awv w (w i.toNatClampNeg)), .val (.int (1 : Int32)), .val (.ref (w jb.toNatClampNeg)), .val .null, .val (.ref (wrA w (w jb.toNatClampNeg))), .val (.ref (w jb.toNatClampNeg)), .val (.int (1 : Int32)), .val (.ref (w 2))] [])
        refine Go.of (fun _ k => XS.iconst X48.here hx rfl (hb hby at_277) k) ?_
        show Go p e below _ T48 (mkF m 278 #[.val (.int x0), .val (.int x1), .val (.int x2), .val (.ref b1), .val (.ref b18), .val (.int i), .val (.ref (w i.toNatClampNeg)), .val (awv w (w i.toNatClampNeg)), .val (.int (1 : Int32)), .val (.ref (w jb.toNatClampNeg)), .val .null, .val (.ref (wrA w (w jb.toNatClampNeg))), .val (.ref (w jb.toNatClampNeg)), .val (.int (1 : Int32)), .val (.ref (w 2))] [(.int (1 : Int32))])
        refine Go.of (fun _ k => XS.goto X48.here hx rfl (pc0 := 278) (pc' := 282) rfl (hb hby at_278) (by decide) (by decide) k) ?_
        show Go p e below _ T48 (mkF m 282 #[.val (.int x0), .val (.int x1), .val (.int x2), .val (.ref b1), .val (.ref b18), .val (.int i), .val (.ref (w i.toNatClampNeg)), .val (awv w (w i.toNatClampNeg)), .val (.int (1 : Int32)), .val (.ref (w jb.toNatClampNeg)), .val .null, .val (.ref (wrA w (w jb.toNatClampNeg))), .val (.ref (w jb.toNatClampNeg)), .val (.int (1 : Int32)), .val (.ref (w 2))] [(.int (1 : Int32))])
        refine Go.of (fun _ k => XS.istore X48.here hx rfl (hb hby at_282) rfl (l' := #[.val (.int x0), .val (.int x1), .val (.int x2), .val (.ref b1), .val (.ref b18), .val (.int i), .val (.ref (w i.toNatClampNeg)), .val (awv w (w i.toNatClampNeg)), .val (.int (1 : Int32)), .val (.ref (w jb.toNatClampNeg)), .val .null, .val (.ref (wrA w (w jb.toNatClampNeg))), .val (.ref (w jb.toNatClampNeg)), .val (.int (1 : Int32)), .val (.ref (w 2))]) rfl k) ?_
        show Go p e below _ T48 (mkF m 284 #[.val (.int x0), .val (.int x1), .val (.int x2), .val (.ref b1), .val (.ref b18), .val (.int i), .val (.ref (w i.toNatClampNeg)), .val (awv w (w i.toNatClampNeg)), .val (.int (1 : Int32)), .val (.ref (w jb.toNatClampNeg)), .val .null, .val (.ref (wrA w (w jb.toNatClampNeg))), .val (.ref (w jb.toNatClampNeg)), .val (.int (1 : Int32)), .val (.ref (w 2))] [])
        refine Go.of (fun _ k => XS.iload X48.here hx rfl (hb hby at_284) rfl k) ?_
        show Go p e below _ T48 (mkF m 286 #[.val (.int x0), .val (.int x1), .val (.int x2), .val (.ref b1), .val (.ref b18), .val (.int i), .val (.ref (w i.toNatClampNeg)), .val (awv w (w i.toNatClampNeg)), .val (.int (1 : Int32)), .val (.ref (w jb.toNatClampNeg)), .val .null, .val (.ref (wrA w (w jb.toNatClampNeg))), .val (.ref (w jb.toNatClampNeg)), .val (.int (1 : Int32)), .val (.ref (w 2))] [(.int (1 : Int32))])
        exact own_retZ (z' := (1 : Int32)) X48 hx hlk hret (hb hby at_286) rfl ⟨rfl, N28⟩ (by decide) (by decide)
      ·
        refine Go.of (fun _ k => XT.acmpNo X45.here hx rfl (hb hby at_223) rfl rfl rfl (XT.aa_eq_f (fun q => hc223_46 (Value.ref.inj q))) k) ?_
        show Go p e below _ T45 (mkF m 226 #[.val (.int x0), .val (.int x1), .val (.int x2), .val (.ref b1), .val (.ref b18), .val (.int i), .val (.ref (w i.toNatClampNeg)), .val (awv w (w i.toNatClampNeg)), .val (.int (1 : Int32)), .val (.ref (w jb.toNatClampNeg)), .val .null, .val (.ref (wrA w (w jb.toNatClampNeg))), .val (.ref (w jb.toNatClampNeg)), .unset, .unset] [])
        refine Go.of (fun _ k => XS.aload X45.here hx rfl (hb hby at_226) rfl rfl k) ?_
        show Go p e below _ T45 (mkF m 228 #[.val (.int x0), .val (.int x1), .val (.int x2), .val (.ref b1), .val (.ref b18), .val (.int i), .val (.ref (w i.toNatClampNeg)), .val (awv w (w i.toNatClampNeg)), .val (.int (1 : Int32)), .val (.ref (w jb.toNatClampNeg)), .val .null, .val (.ref (wrA w (w jb.toNatClampNeg))), .val (.ref (w jb.toNatClampNeg)), .unset, .unset] [(.ref (w jb.toNatClampNeg))])
        obtain ⟨T49, X49, e49, st49⟩ := getS2 X45 hx hZ hown (host := "") (Or.inl (hw _ (List.mem_of_getElem? (i := 18) rfl))) Via.refl e45 (S7.ext x28_h0) (g := (mkF m 228 #[.val (.int x0), .val (.int x1), .val (.int x2), .val (.ref b1), .val (.ref b18), .val (.int i), .val (.ref (w i.toNatClampNeg)), .val (awv w (w i.toNatClampNeg)), .val (.int (1 : Int32)), .val (.ref (w jb.toNatClampNeg)), .val .null, .val (.ref (wrA w (w jb.toNatClampNeg))), .val (.ref (w jb.toNatClampNeg)), .unset, .unset] [(.ref (w jb.toNatClampNeg))])) rfl (hb hby at_228)
        refine Go.of st49 ?_
        show Go p e below _ T49 (mkF m 231 #[.val (.int x0), .val (.int x1), .val (.int x2), .val (.ref b1), .val (.ref b18), .val (.int i), .val (.ref (w i.toNatClampNeg)), .val (awv w (w i.toNatClampNeg)), .val (.int (1 : Int32)), .val (.ref (w jb.toNatClampNeg)), .val .null, .val (.ref (wrA w (w jb.toNatClampNeg))), .val (.ref (w jb.toNatClampNeg)), .unset, .unset] [(.ref (w 7)), (.ref (w jb.toNatClampNeg))])
        by_cases hc231_50 : (w jb.toNatClampNeg) = (w 7)
        ·
          refine Go.of (fun _ k => XT.acmpNo X49.here hx rfl (hb hby at_231) rfl rfl rfl (XT.aa_ne_f (congrArg Value.ref hc231_50)) k) ?_
          show Go p e below _ T49 (mkF m 234 #[.val (.int x0), .val (.int x1), .val (.int x2), .val (.ref b1), .val (.ref b18), .val (.int i), .val (.ref (w i.toNatClampNeg)), .val (awv w (w i.toNatClampNeg)), .val (.int (1 : Int32)), .val (.ref (w jb.toNatClampNeg)), .val .null, .val (.ref (wrA w (w jb.toNatClampNeg))), .val (.ref (w jb.toNatClampNeg)), .unset, .unset] [])
          refine Go.of (fun _ k => XS.iconst X49.here hx rfl (hb hby at_234) k) ?_
          show Go p e below _ T49 (mkF m 235 #[.val (.int x0), .val (.int x1), .val (.int x2), .val (.ref b1), .val (.ref b18), .val (.int i), .val (.ref (w i.toNatClampNeg)), .val (awv w (w i.toNatClampNeg)), .val (.int (1 : Int32)), .val (.ref (w jb.toNatClampNeg)), .val .null, .val (.ref (wrA w (w jb.toNatClampNeg))), .val (.ref (w jb.toNatClampNeg)), .unset, .unset] [(.int (1 : Int32))])
          refine Go.of (fun _ k => XS.goto X49.here hx rfl (pc0 := 235) (pc' := 239) rfl (hb hby at_235) (by decide) (by decide) k) ?_
          show Go p e below _ T49 (mkF m 239 #[.val (.int x0), .val (.int x1), .val (.int x2), .val (.ref b1), .val (.ref b18), .val (.int i), .val (.ref (w i.toNatClampNeg)), .val (awv w (w i.toNatClampNeg)), .val (.int (1 : Int32)), .val (.ref (w jb.toNatClampNeg)), .val .null, .val (.ref (wrA w (w jb.toNatClampNeg))), .val (.ref (w jb.toNatClampNeg)), .unset, .unset] [(.int (1 : Int32))])
          refine Go.of (fun _ k => XS.istore X49.here hx rfl (hb hby at_239) rfl (l' := #[.val (.int x0), .val (.int x1), .val (.int x2), .val (.ref b1), .val (.ref b18), .val (.int i), .val (.ref (w i.toNatClampNeg)), .val (awv w (w i.toNatClampNeg)), .val (.int (1 : Int32)), .val (.ref (w jb.toNatClampNeg)), .val .null, .val (.ref (wrA w (w jb.toNatClampNeg))), .val (.ref (w jb.toNatClampNeg)), .val (.int (1 : Int32)), .unset]) rfl k) ?_
          show Go p e below _ T49 (mkF m 241 #[.val (.int x0), .val (.int x1), .val (.int x2), .val (.ref b1), .val (.ref b18), .val (.int i), .val (.ref (w i.toNatClampNeg)), .val (awv w (w i.toNatClampNeg)), .val (.int (1 : Int32)), .val (.ref (w jb.toNatClampNeg)), .val .null, .val (.ref (wrA w (w jb.toNatClampNeg))), .val (.ref (w jb.toNatClampNeg)), .val (.int (1 : Int32)), .unset] [])
          refine Go.of (fun _ k => XS.iload X49.here hx rfl (hb hby at_241) rfl k) ?_
          show Go p e below _ T49 (mkF m 243 #[.val (.int x0), .val (.int x1), .val (.int x2), .val (.ref b1), .val (.ref b18), .val (.int i), .val (.ref (w i.toNatClampNeg)), .val (awv w (w i.toNatClampNeg)), .val (.int (1 : Int32)), .val (.ref (w jb.toNatClampNeg)), .val .null, .val (.ref (wrA w (w jb.toNatClampNeg))), .val (.ref (w jb.toNatClampNeg)), .val (.int (1 : Int32)), .unset] [(.int (1 : Int32))])
          refine Go.of (fun _ k => XS.ifNo X49.here hx rfl (hb hby at_243) rfl (XT.i0_eq_f (by decide)) k) ?_
          show Go p e below _ T49 (mkF m 246 #[.val (.int x0), .val (.int x1), .val (.int x2), .val (.ref b1), .val (.ref b18), .val (.int i), .val (.ref (w i.toNatClampNeg)), .val (awv w (w i.toNatClampNeg)), .val (.int (1 : Int32)), .val (.ref (w jb.toNatClampNeg)), .val .null, .val (.ref (wrA w (w jb.toNatClampNeg))), .val (.ref (w jb.toNatClampNeg)), .val (.int (1 : Int32)), .unset] [])
          obtain ⟨T51, X51, e51, st51⟩ := getS2 X49 hx hZ hown (host := "") (Or.inl (hw _ (List.mem_of_getElem? (i := 8) rfl))) Via.refl e49 (S2.ext x28_h0) (g := (mkF m 246 #[.val (.int x0), .val (.int x1), .val (.int x2), .val (.ref b1), .val (.ref b18), .val (.int i), .val (.ref (w i.toNatClampNeg)), .val (awv w (w i.toNatClampNeg)), .val (.int (1 : Int32)), .val (.ref (w jb.toNatClampNeg)), .val .null, .val (.ref (wrA w (w jb.toNatClampNeg))), .val (.ref (w jb.toNatClampNeg)), .val (.int (1 : Int32)), .unset] [])) rfl (hb hby at_246)
          refine Go.of st51 ?_
          show Go p e below _ T51 (mkF m 249 #[.val (.int x0), .val (.int x1), .val (.int x2), .val (.ref b1), .val (.ref b18), .val (.int i), .val (.ref (w i.toNatClampNeg)), .val (awv w (w i.toNatClampNeg)), .val (.int (1 : Int32)), .val (.ref (w jb.toNatClampNeg)), .val .null, .val (.ref (wrA w (w jb.toNatClampNeg))), .val (.ref (w jb.toNatClampNeg)), .val (.int (1 : Int32)), .unset] [(.ref (w 2))])
          refine Go.of (fun _ k => XS.goto X51.here hx rfl (pc0 := 249) (pc' := 255) rfl (hb hby at_249) (by decide) (by decide) k) ?_
          show Go p e below _ T51 (mkF m 255 #[.val (.int x0), .val (.int x1), .val (.int x2), .val (.ref b1), .val (.ref b18), .val (.int i), .val (.ref (w i.toNatClampNeg)), .val (awv w (w i.toNatClampNeg)), .val (.int (1 : Int32)), .val (.ref (w jb.toNatClampNeg)), .val .null, .val (.ref (wrA w (w jb.toNatClampNeg))), .val (.ref (w jb.toNatClampNeg)), .val (.int (1 : Int32)), .unset] [(.ref (w 2))])
          refine Go.of (fun _ k => XS.astore X51.here hx rfl (hb hby at_255) rfl rfl (l' := #[.val (.int x0), .val (.int x1), .val (.int x2), .val (.ref b1), .val (.ref b18), .val (.int i), .val (.ref (w i.toNatClampNeg)), .val (awv w (w i.toNatClampNeg)), .val (.int (1 : Int32)), .val (.ref (w jb.toNatClampNeg)), .val .null, .val (.ref (wrA w (w jb.toNatClampNeg))), .val (.ref (w jb.toNatClampNeg)), .val (.int (1 : Int32)), .val (.ref (w 2))]) rfl k) ?_
          show Go p e below _ T51 (mkF m 257 #[.val (.int x0), .val (.int x1), .val (.int x2), .val (.ref b1), .val (.ref b18), .val (.int i), .val (.ref (w i.toNatClampNeg)), .val (awv w (w i.toNatClampNeg)), .val (.int (1 : Int32)), .val (.ref (w jb.toNatClampNeg)), .val .null, .val (.ref (wrA w (w jb.toNatClampNeg))), .val (.ref (w jb.toNatClampNeg)), .val (.int (1 : Int32)), .val (.ref (w 2))] [])
          refine Go.of (fun _ k => XS.iload X51.here hx rfl (hb hby at_257) rfl k) ?_
          show Go p e below _ T51 (mkF m 259 #[.val (.int x0), .val (.int x1), .val (.int x2), .val (.ref b1), .val (.ref b18), .val (.int i), .val (.ref (w i.toNatClampNeg)), .val (awv w (w i.toNatClampNeg)), .val (.int (1 : Int32)), .val (.ref (w jb.toNatClampNeg)), .val .null, .val (.ref (wrA w (w jb.toNatClampNeg))), .val (.ref (w jb.toNatClampNeg)), .val (.int (1 : Int32)), .val (.ref (w 2))] [(.int (1 : Int32))])
          refine Go.of (fun _ k => XS.ifNo X51.here hx rfl (hb hby at_259) rfl (XT.i0_eq_f (by decide)) k) ?_
          show Go p e below _ T51 (mkF m 262 #[.val (.int x0), .val (.int x1), .val (.int x2), .val (.ref b1), .val (.ref b18), .val (.int i), .val (.ref (w i.toNatClampNeg)), .val (awv w (w i.toNatClampNeg)), .val (.int (1 : Int32)), .val (.ref (w jb.toNatClampNeg)), .val .null, .val (.ref (wrA w (w jb.toNatClampNeg))), .val (.ref (w jb.toNatClampNeg)), .val (.int (1 : Int32)), .val (.ref (w 2))] [])
          refine Go.of (fun _ k => XS.aload X51.here hx rfl (hb hby at_262) rfl rfl k) ?_
          show Go p e below _ T51 (mkF m 264 #[.val (.int x0), .val (.int x1), .val (.int x2), .val (.ref b1), .val (.ref b18), .val (.int i), .val (.ref (w i.toNatClampNeg)), .val (awv w (w i.toNatClampNeg)), .val (.int (1 : Int32)), .val (.ref (w jb.toNatClampNeg)), .val .null, .val (.ref (wrA w (w jb.toNatClampNeg))), .val (.ref (w jb.toNatClampNeg)), .val (.int (1 : Int32)), .val (.ref (w 2))] [(.ref (wrA w (w jb.toNatClampNeg)))])
          refine Go.of (fun _ k => XS.ifnullNo X51.here hx rfl (hb hby at_264) rfl k) ?_
          show Go p e below _ T51 (mkF m 267 #[.val (.int x0), .val (.int x1), .val (.int x2), .val (.ref b1), .val (.ref b18), .val (.int i), .val (.ref (w i.toNatClampNeg)), .val (awv w (w i.toNatClampNeg)), .val (.int (1 : Int32)), .val (.ref (w jb.toNatClampNeg)), .val .null, .val (.ref (wrA w (w jb.toNatClampNeg))), .val (.ref (w jb.toNatClampNeg)), .val (.int (1 : Int32)), .val (.ref (w 2))] [])
          refine Go.of (fun _ k => XS.aload X51.here hx rfl (hb hby at_267) rfl rfl k) ?_
          show Go p e below _ T51 (mkF m 269 #[.val (.int x0), .val (.int x1), .val (.int x2), .val (.ref b1), .val (.ref b18), .val (.int i), .val (.ref (w i.toNatClampNeg)), .val (awv w (w i.toNatClampNeg)), .val (.int (1 : Int32)), .val (.ref (w jb.toNatClampNeg)), .val .null, .val (.ref (wrA w (w jb.toNatClampNeg))), .val (.ref (w jb.toNatClampNeg)), .val (.int (1 : Int32)), .val (.ref (w 2))] [(.ref (wrA w (w jb.toNatClampNeg)))])
          obtain ⟨T52, X52, e52, st52⟩ := own_pure rfl rfl (own_callVQ X51 hx hZ (y := (⟨"com/example/unfussy_switchboard/unfussyswitchboard/model/AgentState", "afterWrapUp", "()Lcom/example/unfussy_switchboard/unfussyswitchboard/model/AgentState;"⟩ : MethodName)) hown (hw _ (List.mem_of_getElem? (i := 20) rfl)) (hw _ (List.mem_of_getElem? (i := 21) rfl)) (hw _ (List.mem_of_getElem? (i := 23) rfl)) (hw _ (List.mem_of_getElem? (i := 23) rfl)) (hw _ (List.mem_of_getElem? (i := 22) rfl)) (hw _ (List.mem_of_getElem? (i := 24) rfl)) (hw _ (List.mem_of_getElem? (i := 3) rfl)) (by decide) (c1 l Z a0 hw w h28 (D.ext x28_h0) (wrA w (w jb.toNatClampNeg)) (.ref (w 2)) ((congrArg (awv w) ((if_neg hc223_46).trans (if_pos hc231_50))).trans (awv7 hI))) (by decide) 0 (by decide) (by decide) (by decide) e51 (wrA_exa (fun i hi => (Ex i hi).ext x28_h0) _) (g := (mkF m 269 #[.val (.int x0), .val (.int x1), .val (.int x2), .val (.ref b1), .val (.ref b18), .val (.int i), .val (.ref (w i.toNatClampNeg)), .val (awv w (w i.toNatClampNeg)), .val (.int (1 : Int32)), .val (.ref (w jb.toNatClampNeg)), .val .null, .val (.ref (wrA w (w jb.toNatClampNeg))), .val (.ref (w jb.toNatClampNeg)), .val (.int (1 : Int32)), .val (.ref (w 2))] [(.ref (wrA w (w jb.toNatClampNeg)))])) rfl (by rw [hml]; rfl) [] [] (lenOf (by decide +kernel : parseMethodDescriptor "()Lcom/example/unfussy_switchboard/unfussyswitchboard/model/AgentState;" = some ⟨[], some (.object "com/example/unfussy_switchboard/unfussyswitchboard/model/AgentState")⟩) rfl) rfl (by show 2 * 0 + _ ≤ _; exact Nat.le_of_eq rfl) rfl (hb hby at_269))
          refine Go.of st52 ?_
          show Go p e below _ T52 (mkF m 272 #[.val (.int x0), .val (.int x1), .val (.int x2), .val (.ref b1), .val (.ref b18), .val (.int i), .val (.ref (w i.toNatClampNeg)), .val (awv w (w i.toNatClampNeg)), .val (.int (1 : Int32)), .val (.ref (w jb.toNatClampNeg)), .val .null, .val (.ref (wrA w (w jb.toNatClampNeg))), .val (.ref (w jb.toNatClampNeg)), .val (.int (1 : Int32)), .val (.ref (w 2))] [(.ref (w 2))])
          refine Go.of (fun _ k => XS.aload X52.here hx rfl (hb hby at_272) rfl rfl k) ?_
          show Go p e below _ T52 (mkF m 274 #[.val (.int x0), .val (.int x1), .val (.int x2), .val (.ref b1), .val (.ref b18), .val (.int i), .val (.ref (w i.toNatClampNeg)), .val (awv w (w i.toNatClampNeg)), .val (.int (1 : Int32)), .val (.ref (w jb.toNatClampNeg)), .val .null, .val (.ref (wrA w (w jb.toNatClampNeg))), .val (.ref (w jb.toNatClampNeg)), .val (.int (1 : Int32)), .val (.ref (w 2))] [(.ref (w 2)), (.ref (w 2))])
          refine Go.of (fun _ k => XT.acmpNo X52.here hx rfl (hb hby at_274) rfl rfl rfl (XT.aa_ne_f rfl) k) ?_
          show Go p e below _ T52 (mkF m 277 #[.val (.int x0), .val (.int x1), .val (.int x2), .val (.ref b1), .val (.ref b18), .val (.int i), .val (.ref (w i.toNatClampNeg)), .val (awv w (w i.toNatClampNeg)), .val (.int (1 : Int32)), .val (.ref (w jb.toNatClampNeg)), .val .null, .val (.ref (wrA w (w jb.toNatClampNeg))), .val (.ref (w jb.toNatClampNeg)), .val (.int (1 : Int32)), .val (.ref (w 2))] [])
          refine Go.of (fun _ k => XS.iconst X52.here hx rfl (hb hby at_277) k) ?_
          show Go p e below _ T52 (mkF m 278 #[.val (.int x0), .val (.int x1), .val (.int x2), .val (.ref b1), .val (.ref b18), .val (.int i), .val (.ref (w i.toNatClampNeg)), .val (awv w (w i.toNatClampNeg)), .val (.int (1 : Int32)), .val (.ref (w jb.toNatClampNeg)), .val .null, .val (.ref (wrA w (w jb.toNatClampNeg))), .val (.ref (w jb.toNatClampNeg)), .val (.int (1 : Int32)), .val (.ref (w 2))] [(.int (1 : Int32))])
          refine Go.of (fun _ k => XS.goto X52.here hx rfl (pc0 := 278) (pc' := 282) rfl (hb hby at_278) (by decide) (by decide) k) ?_
          show Go p e below _ T52 (mkF m 282 #[.val (.int x0), .val (.int x1), .val (.int x2), .val (.ref b1), .val (.ref b18), .val (.int i), .val (.ref (w i.toNatClampNeg)), .val (awv w (w i.toNatClampNeg)), .val (.int (1 : Int32)), .val (.ref (w jb.toNatClampNeg)), .val .null, .val (.ref (wrA w (w jb.toNatClampNeg))), .val (.ref (w jb.toNatClampNeg)), .val (.int (1 : Int32)), .val (.ref (w 2))] [(.int (1 : Int32))])
          refine Go.of (fun _ k => XS.istore X52.here hx rfl (hb hby at_282) rfl (l' := #[.val (.int x0), .val (.int x1), .val (.int x2), .val (.ref b1), .val (.ref b18), .val (.int i), .val (.ref (w i.toNatClampNeg)), .val (awv w (w i.toNatClampNeg)), .val (.int (1 : Int32)), .val (.ref (w jb.toNatClampNeg)), .val .null, .val (.ref (wrA w (w jb.toNatClampNeg))), .val (.ref (w jb.toNatClampNeg)), .val (.int (1 : Int32)), .val (.ref (w 2))]) rfl k) ?_
          show Go p e below _ T52 (mkF m 284 #[.val (.int x0), .val (.int x1), .val (.int x2), .val (.ref b1), .val (.ref b18), .val (.int i), .val (.ref (w i.toNatClampNeg)), .val (awv w (w i.toNatClampNeg)), .val (.int (1 : Int32)), .val (.ref (w jb.toNatClampNeg)), .val .null, .val (.ref (wrA w (w jb.toNatClampNeg))), .val (.ref (w jb.toNatClampNeg)), .val (.int (1 : Int32)), .val (.ref (w 2))] [])
          refine Go.of (fun _ k => XS.iload X52.here hx rfl (hb hby at_284) rfl k) ?_
          show Go p e below _ T52 (mkF m 286 #[.val (.int x0), .val (.int x1), .val (.int x2), .val (.ref b1), .val (.ref b18), .val (.int i), .val (.ref (w i.toNatClampNeg)), .val (awv w (w i.toNatClampNeg)), .val (.int (1 : Int32)), .val (.ref (w jb.toNatClampNeg)), .val .null, .val (.ref (wrA w (w jb.toNatClampNeg))), .val (.ref (w jb.toNatClampNeg)), .val (.int (1 : Int32)), .val (.ref (w 2))] [(.int (1 : Int32))])
          exact own_retZ (z' := (1 : Int32)) X52 hx hlk hret (hb hby at_286) rfl ⟨rfl, N28⟩ (by decide) (by decide)
        ·
          refine Go.of (fun _ k => XT.acmpYes X49.here hx rfl (pc0 := 231) (pc' := 238) rfl (hb hby at_231) rfl rfl rfl (XT.aa_ne_t (fun q => hc231_50 (Value.ref.inj q))) (by decide) (by decide) k) ?_
          show Go p e below _ T49 (mkF m 238 #[.val (.int x0), .val (.int x1), .val (.int x2), .val (.ref b1), .val (.ref b18), .val (.int i), .val (.ref (w i.toNatClampNeg)), .val (awv w (w i.toNatClampNeg)), .val (.int (1 : Int32)), .val (.ref (w jb.toNatClampNeg)), .val .null, .val (.ref (wrA w (w jb.toNatClampNeg))), .val (.ref (w jb.toNatClampNeg)), .unset, .unset] [])
          refine Go.of (fun _ k => XS.iconst X49.here hx rfl (hb hby at_238) k) ?_
          show Go p e below _ T49 (mkF m 239 #[.val (.int x0), .val (.int x1), .val (.int x2), .val (.ref b1), .val (.ref b18), .val (.int i), .val (.ref (w i.toNatClampNeg)), .val (awv w (w i.toNatClampNeg)), .val (.int (1 : Int32)), .val (.ref (w jb.toNatClampNeg)), .val .null, .val (.ref (wrA w (w jb.toNatClampNeg))), .val (.ref (w jb.toNatClampNeg)), .unset, .unset] [(.int (0 : Int32))])
          refine Go.of (fun _ k => XS.istore X49.here hx rfl (hb hby at_239) rfl (l' := #[.val (.int x0), .val (.int x1), .val (.int x2), .val (.ref b1), .val (.ref b18), .val (.int i), .val (.ref (w i.toNatClampNeg)), .val (awv w (w i.toNatClampNeg)), .val (.int (1 : Int32)), .val (.ref (w jb.toNatClampNeg)), .val .null, .val (.ref (wrA w (w jb.toNatClampNeg))), .val (.ref (w jb.toNatClampNeg)), .val (.int (0 : Int32)), .unset]) rfl k) ?_
          show Go p e below _ T49 (mkF m 241 #[.val (.int x0), .val (.int x1), .val (.int x2), .val (.ref b1), .val (.ref b18), .val (.int i), .val (.ref (w i.toNatClampNeg)), .val (awv w (w i.toNatClampNeg)), .val (.int (1 : Int32)), .val (.ref (w jb.toNatClampNeg)), .val .null, .val (.ref (wrA w (w jb.toNatClampNeg))), .val (.ref (w jb.toNatClampNeg)), .val (.int (0 : Int32)), .unset] [])
          refine Go.of (fun _ k => XS.iload X49.here hx rfl (hb hby at_241) rfl k) ?_
          show Go p e below _ T49 (mkF m 243 #[.val (.int x0), .val (.int x1), .val (.int x2), .val (.ref b1), .val (.ref b18), .val (.int i), .val (.ref (w i.toNatClampNeg)), .val (awv w (w i.toNatClampNeg)), .val (.int (1 : Int32)), .val (.ref (w jb.toNatClampNeg)), .val .null, .val (.ref (wrA w (w jb.toNatClampNeg))), .val (.ref (w jb.toNatClampNeg)), .val (.int (0 : Int32)), .unset] [(.int (0 : Int32))])
          refine Go.of (fun _ k => XS.ifYes X49.here hx rfl (pc0 := 243) (pc' := 252) rfl (hb hby at_243) rfl (XT.i0_eq_t (by decide)) (by decide) (by decide) k) ?_
          show Go p e below _ T49 (mkF m 252 #[.val (.int x0), .val (.int x1), .val (.int x2), .val (.ref b1), .val (.ref b18), .val (.int i), .val (.ref (w i.toNatClampNeg)), .val (awv w (w i.toNatClampNeg)), .val (.int (1 : Int32)), .val (.ref (w jb.toNatClampNeg)), .val .null, .val (.ref (wrA w (w jb.toNatClampNeg))), .val (.ref (w jb.toNatClampNeg)), .val (.int (0 : Int32)), .unset] [])
          obtain ⟨T53, X53, e53, st53⟩ := getS2 X49 hx hZ hown (host := "") (Or.inl (hw _ (List.mem_of_getElem? (i := 6) rfl))) Via.refl e49 (S1.ext x28_h0) (g := (mkF m 252 #[.val (.int x0), .val (.int x1), .val (.int x2), .val (.ref b1), .val (.ref b18), .val (.int i), .val (.ref (w i.toNatClampNeg)), .val (awv w (w i.toNatClampNeg)), .val (.int (1 : Int32)), .val (.ref (w jb.toNatClampNeg)), .val .null, .val (.ref (wrA w (w jb.toNatClampNeg))), .val (.ref (w jb.toNatClampNeg)), .val (.int (0 : Int32)), .unset] [])) rfl (hb hby at_252)
          refine Go.of st53 ?_
          show Go p e below _ T53 (mkF m 255 #[.val (.int x0), .val (.int x1), .val (.int x2), .val (.ref b1), .val (.ref b18), .val (.int i), .val (.ref (w i.toNatClampNeg)), .val (awv w (w i.toNatClampNeg)), .val (.int (1 : Int32)), .val (.ref (w jb.toNatClampNeg)), .val .null, .val (.ref (wrA w (w jb.toNatClampNeg))), .val (.ref (w jb.toNatClampNeg)), .val (.int (0 : Int32)), .unset] [(.ref (w 1))])
          refine Go.of (fun _ k => XS.astore X53.here hx rfl (hb hby at_255) rfl rfl (l' := #[.val (.int x0), .val (.int x1), .val (.int x2), .val (.ref b1), .val (.ref b18), .val (.int i), .val (.ref (w i.toNatClampNeg)), .val (awv w (w i.toNatClampNeg)), .val (.int (1 : Int32)), .val (.ref (w jb.toNatClampNeg)), .val .null, .val (.ref (wrA w (w jb.toNatClampNeg))), .val (.ref (w jb.toNatClampNeg)), .val (.int (0 : Int32)), .val (.ref (w 1))]) rfl k) ?_
          show Go p e below _ T53 (mkF m 257 #[.val (.int x0), .val (.int x1), .val (.int x2), .val (.ref b1), .val (.ref b18), .val (.int i), .val (.ref (w i.toNatClampNeg)), .val (awv w (w i.toNatClampNeg)), .val (.int (1 : Int32)), .val (.ref (w jb.toNatClampNeg)), .val .null, .val (.ref (wrA w (w jb.toNatClampNeg))), .val (.ref (w jb.toNatClampNeg)), .val (.int (0 : Int32)), .val (.ref (w 1))] [])
          refine Go.of (fun _ k => XS.iload X53.here hx rfl (hb hby at_257) rfl k) ?_
          show Go p e below _ T53 (mkF m 259 #[.val (.int x0), .val (.int x1), .val (.int x2), .val (.ref b1), .val (.ref b18), .val (.int i), .val (.ref (w i.toNatClampNeg)), .val (awv w (w i.toNatClampNeg)), .val (.int (1 : Int32)), .val (.ref (w jb.toNatClampNeg)), .val .null, .val (.ref (wrA w (w jb.toNatClampNeg))), .val (.ref (w jb.toNatClampNeg)), .val (.int (0 : Int32)), .val (.ref (w 1))] [(.int (1 : Int32))])
          refine Go.of (fun _ k => XS.ifNo X53.here hx rfl (hb hby at_259) rfl (XT.i0_eq_f (by decide)) k) ?_
          show Go p e below _ T53 (mkF m 262 #[.val (.int x0), .val (.int x1), .val (.int x2), .val (.ref b1), .val (.ref b18), .val (.int i), .val (.ref (w i.toNatClampNeg)), .val (awv w (w i.toNatClampNeg)), .val (.int (1 : Int32)), .val (.ref (w jb.toNatClampNeg)), .val .null, .val (.ref (wrA w (w jb.toNatClampNeg))), .val (.ref (w jb.toNatClampNeg)), .val (.int (0 : Int32)), .val (.ref (w 1))] [])
          refine Go.of (fun _ k => XS.aload X53.here hx rfl (hb hby at_262) rfl rfl k) ?_
          show Go p e below _ T53 (mkF m 264 #[.val (.int x0), .val (.int x1), .val (.int x2), .val (.ref b1), .val (.ref b18), .val (.int i), .val (.ref (w i.toNatClampNeg)), .val (awv w (w i.toNatClampNeg)), .val (.int (1 : Int32)), .val (.ref (w jb.toNatClampNeg)), .val .null, .val (.ref (wrA w (w jb.toNatClampNeg))), .val (.ref (w jb.toNatClampNeg)), .val (.int (0 : Int32)), .val (.ref (w 1))] [(.ref (wrA w (w jb.toNatClampNeg)))])
          refine Go.of (fun _ k => XS.ifnullNo X53.here hx rfl (hb hby at_264) rfl k) ?_
          show Go p e below _ T53 (mkF m 267 #[.val (.int x0), .val (.int x1), .val (.int x2), .val (.ref b1), .val (.ref b18), .val (.int i), .val (.ref (w i.toNatClampNeg)), .val (awv w (w i.toNatClampNeg)), .val (.int (1 : Int32)), .val (.ref (w jb.toNatClampNeg)), .val .null, .val (.ref (wrA w (w jb.toNatClampNeg))), .val (.ref (w jb.toNatClampNeg)), .val (.int (0 : Int32)), .val (.ref (w 1))] [])
          refine Go.of (fun _ k => XS.aload X53.here hx rfl (hb hby at_267) rfl rfl k) ?_
          show Go p e below _ T53 (mkF m 269 #[.val (.int x0), .val (.int x1), .val (.int x2), .val (.ref b1), .val (.ref b18), .val (.int i), .val (.ref (w i.toNatClampNeg)), .val (awv w (w i.toNatClampNeg)), .val (.int (1 : Int32)), .val (.ref (w jb.toNatClampNeg)), .val .null, .val (.ref (wrA w (w jb.toNatClampNeg))), .val (.ref (w jb.toNatClampNeg)), .val (.int (0 : Int32)), .val (.ref (w 1))] [(.ref (wrA w (w jb.toNatClampNeg)))])
          obtain ⟨T54, X54, e54, st54⟩ := own_pure rfl rfl (own_callVQ X53 hx hZ (y := (⟨"com/example/unfussy_switchboard/unfussyswitchboard/model/AgentState", "afterWrapUp", "()Lcom/example/unfussy_switchboard/unfussyswitchboard/model/AgentState;"⟩ : MethodName)) hown (hw _ (List.mem_of_getElem? (i := 20) rfl)) (hw _ (List.mem_of_getElem? (i := 21) rfl)) (hw _ (List.mem_of_getElem? (i := 23) rfl)) (hw _ (List.mem_of_getElem? (i := 23) rfl)) (hw _ (List.mem_of_getElem? (i := 22) rfl)) (hw _ (List.mem_of_getElem? (i := 24) rfl)) (hw _ (List.mem_of_getElem? (i := 3) rfl)) (by decide) (c1 l Z a0 hw w h28 (D.ext x28_h0) (wrA w (w jb.toNatClampNeg)) (.ref (w 1)) ((congrArg (awv w) ((if_neg hc223_46).trans (if_neg hc231_50))).trans (awv6 w))) (by decide) 0 (by decide) (by decide) (by decide) e53 (wrA_exa (fun i hi => (Ex i hi).ext x28_h0) _) (g := (mkF m 269 #[.val (.int x0), .val (.int x1), .val (.int x2), .val (.ref b1), .val (.ref b18), .val (.int i), .val (.ref (w i.toNatClampNeg)), .val (awv w (w i.toNatClampNeg)), .val (.int (1 : Int32)), .val (.ref (w jb.toNatClampNeg)), .val .null, .val (.ref (wrA w (w jb.toNatClampNeg))), .val (.ref (w jb.toNatClampNeg)), .val (.int (0 : Int32)), .val (.ref (w 1))] [(.ref (wrA w (w jb.toNatClampNeg)))])) rfl (by rw [hml]; rfl) [] [] (lenOf (by decide +kernel : parseMethodDescriptor "()Lcom/example/unfussy_switchboard/unfussyswitchboard/model/AgentState;" = some ⟨[], some (.object "com/example/unfussy_switchboard/unfussyswitchboard/model/AgentState")⟩) rfl) rfl (by show 2 * 0 + _ ≤ _; exact Nat.le_of_eq rfl) rfl (hb hby at_269))
          refine Go.of st54 ?_
          show Go p e below _ T54 (mkF m 272 #[.val (.int x0), .val (.int x1), .val (.int x2), .val (.ref b1), .val (.ref b18), .val (.int i), .val (.ref (w i.toNatClampNeg)), .val (awv w (w i.toNatClampNeg)), .val (.int (1 : Int32)), .val (.ref (w jb.toNatClampNeg)), .val .null, .val (.ref (wrA w (w jb.toNatClampNeg))), .val (.ref (w jb.toNatClampNeg)), .val (.int (0 : Int32)), .val (.ref (w 1))] [(.ref (w 1))])
          refine Go.of (fun _ k => XS.aload X54.here hx rfl (hb hby at_272) rfl rfl k) ?_
          show Go p e below _ T54 (mkF m 274 #[.val (.int x0), .val (.int x1), .val (.int x2), .val (.ref b1), .val (.ref b18), .val (.int i), .val (.ref (w i.toNatClampNeg)), .val (awv w (w i.toNatClampNeg)), .val (.int (1 : Int32)), .val (.ref (w jb.toNatClampNeg)), .val .null, .val (.ref (wrA w (w jb.toNatClampNeg))), .val (.ref (w jb.toNatClampNeg)), .val (.int (0 : Int32)), .val (.ref (w 1))] [(.ref (w 1)), (.ref (w 1))])
          refine Go.of (fun _ k => XT.acmpNo X54.here hx rfl (hb hby at_274) rfl rfl rfl (XT.aa_ne_f rfl) k) ?_
          show Go p e below _ T54 (mkF m 277 #[.val (.int x0), .val (.int x1), .val (.int x2), .val (.ref b1), .val (.ref b18), .val (.int i), .val (.ref (w i.toNatClampNeg)), .val (awv w (w i.toNatClampNeg)), .val (.int (1 : Int32)), .val (.ref (w jb.toNatClampNeg)), .val .null, .val (.ref (wrA w (w jb.toNatClampNeg))), .val (.ref (w jb.toNatClampNeg)), .val (.int (0 : Int32)), .val (.ref (w 1))] [])
          refine Go.of (fun _ k => XS.iconst X54.here hx rfl (hb hby at_277) k) ?_
          show Go p e below _ T54 (mkF m 278 #[.val (.int x0), .val (.int x1), .val (.int x2), .val (.ref b1), .val (.ref b18), .val (.int i), .val (.ref (w i.toNatClampNeg)), .val (awv w (w i.toNatClampNeg)), .val (.int (1 : Int32)), .val (.ref (w jb.toNatClampNeg)), .val .null, .val (.ref (wrA w (w jb.toNatClampNeg))), .val (.ref (w jb.toNatClampNeg)), .val (.int (0 : Int32)), .val (.ref (w 1))] [(.int (1 : Int32))])
          refine Go.of (fun _ k => XS.goto X54.here hx rfl (pc0 := 278) (pc' := 282) rfl (hb hby at_278) (by decide) (by decide) k) ?_
          show Go p e below _ T54 (mkF m 282 #[.val (.int x0), .val (.int x1), .val (.int x2), .val (.ref b1), .val (.ref b18), .val (.int i), .val (.ref (w i.toNatClampNeg)), .val (awv w (w i.toNatClampNeg)), .val (.int (1 : Int32)), .val (.ref (w jb.toNatClampNeg)), .val .null, .val (.ref (wrA w (w jb.toNatClampNeg))), .val (.ref (w jb.toNatClampNeg)), .val (.int (0 : Int32)), .val (.ref (w 1))] [(.int (1 : Int32))])
          refine Go.of (fun _ k => XS.istore X54.here hx rfl (hb hby at_282) rfl (l' := #[.val (.int x0), .val (.int x1), .val (.int x2), .val (.ref b1), .val (.ref b18), .val (.int i), .val (.ref (w i.toNatClampNeg)), .val (awv w (w i.toNatClampNeg)), .val (.int (1 : Int32)), .val (.ref (w jb.toNatClampNeg)), .val .null, .val (.ref (wrA w (w jb.toNatClampNeg))), .val (.ref (w jb.toNatClampNeg)), .val (.int (0 : Int32)), .val (.ref (w 1))]) rfl k) ?_
          show Go p e below _ T54 (mkF m 284 #[.val (.int x0), .val (.int x1), .val (.int x2), .val (.ref b1), .val (.ref b18), .val (.int i), .val (.ref (w i.toNatClampNeg)), .val (awv w (w i.toNatClampNeg)), .val (.int (1 : Int32)), .val (.ref (w jb.toNatClampNeg)), .val .null, .val (.ref (wrA w (w jb.toNatClampNeg))), .val (.ref (w jb.toNatClampNeg)), .val (.int (0 : Int32)), .val (.ref (w 1))] [])
          refine Go.of (fun _ k => XS.iload X54.here hx rfl (hb hby at_284) rfl k) ?_
          show Go p e below _ T54 (mkF m 286 #[.val (.int x0), .val (.int x1), .val (.int x2), .val (.ref b1), .val (.ref b18), .val (.int i), .val (.ref (w i.toNatClampNeg)), .val (awv w (w i.toNatClampNeg)), .val (.int (1 : Int32)), .val (.ref (w jb.toNatClampNeg)), .val .null, .val (.ref (wrA w (w jb.toNatClampNeg))), .val (.ref (w jb.toNatClampNeg)), .val (.int (0 : Int32)), .val (.ref (w 1))] [(.int (1 : Int32))])
          exact own_retZ (z' := (1 : Int32)) X54 hx hlk hret (hb hby at_286) rfl ⟨rfl, N28⟩ (by decide) (by decide)
  refine Go.of (fun _ k => XS.aload X29.here hx rfl (hb hby at_142) rfl (awv_ref w _) k) ?_
  show Go p e below _ T29 (mkF m 144 #[.val (.int x0), .val (.int x1), .val (.int x2), .val (.ref b1), .val (.ref b18), .val (.int i), .val (.ref (w i.toNatClampNeg)), .val (awv w (w i.toNatClampNeg)), .val (.int (1 : Int32)), .unset, .unset, .unset, .unset, .unset, .unset] [(awv w (w i.toNatClampNeg))])
  by_cases hc144_55 : (awv w (w i.toNatClampNeg)) = .null
  ·
    refine Go.of (fun _ k => XT.nullYes X29.here hx rfl (pc0 := 144) (pc' := 151) rfl (hb hby at_144) rfl hc144_55 (by decide) (by decide) k) ?_
    show Go p e below _ T29 (mkF m 151 #[.val (.int x0), .val (.int x1), .val (.int x2), .val (.ref b1), .val (.ref b18), .val (.int i), .val (.ref (w i.toNatClampNeg)), .val (awv w (w i.toNatClampNeg)), .val (.int (1 : Int32)), .unset, .unset, .unset, .unset, .unset, .unset] [])
    refine Go.of (fun _ k => XS.iconst X29.here hx rfl (hb hby at_151) k) ?_
    show Go p e below _ T29 (mkF m 152 #[.val (.int x0), .val (.int x1), .val (.int x2), .val (.ref b1), .val (.ref b18), .val (.int i), .val (.ref (w i.toNatClampNeg)), .val (awv w (w i.toNatClampNeg)), .val (.int (1 : Int32)), .unset, .unset, .unset, .unset, .unset, .unset] [(.int (0 : Int32))])
    refine Go.of (fun _ k => XS.aload X29.here hx rfl (hb hby at_152) rfl rfl k) ?_
    show Go p e below _ T29 (mkF m 154 #[.val (.int x0), .val (.int x1), .val (.int x2), .val (.ref b1), .val (.ref b18), .val (.int i), .val (.ref (w i.toNatClampNeg)), .val (awv w (w i.toNatClampNeg)), .val (.int (1 : Int32)), .unset, .unset, .unset, .unset, .unset, .unset] [(.ref (w i.toNatClampNeg)), (.int (0 : Int32))])
    obtain ⟨T56, X56, e56, st56⟩ := own_pure rfl rfl (own_callVQ X29 hx hZ (y := (⟨"com/example/unfussy_switchboard/unfussyswitchboard/model/AgentState", "isWrappingUp", "()Z"⟩ : MethodName)) hown (hw _ (List.mem_of_getElem? (i := 27) rfl)) (hw _ (List.mem_of_getElem? (i := 28) rfl)) (hw _ (List.mem_of_getElem? (i := 30) rfl)) (hw _ (List.mem_of_getElem? (i := 30) rfl)) (hw _ (List.mem_of_getElem? (i := 29) rfl)) (hw _ (List.mem_of_getElem? (i := 31) rfl)) (hw _ (List.mem_of_getElem? (i := 3) rfl)) (by decide) (c2 l Z a0 hw w h28 (D.ext x28_h0) (w i.toNatClampNeg) (0 : Int32) ((wru_eq w _).trans (if_pos hc144_55))) (by decide) 1 (by decide) (by decide) (by decide) e29 ((Ex _ (own_nn Ri).2).ext x28_h0) (g := (mkF m 154 #[.val (.int x0), .val (.int x1), .val (.int x2), .val (.ref b1), .val (.ref b18), .val (.int i), .val (.ref (w i.toNatClampNeg)), .val (awv w (w i.toNatClampNeg)), .val (.int (1 : Int32)), .unset, .unset, .unset, .unset, .unset, .unset] [(.ref (w i.toNatClampNeg)), (.int (0 : Int32))])) rfl (by rw [hml]; rfl) [] [(.int (0 : Int32))] (lenOf (by decide +kernel : parseMethodDescriptor "()Z" = some ⟨[], some .boolean⟩) rfl) rfl (by show 2 * 0 + _ ≤ _; exact Nat.le_of_eq rfl) rfl (hb hby at_154))
    refine Go.of st56 ?_
    show Go p e below _ T56 (mkF m 157 #[.val (.int x0), .val (.int x1), .val (.int x2), .val (.ref b1), .val (.ref b18), .val (.int i), .val (.ref (w i.toNatClampNeg)), .val (awv w (w i.toNatClampNeg)), .val (.int (1 : Int32)), .unset, .unset, .unset, .unset, .unset, .unset] [(.int (0 : Int32)), (.int (0 : Int32))])
    refine Go.of (fun _ k => XS.icmpNo X56.here hx rfl (hb hby at_157) rfl (XT.ii_ne_f (by decide)) k) ?_
    show Go p e below _ T56 (mkF m 160 #[.val (.int x0), .val (.int x1), .val (.int x2), .val (.ref b1), .val (.ref b18), .val (.int i), .val (.ref (w i.toNatClampNeg)), .val (awv w (w i.toNatClampNeg)), .val (.int (1 : Int32)), .unset, .unset, .unset, .unset, .unset, .unset] [])
    refine Go.of (fun _ k => XS.iconst X56.here hx rfl (hb hby at_160) k) ?_
    show Go p e below _ T56 (mkF m 161 #[.val (.int x0), .val (.int x1), .val (.int x2), .val (.ref b1), .val (.ref b18), .val (.int i), .val (.ref (w i.toNatClampNeg)), .val (awv w (w i.toNatClampNeg)), .val (.int (1 : Int32)), .unset, .unset, .unset, .unset, .unset, .unset] [(.int (1 : Int32))])
    refine Go.of (fun _ k => XS.goto X56.here hx rfl (pc0 := 161) (pc' := 165) rfl (hb hby at_161) (by decide) (by decide) k) ?_
    show Go p e below _ T56 (mkF m 165 #[.val (.int x0), .val (.int x1), .val (.int x2), .val (.ref b1), .val (.ref b18), .val (.int i), .val (.ref (w i.toNatClampNeg)), .val (awv w (w i.toNatClampNeg)), .val (.int (1 : Int32)), .unset, .unset, .unset, .unset, .unset, .unset] [(.int (1 : Int32))])
    exact J31 _ (Same.mk X56) e56
  ·
    refine Go.of (fun _ k => XT.nullNo X29.here hx rfl (hb hby at_144) rfl (awv_ref w _) hc144_55 k) ?_
    show Go p e below _ T29 (mkF m 147 #[.val (.int x0), .val (.int x1), .val (.int x2), .val (.ref b1), .val (.ref b18), .val (.int i), .val (.ref (w i.toNatClampNeg)), .val (awv w (w i.toNatClampNeg)), .val (.int (1 : Int32)), .unset, .unset, .unset, .unset, .unset, .unset] [])
    refine Go.of (fun _ k => XS.iconst X29.here hx rfl (hb hby at_147) k) ?_
    show Go p e below _ T29 (mkF m 148 #[.val (.int x0), .val (.int x1), .val (.int x2), .val (.ref b1), .val (.ref b18), .val (.int i), .val (.ref (w i.toNatClampNeg)), .val (awv w (w i.toNatClampNeg)), .val (.int (1 : Int32)), .unset, .unset, .unset, .unset, .unset, .unset] [(.int (1 : Int32))])
    refine Go.of (fun _ k => XS.goto X29.here hx rfl (pc0 := 148) (pc' := 152) rfl (hb hby at_148) (by decide) (by decide) k) ?_
    show Go p e below _ T29 (mkF m 152 #[.val (.int x0), .val (.int x1), .val (.int x2), .val (.ref b1), .val (.ref b18), .val (.int i), .val (.ref (w i.toNatClampNeg)), .val (awv w (w i.toNatClampNeg)), .val (.int (1 : Int32)), .unset, .unset, .unset, .unset, .unset, .unset] [(.int (1 : Int32))])
    refine Go.of (fun _ k => XS.aload X29.here hx rfl (hb hby at_152) rfl rfl k) ?_
    show Go p e below _ T29 (mkF m 154 #[.val (.int x0), .val (.int x1), .val (.int x2), .val (.ref b1), .val (.ref b18), .val (.int i), .val (.ref (w i.toNatClampNeg)), .val (awv w (w i.toNatClampNeg)), .val (.int (1 : Int32)), .unset, .unset, .unset, .unset, .unset, .unset] [(.ref (w i.toNatClampNeg)), (.int (1 : Int32))])
    obtain ⟨T57, X57, e57, st57⟩ := own_pure rfl rfl (own_callVQ X29 hx hZ (y := (⟨"com/example/unfussy_switchboard/unfussyswitchboard/model/AgentState", "isWrappingUp", "()Z"⟩ : MethodName)) hown (hw _ (List.mem_of_getElem? (i := 27) rfl)) (hw _ (List.mem_of_getElem? (i := 28) rfl)) (hw _ (List.mem_of_getElem? (i := 30) rfl)) (hw _ (List.mem_of_getElem? (i := 30) rfl)) (hw _ (List.mem_of_getElem? (i := 29) rfl)) (hw _ (List.mem_of_getElem? (i := 31) rfl)) (hw _ (List.mem_of_getElem? (i := 3) rfl)) (by decide) (c2 l Z a0 hw w h28 (D.ext x28_h0) (w i.toNatClampNeg) (1 : Int32) ((wru_eq w _).trans (if_neg hc144_55))) (by decide) 1 (by decide) (by decide) (by decide) e29 ((Ex _ (own_nn Ri).2).ext x28_h0) (g := (mkF m 154 #[.val (.int x0), .val (.int x1), .val (.int x2), .val (.ref b1), .val (.ref b18), .val (.int i), .val (.ref (w i.toNatClampNeg)), .val (awv w (w i.toNatClampNeg)), .val (.int (1 : Int32)), .unset, .unset, .unset, .unset, .unset, .unset] [(.ref (w i.toNatClampNeg)), (.int (1 : Int32))])) rfl (by rw [hml]; rfl) [] [(.int (1 : Int32))] (lenOf (by decide +kernel : parseMethodDescriptor "()Z" = some ⟨[], some .boolean⟩) rfl) rfl (by show 2 * 0 + _ ≤ _; exact Nat.le_of_eq rfl) rfl (hb hby at_154))
    refine Go.of st57 ?_
    show Go p e below _ T57 (mkF m 157 #[.val (.int x0), .val (.int x1), .val (.int x2), .val (.ref b1), .val (.ref b18), .val (.int i), .val (.ref (w i.toNatClampNeg)), .val (awv w (w i.toNatClampNeg)), .val (.int (1 : Int32)), .unset, .unset, .unset, .unset, .unset, .unset] [(.int (1 : Int32)), (.int (1 : Int32))])
    refine Go.of (fun _ k => XS.icmpNo X57.here hx rfl (hb hby at_157) rfl (XT.ii_ne_f (by decide)) k) ?_
    show Go p e below _ T57 (mkF m 160 #[.val (.int x0), .val (.int x1), .val (.int x2), .val (.ref b1), .val (.ref b18), .val (.int i), .val (.ref (w i.toNatClampNeg)), .val (awv w (w i.toNatClampNeg)), .val (.int (1 : Int32)), .unset, .unset, .unset, .unset, .unset, .unset] [])
    refine Go.of (fun _ k => XS.iconst X57.here hx rfl (hb hby at_160) k) ?_
    show Go p e below _ T57 (mkF m 161 #[.val (.int x0), .val (.int x1), .val (.int x2), .val (.ref b1), .val (.ref b18), .val (.int i), .val (.ref (w i.toNatClampNeg)), .val (awv w (w i.toNatClampNeg)), .val (.int (1 : Int32)), .unset, .unset, .unset, .unset, .unset, .unset] [(.int (1 : Int32))])
    refine Go.of (fun _ k => XS.goto X57.here hx rfl (pc0 := 161) (pc' := 165) rfl (hb hby at_161) (by decide) (by decide) k) ?_
    show Go p e below _ T57 (mkF m 165 #[.val (.int x0), .val (.int x1), .val (.int x2), .val (.ref b1), .val (.ref b18), .val (.int i), .val (.ref (w i.toNatClampNeg)), .val (awv w (w i.toNatClampNeg)), .val (.int (1 : Int32)), .unset, .unset, .unset, .unset, .unset, .unset] [(.int (1 : Int32))])
    exact J31 _ (Same.mk X57) e57
set_option maxRecDepth 65536 in
set_option maxHeartbeats 40000000 in
theorem comes_1 {Post : Tables → Env → Array Value → State → Outcome → State → Prop} (hpost : ∀ tb e args s v u, (limb_1_1.after args s (.returned v) u = true ∧ limb_1_2.after args s (.returned v) u = true ∧ True) → FrameEnd s (.returned v) u (Jvm.fieldLocs frame_1_writes args s ++ Jvm.arrayLocs frame_1_arrays args s ++ Jvm.staticLocs frame_1_statics s) 16 128 → Post tb e args s (.returned v) u) :
    ArmFor flags0 classFile x code maxLocals ret World_1 tables_1 room_1 Calls_1 rest_1 Pre_1 Post := by
  intro l hfl _ _ p e ha hc hk s m args below hf hA hF happ hP
  obtain ⟨hcalls, hrest, hpre⟩ := hP
  obtain ⟨-, -, -, hnamed, -, -, -, hat⟩ := (Spec.applies_iff hf).mp happ
  obtain ⟨hg, hn⟩ := and_e (Cond.before_iff.mp (show (Jvm.Cond.and given_1 narrow_1).before args s = true from hpre))
  obtain ⟨g0, g1⟩ := and_e hg
  obtain ⟨x0, x1, x2, rfl⟩ : ∃ x0 x1 x2 : Value, args = #[x0, x1, x2] := by
    have hs : args.size = 3 := by simpa [Cond.value, given_1] using g0
    obtain ⟨L⟩ := args
    match L, hs with
    | [x0, x1, x2], _ => exact ⟨x0, x1, x2, rfl⟩
  have hw := fun d (hd : d ∈ tables_1) => atoms_spec (ws := Jvm.Cond.code x code maxLocals ret :: tables_1) hat d (List.mem_cons_of_mem _ hd)
  obtain ⟨b0, c0⟩ := and_e g1
  obtain ⟨i0, z0⟩ := is_v b0
  obtain rfl : x0 = (.int i0) := Option.some.inj z0
  obtain ⟨b1, c1⟩ := and_e c0
  obtain ⟨i1, z1⟩ := is_v b1
  obtain rfl : x1 = (.int i1) := Option.some.inj z1
  obtain ⟨i2, z2⟩ := is_v c1
  obtain rfl : x2 = (.int i2) := Option.some.inj z2
  obtain ⟨q0, r0⟩ := and_e hn
  obtain ⟨q1, r1⟩ := and_e r0
  obtain ⟨q2, r2⟩ := and_e r1
  obtain ⟨q3, r3⟩ := and_e r2
  obtain ⟨q4, r4⟩ := and_e r3
  obtain ⟨q5, r5⟩ := and_e r4
  obtain ⟨q6, r6⟩ := and_e r5
  obtain ⟨q7, r7⟩ := and_e r6
  obtain ⟨q8, r8⟩ := and_e r7
  obtain ⟨q9, r9⟩ := and_e r8
  obtain ⟨q10, r10⟩ := and_e r9
  obtain ⟨q11, r11⟩ := and_e r10
  obtain ⟨q12, r12⟩ := and_e r11
  obtain ⟨q13, r13⟩ := and_e r12
  obtain ⟨q14, r14⟩ := and_e r13
  have q15 := r14
  obtain ⟨w0, v0⟩ := exa_v q0
  have E0 := Exa.start v0 q0
  have S0 := Sta.start v0 (Or.inr ⟨(hw _ (List.mem_of_getElem? (i := 3) rfl)), (hw _ (List.mem_of_getElem? (i := 4) rfl))⟩)
  have F0 := own_fld v0 q8
  obtain ⟨w1, v1⟩ := exa_v q1
  have E1 := Exa.start v1 q1
  have S1 := Sta.start v1 (Or.inr ⟨(hw _ (List.mem_of_getElem? (i := 3) rfl)), (hw _ (List.mem_of_getElem? (i := 7) rfl))⟩)
  have F1 := own_fld v1 q11
  obtain ⟨w2, v2⟩ := exa_v q2
  have E2 := Exa.start v2 q2
  have S2 := Sta.start v2 (Or.inr ⟨(hw _ (List.mem_of_getElem? (i := 3) rfl)), (hw _ (List.mem_of_getElem? (i := 9) rfl))⟩)
  have F2 := own_fld v2 q13
  obtain ⟨w3, v3⟩ := exa_v q3
  have E3 := Exa.start v3 q3
  have S3 := Sta.start v3 (Or.inr ⟨(hw _ (List.mem_of_getElem? (i := 3) rfl)), (hw _ (List.mem_of_getElem? (i := 11) rfl))⟩)
  have F3 := own_fld v3 q12
  obtain ⟨w4, v4⟩ := exa_v q4
  have E4 := Exa.start v4 q4
  have S4 := Sta.start v4 (Or.inr ⟨(hw _ (List.mem_of_getElem? (i := 3) rfl)), (hw _ (List.mem_of_getElem? (i := 13) rfl))⟩)
  have F4 := own_fld v4 q14
  obtain ⟨w5, v5⟩ := exa_v q5
  have E5 := Exa.start v5 q5
  have S5 := Sta.start v5 (Or.inr ⟨(hw _ (List.mem_of_getElem? (i := 3) rfl)), (hw _ (List.mem_of_getElem? (i := 15) rfl))⟩)
  have F5 := own_fld v5 q15
  obtain ⟨w6, v6⟩ := exa_v q6
  have E6 := Exa.start v6 q6
  have S6 := Sta.start v6 (Or.inr ⟨(hw _ (List.mem_of_getElem? (i := 3) rfl)), (hw _ (List.mem_of_getElem? (i := 17) rfl))⟩)
  have F6 := own_fld v6 q9
  obtain ⟨w7, v7⟩ := exa_v q7
  have E7 := Exa.start v7 q7
  have S7 := Sta.start v7 (Or.inr ⟨(hw _ (List.mem_of_getElem? (i := 3) rfl)), (hw _ (List.mem_of_getElem? (i := 19) rfl))⟩)
  have F7 := own_fld v7 q10
  have D : Wd s s.heap (fun | 0 => w0 | 1 => w1 | 2 => w2 | 3 => w3 | 4 => w4 | 5 => w5 | 6 => w6 | _ => w7) := ⟨S0, S1, S2, S3, S4, S5, S6, S7, (fun i hi => match i, hi with | 0, _ => E0 | 1, _ => E1 | 2, _ => E2 | 3, _ => E3 | 4, _ => E4 | 5, _ => E5 | 6, _ => E6 | 7, _ => E7 | (k + 8), h => absurd h (by omega)), (fun i hi => match i, hi with | 0, _ => F0 | 1, _ => F1 | 2, _ => F2 | 3, _ => F3 | 4, _ => F4 | 5, _ => F5 | 6, _ => F6 | 7, _ => F7 | (k + 8), h => absurd h (by omega))⟩
  obtain ⟨n, o, h1, h2, h3, _, L, rfl, ⟨rfl, N⟩, hq⟩ := rm0 l s _ hw tables_1 (fun | 0 => w0 | 1 => w1 | 2 => w2 | 3 => w3 | 4 => w4 | 5 => w5 | 6 => w6 | _ => w7) s.heap s.heap.size (Nat.le_refl _) D i0 i1 i2 p e ha hc hk s m _ below hf ((Spec.applies_iff_loose hf).mp happ).1 ⟨rfl, State.Warmed39.refl s, rfl⟩ trivial
  refine ⟨n, _, h1, h2, h3, hpost _ _ _ _ _ _ ⟨Cond.after_iff.mpr rfl, Cond.after_iff.mpr (eq_i res_at (Term.int_eval (1)) rfl), trivial⟩ ⟨hq.1, hq.2.1, (hq.2.2.sift fun y hy => Or.inr (N y hy)).mono (by decide) (by decide)⟩⟩
theorem main_1_1 : Claimed_1_1 := comes_1 fun _ _ _ _ _ _ h hF => ⟨h.1, hF⟩
theorem main_1_2 : Claimed_1_2 := comes_1 fun _ _ _ _ _ _ h hF => ⟨h.2.1, hF⟩
end Jvm.Pilot.@@N@@
namespace Jvm.Pilot.@@N@@
open Jvm Jvm.ClassFile Sem Op Lib Jvm.Free Jvm.Stand Jvm.Pilot.@@N@@.Jvm.D
/-! MADE BY PROGRAM (witnessworld.py) out of the Statement's table words and the real class files: 11 classes; the members and pool entries that the words name. The judged class is class 1, her method 1. -/
namespace start1
open Jvm.ClassFile
def u (s : String) : CpInfo := .utf8 (stringToUtf16 s)
/-- a pool by its gaps: so many unusable entries, then the entry; so many at the end -/
def gap : Nat → List CpInfo → List CpInfo
  | 0, r => r
  | n + 1, r => .unusable :: gap n r
def poolList (es : List (Nat × CpInfo)) (last : Nat) : List CpInfo := es.foldr (fun e r => gap e.1 (e.2 :: r)) (gap last [])
def pool (es : List (Nat × CpInfo)) (last : Nat) : Array CpInfo := ⟨poolList es last⟩
def fileOf (pool : Array CpInfo) (this : Nat) (attrs : Array Attribute := #[]) (ms : Array MethodInfo := #[]) (fl : Nat := 33) (sup : Nat := 0) (ifs : Array Nat := #[]) (fds : Array FieldInfo := #[]) : ClassFile where
  minorVersion := 0
  majorVersion := 65
  constantPool := pool
  accessFlags := fl
  thisClass := this
  superClass := sup
  interfaces := ifs
  fields := fds
  methods := ms
  attributes := attrs
def plain (name : String) (sup : Option ClassId) : Class where
  name := name
  kind := .ordinary
  loader := none
  accessFlags := 33
  super := sup
  interfaces := #[]
  cf := none
  fields := #[]
  methods := #[]
  instanceTypes := #[]
  staticTypes := #[]
  resolved := #[]
  callSites := []
  init := .initialized
  statics := none
  mirror := none

def pool0 : Array CpInfo := pool [(5, u "<init>"), (0, u "()V"), (1, .class_ 10), (1, u "java/lang/Object")] 113

def k0m0 : Method := { name := "<init>", desc := "()V", sig := { parameters := [], returnType := none }, accessFlags := 1, code := none }
/-- java/lang/Object -/
def k0 : Class := { plain "java/lang/Object" none with
  accessFlags := 33
  interfaces := #[]
  cf := some (fileOf pool0 8 #[] #[{ accessFlags := 1, nameIndex := 5, descriptorIndex := 6, attributes := #[] }] 33 0 #[] #[])
  fields := #[]
  methods := #[k0m0]
  instanceTypes := #[]
  staticTypes := #[]
  resolved := Array.replicate 124 none
  statics := none }

def pool1 : Array CpInfo := pool [(2, .class_ 4), (1, u "java/lang/Object"), (0, u "<init>"), (0, u "()V"), (0, .class_ 8), (0, u "com/example/unfussy_switchboard/unfussyswitchboard/model/AgentState"), (0, .fieldref 7 10), (0, .nameAndType 11 12), (0, u "LOGOUT"), (0, u "Lcom/example/unfussy_switchboard/unfussyswitchboard/model/AgentState;"), (0, .fieldref 7 14), (0, .nameAndType 15 12), (0, u "NOT_READY"), (0, .fieldref 7 17), (0, .nameAndType 18 12), (0, u "READY"), (0, .fieldref 7 20), (0, .nameAndType 21 12), (0, u "RESERVED"), (0, .fieldref 7 23), (0, .nameAndType 24 12), (0, u "TALKING"), (0, .fieldref 7 26), (0, .nameAndType 27 12), (0, u "HOLD"), (0, .fieldref 7 29), (0, .nameAndType 30 12), (0, u "WORK"), (0, .fieldref 7 32), (0, .nameAndType 33 12), (0, u "WORK_READY"), (0, .methodref 7 35), (0, .nameAndType 36 37), (0, u "afterWrapUp"), (0, u "()Lcom/example/unfussy_switchboard/unfussyswitchboard/model/AgentState;"), (0, .methodref 7 39), (0, .nameAndType 40 41), (0, u "isWrappingUp"), (0, u "()Z"), (0, .methodref 7 43), (0, .nameAndType 44 45), (0, u "afterCall"), (0, u "(Lcom/example/unfussy_switchboard/unfussyswitchboard/model/AgentState;Lcom/example/unfussy_switchboard/unfussyswitchboard/model/AgentState;Z)Lcom/example/unfussy_switchboard/unfussyswitchboard/model/AgentState;"), (0, .class_ 47), (0, u "com/example/unfussy_switchboard/unfussyswitchboard/model/AgentStateAfterWrapUpPinLaw"), (2, u "law"), (0, u "(III)Z")] 5

def k1m0 : Method := { name := "<init>", desc := "()V", sig := { parameters := [], returnType := none }, accessFlags := 1, code := none }
def k1c1 : Code := { maxStack := 4, maxLocals := 15, code := code, exceptionTable := #[], attributes := #[] }
def k1m1 : Method := { name := "law", desc := "(III)Z", sig := { parameters := [.int, .int, .int], returnType := some .boolean }, accessFlags := 9, code := some k1c1 }
/-- com/example/unfussy_switchboard/unfussyswitchboard/model/AgentStateAfterWrapUpPinLaw -/
def k1 : Class := { plain "com/example/unfussy_switchboard/unfussyswitchboard/model/AgentStateAfterWrapUpPinLaw" (some 0) with
  accessFlags := 49
  interfaces := #[]
  cf := some (fileOf pool1 46 #[] #[{ accessFlags := 1, nameIndex := 5, descriptorIndex := 6, attributes := #[] }, { accessFlags := 9, nameIndex := 50, descriptorIndex := 51, attributes := #[] }] 49 2 #[] #[])
  fields := #[]
  methods := #[k1m0, k1m1]
  instanceTypes := #[]
  staticTypes := #[]
  resolved := Array.replicate 57 none
  statics := none }

def pool2 : Array CpInfo := pool [(1, .class_ 2), (0, u "java/lang/constant/Constable"), (0, .class_ 4), (0, u "java/lang/Object")] 6

/-- java/lang/constant/Constable -/
def k2 : Class := { plain "java/lang/constant/Constable" (some 0) with
  accessFlags := 1537
  interfaces := #[]
  cf := some (fileOf pool2 1 #[] #[] 1537 3 #[] #[])
  fields := #[]
  methods := #[]
  instanceTypes := #[]
  staticTypes := #[]
  resolved := Array.replicate 11 none
  statics := none }

def pool3 : Array CpInfo := pool [(1, .class_ 2), (0, u "java/lang/Comparable"), (0, .class_ 4), (0, u "java/lang/Object")] 7

/-- java/lang/Comparable -/
def k3 : Class := { plain "java/lang/Comparable" (some 0) with
  accessFlags := 1537
  interfaces := #[]
  cf := some (fileOf pool3 1 #[] #[] 1537 3 #[] #[])
  fields := #[]
  methods := #[]
  instanceTypes := #[]
  staticTypes := #[]
  resolved := Array.replicate 12 none
  statics := none }

def pool4 : Array CpInfo := pool [(1, .class_ 2), (0, u "java/io/Serializable"), (0, .class_ 4), (0, u "java/lang/Object")] 2

/-- java/io/Serializable -/
def k4 : Class := { plain "java/io/Serializable" (some 0) with
  accessFlags := 1537
  interfaces := #[]
  cf := some (fileOf pool4 1 #[] #[] 1537 3 #[] #[])
  fields := #[]
  methods := #[]
  instanceTypes := #[]
  staticTypes := #[]
  resolved := Array.replicate 7 none
  statics := none }

def pool5 : Array CpInfo := pool [(2, .class_ 4), (1, u "java/lang/Enum"), (0, u "name"), (0, u "Ljava/lang/String;"), (2, u "ordinal"), (0, u "I"), (1, .class_ 14), (1, u "java/lang/Object"), (4, u "hash"), (86, .class_ 108), (1, u "java/lang/Enum$EnumDesc"), (2, .class_ 112), (0, u "java/lang/constant/Constable"), (0, .class_ 114), (0, u "java/lang/Comparable"), (0, .class_ 116), (0, u "java/io/Serializable")] 87

/-- java/lang/Enum -/
def k5 : Class := { plain "java/lang/Enum" (some 0) with
  accessFlags := 1057
  interfaces := #[2, 3, 4]
  cf := some (fileOf pool5 2 #[.nestMembers #[106]] #[] 1057 12 #[111, 113, 115] #[{ accessFlags := 18, nameIndex := 5, descriptorIndex := 6, attributes := #[] }, { accessFlags := 18, nameIndex := 9, descriptorIndex := 10, attributes := #[] }, { accessFlags := 2, nameIndex := 19, descriptorIndex := 10, attributes := #[] }])
  fields := #[{ name := "name", type := (.object "java/lang/String"), accessFlags := 18, slot := 0, constantValue := 0 }, { name := "ordinal", type := .int, accessFlags := 18, slot := 1, constantValue := 0 }, { name := "hash", type := .int, accessFlags := 2, slot := 2, constantValue := 0 }]
  methods := #[]
  instanceTypes := #[(.object "java/lang/String"), .int, .int]
  staticTypes := #[]
  resolved := Array.replicate 204 none
  statics := none }

def pool6 : Array CpInfo := pool [(1, .class_ 2), (0, u "com/example/unfussy_switchboard/unfussyswitchboard/model/AgentState"), (2, u "LOGOUT"), (0, u "Lcom/example/unfussy_switchboard/unfussyswitchboard/model/AgentState;"), (0, .fieldref 1 8), (0, .nameAndType 9 6), (0, u "NOT_READY"), (0, .fieldref 1 11), (0, .nameAndType 12 6), (0, u "READY"), (2, u "RESERVED"), (2, u "TALKING"), (2, u "HOLD"), (0, .fieldref 1 23), (0, .nameAndType 24 6), (0, u "WORK"), (0, .fieldref 1 26), (0, .nameAndType 27 6), (0, u "WORK_READY"), (2, u "$VALUES"), (0, u "[Lcom/example/unfussy_switchboard/unfussyswitchboard/model/AgentState;"), (6, .class_ 40), (1, u "java/lang/Enum"), (7, .class_ 50), (1, u "com/example/unfussy_switchboard/unfussyswitchboard/model/AgentState$1"), (15, u "isWrappingUp"), (0, u "()Z"), (33, u "afterCall"), (0, u "(Lcom/example/unfussy_switchboard/unfussyswitchboard/model/AgentState;Lcom/example/unfussy_switchboard/unfussyswitchboard/model/AgentState;Z)Lcom/example/unfussy_switchboard/unfussyswitchboard/model/AgentState;"), (0, u "afterWrapUp"), (0, u "()Lcom/example/unfussy_switchboard/unfussyswitchboard/model/AgentState;")] 6

def k6c0 : Code := { maxStack := 2, maxLocals := 1, code := prog_16_method_8_code, exceptionTable := #[], attributes := #[] }
def k6m0 : Method := { name := "isWrappingUp", desc := "()Z", sig := { parameters := [], returnType := some .boolean }, accessFlags := 1, code := some k6c0 }
def k6c1 : Code := { maxStack := 2, maxLocals := 5, code := prog_16_method_9_code, exceptionTable := #[], attributes := #[] }
def k6m1 : Method := { name := "afterCall", desc := "(Lcom/example/unfussy_switchboard/unfussyswitchboard/model/AgentState;Lcom/example/unfussy_switchboard/unfussyswitchboard/model/AgentState;Z)Lcom/example/unfussy_switchboard/unfussyswitchboard/model/AgentState;", sig := { parameters := [(.object "com/example/unfussy_switchboard/unfussyswitchboard/model/AgentState"), (.object "com/example/unfussy_switchboard/unfussyswitchboard/model/AgentState"), .boolean], returnType := some (.object "com/example/unfussy_switchboard/unfussyswitchboard/model/AgentState") }, accessFlags := 9, code := some k6c1 }
def k6c2 : Code := { maxStack := 2, maxLocals := 2, code := prog_16_method_10_code, exceptionTable := #[], attributes := #[] }
def k6m2 : Method := { name := "afterWrapUp", desc := "()Lcom/example/unfussy_switchboard/unfussyswitchboard/model/AgentState;", sig := { parameters := [], returnType := some (.object "com/example/unfussy_switchboard/unfussyswitchboard/model/AgentState") }, accessFlags := 1, code := some k6c2 }
/-- com/example/unfussy_switchboard/unfussyswitchboard/model/AgentState -/
def k6 : Class := { plain "com/example/unfussy_switchboard/unfussyswitchboard/model/AgentState" (some 5) with
  accessFlags := 16433
  interfaces := #[]
  cf := some (fileOf pool6 1 #[.nestMembers #[48]] #[{ accessFlags := 1, nameIndex := 66, descriptorIndex := 67, attributes := #[] }, { accessFlags := 9, nameIndex := 101, descriptorIndex := 102, attributes := #[] }, { accessFlags := 1, nameIndex := 103, descriptorIndex := 104, attributes := #[] }] 16433 38 #[] #[{ accessFlags := 16409, nameIndex := 5, descriptorIndex := 6, attributes := #[] }, { accessFlags := 16409, nameIndex := 9, descriptorIndex := 6, attributes := #[] }, { accessFlags := 16409, nameIndex := 12, descriptorIndex := 6, attributes := #[] }, { accessFlags := 16409, nameIndex := 15, descriptorIndex := 6, attributes := #[] }, { accessFlags := 16409, nameIndex := 18, descriptorIndex := 6, attributes := #[] }, { accessFlags := 16409, nameIndex := 21, descriptorIndex := 6, attributes := #[] }, { accessFlags := 16409, nameIndex := 24, descriptorIndex := 6, attributes := #[] }, { accessFlags := 16409, nameIndex := 27, descriptorIndex := 6, attributes := #[] }, { accessFlags := 4122, nameIndex := 30, descriptorIndex := 31, attributes := #[] }])
  fields := #[{ name := "LOGOUT", type := (.object "com/example/unfussy_switchboard/unfussyswitchboard/model/AgentState"), accessFlags := 16409, slot := 0, constantValue := 0 }, { name := "NOT_READY", type := (.object "com/example/unfussy_switchboard/unfussyswitchboard/model/AgentState"), accessFlags := 16409, slot := 1, constantValue := 0 }, { name := "READY", type := (.object "com/example/unfussy_switchboard/unfussyswitchboard/model/AgentState"), accessFlags := 16409, slot := 2, constantValue := 0 }, { name := "RESERVED", type := (.object "com/example/unfussy_switchboard/unfussyswitchboard/model/AgentState"), accessFlags := 16409, slot := 3, constantValue := 0 }, { name := "TALKING", type := (.object "com/example/unfussy_switchboard/unfussyswitchboard/model/AgentState"), accessFlags := 16409, slot := 4, constantValue := 0 }, { name := "HOLD", type := (.object "com/example/unfussy_switchboard/unfussyswitchboard/model/AgentState"), accessFlags := 16409, slot := 5, constantValue := 0 }, { name := "WORK", type := (.object "com/example/unfussy_switchboard/unfussyswitchboard/model/AgentState"), accessFlags := 16409, slot := 6, constantValue := 0 }, { name := "WORK_READY", type := (.object "com/example/unfussy_switchboard/unfussyswitchboard/model/AgentState"), accessFlags := 16409, slot := 7, constantValue := 0 }, { name := "$VALUES", type := (.array (.object "com/example/unfussy_switchboard/unfussyswitchboard/model/AgentState")), accessFlags := 4122, slot := 8, constantValue := 0 }]
  methods := #[k6m0, k6m1, k6m2]
  instanceTypes := #[(.object "java/lang/String"), .int, .int]
  staticTypes := #[(.object "com/example/unfussy_switchboard/unfussyswitchboard/model/AgentState"), (.object "com/example/unfussy_switchboard/unfussyswitchboard/model/AgentState"), (.object "com/example/unfussy_switchboard/unfussyswitchboard/model/AgentState"), (.object "com/example/unfussy_switchboard/unfussyswitchboard/model/AgentState"), (.object "com/example/unfussy_switchboard/unfussyswitchboard/model/AgentState"), (.object "com/example/unfussy_switchboard/unfussyswitchboard/model/AgentState"), (.object "com/example/unfussy_switchboard/unfussyswitchboard/model/AgentState"), (.object "com/example/unfussy_switchboard/unfussyswitchboard/model/AgentState"), (.array (.object "com/example/unfussy_switchboard/unfussyswitchboard/model/AgentState"))]
  resolved := Array.replicate 111 none
  statics := some 0 }

def pool7 : Array CpInfo := pool [(1, u "java/lang/Cloneable"), (0, .class_ 1), (0, u "java/lang/Object"), (0, .class_ 3)] 3

/-- java/lang/Cloneable -/
def k7 : Class := { plain "java/lang/Cloneable" (some 0) with
  accessFlags := 1537
  interfaces := #[]
  cf := some (fileOf pool7 2 #[] #[] 1537 4 #[] #[])
  fields := #[]
  methods := #[]
  instanceTypes := #[]
  staticTypes := #[]
  resolved := Array.replicate 8 none
  statics := none }

/-- the primitive byte -/
def k8 : Class := { plain "byte" none with kind := .primitive 'B', accessFlags := 0x411 }
/-- [B -/
def k9 : Class := { plain "[B" (some 0) with kind := .array 8 .byte, interfaces := #[7, 4], accessFlags := 1041 }

/-- [Lcom/example/unfussy_switchboard/unfussyswitchboard/model/AgentState; -/
def k10 : Class := { plain "[Lcom/example/unfussy_switchboard/unfussyswitchboard/model/AgentState;" (some 0) with kind := .array 6 (.object "com/example/unfussy_switchboard/unfussyswitchboard/model/AgentState"), interfaces := #[7, 4], accessFlags := 1041 }

def heap : Heap := #[{ cls := 6, slots := #[.ref 1, .ref 2, .ref 3, .ref 4, .ref 5, .ref 6, .ref 7, .ref 8, .null], vm := .statics 6 },
  { cls := 6, slots := #[.null, .int 0, .int 0], vm := .none },
  { cls := 6, slots := #[.null, .int 1, .int 0], vm := .none },
  { cls := 6, slots := #[.null, .int 2, .int 0], vm := .none },
  { cls := 6, slots := #[.null, .int 3, .int 0], vm := .none },
  { cls := 6, slots := #[.null, .int 4, .int 0], vm := .none },
  { cls := 6, slots := #[.null, .int 5, .int 0], vm := .none },
  { cls := 6, slots := #[.null, .int 6, .int 0], vm := .none },
  { cls := 6, slots := #[.null, .int 7, .int 0], vm := .none }]
def classes : Array Class := #[k0, k1, k2, k3, k4, k5, k6, k7, k8, k9, k10]
def interned : List (Array UInt16 × Addr) := []
def slotsUsed : Nat := 33
def theMethod : MethodId := ⟨1, 1⟩
def args0 : Array Value := #[.int 5, .int 3, .int 9]
def aboutOver (below : List Frame) : State where
  vm := { classes := classes, interned := interned.toArray }
  heap := heap
  slotsUsed := slotsUsed
  threads := #[{ frames := .invoking theMethod args0 :: below }]
def below0 : List Frame := [.native { method := ⟨0, 0⟩, args := #[] }]
def about1 : State := aboutOver below0
def p0 : Program := .bare "" "" ""
def e0 : Env := launch0.env 0 0 0
theorem w_frames : about1.frames = Frame.invoking theMethod args0 :: below0 := rfl
set_option maxRecDepth 65536 in
theorem w_args : argsFit about1.vm theMethod args0 = true := by decide +kernel
set_option maxRecDepth 65536 in
theorem w_heap : heapFits about1 = true := by decide +kernel
set_option maxRecDepth 65536 in
theorem w_runnable : about1.curStatus? = some .runnable := by decide +kernel
set_option maxRecDepth 65536 in
theorem w_alone : about1.alone = true := by decide +kernel
set_option maxRecDepth 65536 in
theorem w_named : about1.methodNamed? x = some theMethod := by decide +kernel
set_option maxRecDepth 65536 in
theorem w_hears : about1.hears theMethod below0 = true := by decide +kernel
set_option maxRecDepth 65536 in
theorem w_ripe : about1.ripe theMethod args0 below0 = true := by decide +kernel
theorem w_running : about1.status = .running := rfl
set_option maxRecDepth 65536 in
theorem w_room : about1.hasRoom e0.platform room_1 = true :=
  launch0.hasRoom_least _ room_1 (by decide +kernel) (by decide +kernel) (by decide +kernel) (by decide +kernel) (by decide +kernel) (by decide +kernel)
theorem allAtoms_all (ts : List Jvm.Cond) (a : Array Jvm.Value) (st : Jvm.State) : (allAtoms ts).before a st = ts.all (fun c => c.before a st) := by
  induction ts with
  | nil => rfl
  | cons c t ih =>
    show (Jvm.Cond.and c (allAtoms t)).before a st = _
    rw [Jvm.Cond.before_and, ih, List.all_cons]
def words1 : List Jvm.Cond := Jvm.Cond.code x code maxLocals ret :: tables_1
/-- a 'code' word, met by the world's own term for the bytes: nothing is compared byte by byte -/
theorem code_word {y : MethodName} {bytes : ByteArray} {mx : Nat} {rt : Option FieldType} {a : Array Value} {s : State} {m : MethodId} {meth : Method} {c : Code} (h1 : s.methodNamed? y = some m) (h2 : s.vm.method? m = some meth) (h3 : meth.code = some c) (h4 : c.code = bytes)
    (h5 : (c.maxLocals == mx && c.exceptionTable.isEmpty && decide (c.maxStack ≤ mostOperands) && decide (meth.sig.returnType = rt) && !meth.locks && decide (parseMethodDescriptor y.desc = some meth.sig)) = true) : (Jvm.Cond.code y bytes mx rt).before a s = true := by
  simp only [Bool.and_eq_true, beq_iff_eq, Bool.not_eq_true', decide_eq_true_eq] at h5
  obtain ⟨⟨⟨⟨⟨g1, g2⟩, g3⟩, g4⟩, g5⟩, g6⟩ := h5
  simp [Cond.before, Cond.holds, Cond.value, h1, h2, h3, h4, g1, g2, g3, g4, g5, g6]
def isCode : Jvm.Cond → Bool
  | .code _ _ _ _ => true
  | _ => false
theorem all_split {L : List Jvm.Cond} {P : Jvm.Cond → Bool} (h1 : L.all (fun c => isCode c || P c) = true) (h2 : ∀ c ∈ L.filter isCode, P c = true) : L.all P = true := by
  refine List.all_eq_true.mpr fun c hc => ?_
  have h := List.all_eq_true.mp h1 c hc
  rcases Bool.eq_false_or_eq_true (isCode c) with hi | hi
  · exact h2 c (List.mem_filter.mpr ⟨hc, hi⟩)
  · simpa [hi] using h
set_option maxRecDepth 65536 in
theorem w_c0 : (Jvm.Cond.code x code maxLocals ret).before args0 about1 = true := code_word (m := ⟨1, 1⟩) (meth := k1m1) (c := k1c1) (by decide +kernel) rfl rfl rfl (by decide +kernel)
set_option maxRecDepth 65536 in
theorem w_c1 : (Jvm.Cond.code ({ cls := "com/example/unfussy_switchboard/unfussyswitchboard/model/AgentState", name := "afterWrapUp", desc := "()Lcom/example/unfussy_switchboard/unfussyswitchboard/model/AgentState;" } : Jvm.MethodName) prog_16_method_10_code (2 : Nat) (Option.some (Jvm.ClassFile.FieldType.object "com/example/unfussy_switchboard/unfussyswitchboard/model/AgentState"))).before args0 about1 = true := code_word (m := ⟨6, 2⟩) (meth := k6m2) (c := k6c2) (by decide +kernel) rfl rfl rfl (by decide +kernel)
set_option maxRecDepth 65536 in
theorem w_c2 : (Jvm.Cond.code ({ cls := "com/example/unfussy_switchboard/unfussyswitchboard/model/AgentState", name := "isWrappingUp", desc := "()Z" } : Jvm.MethodName) prog_16_method_8_code (1 : Nat) (Option.some Jvm.ClassFile.FieldType.boolean)).before args0 about1 = true := code_word (m := ⟨6, 0⟩) (meth := k6m0) (c := k6c0) (by decide +kernel) rfl rfl rfl (by decide +kernel)
set_option maxRecDepth 65536 in
theorem w_c3 : (Jvm.Cond.code ({ cls := "com/example/unfussy_switchboard/unfussyswitchboard/model/AgentState", name := "afterCall", desc := "(Lcom/example/unfussy_switchboard/unfussyswitchboard/model/AgentState;Lcom/example/unfussy_switchboard/unfussyswitchboard/model/AgentState;Z)Lcom/example/unfussy_switchboard/unfussyswitchboard/model/AgentState;" } : Jvm.MethodName) prog_16_method_9_code (5 : Nat) (Option.some (Jvm.ClassFile.FieldType.object "com/example/unfussy_switchboard/unfussyswitchboard/model/AgentState"))).before args0 about1 = true := code_word (m := ⟨6, 1⟩) (meth := k6m1) (c := k6c1) (by decide +kernel) rfl rfl rfl (by decide +kernel)
def codes1 : List Jvm.Cond := [Jvm.Cond.code x code maxLocals ret, Jvm.Cond.code ({ cls := "com/example/unfussy_switchboard/unfussyswitchboard/model/AgentState", name := "afterWrapUp", desc := "()Lcom/example/unfussy_switchboard/unfussyswitchboard/model/AgentState;" } : Jvm.MethodName) prog_16_method_10_code (2 : Nat) (Option.some (Jvm.ClassFile.FieldType.object "com/example/unfussy_switchboard/unfussyswitchboard/model/AgentState")), Jvm.Cond.code ({ cls := "com/example/unfussy_switchboard/unfussyswitchboard/model/AgentState", name := "isWrappingUp", desc := "()Z" } : Jvm.MethodName) prog_16_method_8_code (1 : Nat) (Option.some Jvm.ClassFile.FieldType.boolean), Jvm.Cond.code ({ cls := "com/example/unfussy_switchboard/unfussyswitchboard/model/AgentState", name := "afterCall", desc := "(Lcom/example/unfussy_switchboard/unfussyswitchboard/model/AgentState;Lcom/example/unfussy_switchboard/unfussyswitchboard/model/AgentState;Z)Lcom/example/unfussy_switchboard/unfussyswitchboard/model/AgentState;" } : Jvm.MethodName) prog_16_method_9_code (5 : Nat) (Option.some (Jvm.ClassFile.FieldType.object "com/example/unfussy_switchboard/unfussyswitchboard/model/AgentState"))]
set_option maxRecDepth 65536 in
theorem codes_eq : words1.filter isCode = codes1 := rfl
theorem w_codes : ∀ c ∈ words1.filter isCode, c.before args0 about1 = true := by
  rw [codes_eq]
  intro c hc
  simp only [codes1, List.mem_cons, List.not_mem_nil, or_false] at hc
  rcases hc with rfl | rfl | rfl | rfl
  · exact w_c0
  · exact w_c1
  · exact w_c2
  · exact w_c3
set_option maxRecDepth 65536 in
theorem w_t1 : (words1.take 24).all (fun c => isCode c || c.before args0 about1) = true := by decide +kernel
set_option maxRecDepth 65536 in
theorem w_t2 : (words1.drop 24).all (fun c => isCode c || c.before args0 about1) = true := by decide +kernel
theorem w_tables : (allAtoms (Jvm.Cond.code x code maxLocals ret :: tables_1)).before args0 about1 = true := by
  rw [allAtoms_all]
  show words1.all (fun c => c.before args0 about1) = true
  refine all_split ?_ w_codes
  rw [← List.take_append_drop 24 words1, List.all_append, w_t1, w_t2]
  rfl
set_option maxRecDepth 65536 in
theorem w_case : (Jvm.Cond.and given_1 narrow_1).before args0 about1 = true := by decide +kernel
theorem w_applies : (headSpec (Jvm.Cond.code x code maxLocals ret :: tables_1) room_1).applies x e0.platform about1 = true :=
  (Spec.applies_iff w_frames).mpr ⟨w_running, w_runnable, w_alone, w_named, w_hears, w_ripe, w_room, w_tables⟩
theorem atStart : AtStart classFile x code maxLocals ret World_1 tables_1 room_1 Calls_1 rest_1 Pre_1 launch0 p0 e0 about1 theMethod args0 below0 :=
  ⟨lists_1, trivial, launch0.admits_env _ _ _, launch0.least_env, fairChoices_fair.cas, fairChoices_fair.clock, w_frames, w_args, w_heap, w_applies, trivial, trivial, w_case⟩
end start1
theorem witness_1 : WitnessClaimed_1 := ⟨start1.p0, start1.e0, start1.about1, start1.theMethod, start1.args0, start1.below0, start1.atStart⟩
end Jvm.Pilot.@@N@@
