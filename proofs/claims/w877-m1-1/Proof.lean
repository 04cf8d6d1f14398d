import JvmDerived
import JvmDerived.Pilot.@@N@@Statement
import JvmDerived.Pilot.@@N@@Code
set_option linter.unusedVariables false
set_option linter.unusedSimpArgs false
@@BLOCK:NumsL.lean.txt@@
namespace Jvm.Pilot.@@N@@
open Jvm Jvm.ClassFile Sem Op Lib Jvm.Free Jvm.Stand Jvm.LawKit Jvm.RoadKit Bundle Jvm.Pilot.@@N@@.Jvm.D
/-- Java's x >>> y on longs -/
def own_uL (x : Int64) (y : Int32) : Int64 := (x.toUInt64 >>> (y &&& 63).toInt64.toUInt64).toInt64
section Own
variable {p : Program} {l : Launch} {e : Env} {R : Room} {s : State} {m : MethodId} {args : Array Value} {below : List Frame} {meth : Method} {c : Code} {T : State} {locs : List Loc} {cells slots : Nat}
variable {ck sk : Nat} {Q : Option Value → Heap → List Loc → Prop}
/-- the run from u comes to the method's return, and Q holds there -/
def oF (p : Program) (e : Env) (below : List Frame) (s : State) (ck sk : Nat) (Q : Option Value → Heap → List Loc → Prop) (u : State) : Prop :=
  ∃ t o, Steps p.tables e below u t ∧ t.status = .running ∧ Ended t below o ∧ ∃ v L, o = .returned v ∧ Q v t.heap L ∧ FrameEnd s o t L ck sk
theorem oS {u u' : State} (h : ∀ t, Steps p.tables e below u' t → Steps p.tables e below u t) (k : oF p e below s ck sk Q u') : oF p e below s ck sk Q u := by
  obtain ⟨t, o, h1, r⟩ := k
  exact ⟨t, o, h t h1, r⟩
theorem oC {u : State} (X : Stand p l e R s m args below meth c T locs cells slots) {h : Heap} (E : T.heap = h) {f : JFrame}
    (rest : ∀ Tc, Stand p l e R s m args below meth c Tc locs cells slots → Tc.heap = h → oF p e below s ck sk Q (Tc.setTop f))
    (k : (∀ Tc, Stand p l e R s m args below meth c Tc locs cells slots → Tc.heap = h → oF p e below s ck sk Q (Tc.setTop f)) → oF p e below s ck sk Q u) : oF p e below s ck sk Q u := k rest
theorem own_ret (X : Stand p l e R s m args below meth c T locs cells slots) (hlk : meth.locks = false) {v : Option Value} (hv : meth.sig.returnType = none → v = none) {g : JFrame}
    (st : ∀ fs, (∀ (f : JFrame) (acts : List Action), f.method = m → f.locked = none → f.entered = [] → (doReturn e (T.setTop f) acts v).1 = T.setFrames fs) → Steps p.tables e below (T.setTop g) (T.setFrames fs))
    (hQ : Q v T.heap locs) (hc : cells ≤ ck) (hs : slots ≤ sk) : oF p e below s ck sk Q (T.setTop g) := by
  obtain ⟨fs, hr, hrun, hended, hW, hsame⟩ := X.leave (v := v) hv hlk
  exact ⟨_, _, st fs hr, hrun, hended, v, locs, rfl, hQ, ⟨_, rfl⟩, hW, hsame.mono hc hs⟩
theorem own_retI (X : Stand p l e R s m args below meth c T locs cells slots) (hx : p.tables.exec = Jvm.exec) (hlk : meth.locks = false) {pc : Nat} {Ls : Array Slot} {z : Int32} {rest : List Value} (hret : meth.sig.returnType = some .int)
    (hd : decode c.code pc = .ok (.ireturn, 1)) (hQ : Q (some (.int z)) T.heap locs) (hc : cells ≤ ck) (hs : slots ≤ sk) : oF p e below s ck sk Q (T.setTop (mkF m pc Ls (.int z :: rest))) :=
  own_ret X hlk (fun h => by rw [hret] at h; cases h) (fun fs hl => retOut X hx hret rfl (Or.inl ⟨rfl, Or.inl rfl, _, rfl⟩) hd hl) hQ hc hs
theorem own_retJ (X : Stand p l e R s m args below meth c T locs cells slots) (hx : p.tables.exec = Jvm.exec) (hlk : meth.locks = false) {pc : Nat} {Ls : Array Slot} {z : Int64} {rest : List Value} (hret : meth.sig.returnType = some .long)
    (hd : decode c.code pc = .ok (.lreturn, 1)) (hQ : Q (some (.long z)) T.heap locs) (hc : cells ≤ ck) (hs : slots ≤ sk) : oF p e below s ck sk Q (T.setTop (mkF m pc Ls (.long z :: rest))) :=
  own_ret X hlk (fun h => by rw [hret] at h; cases h) (fun fs hl => retOut X hx hret rfl (Or.inr (Or.inl ⟨rfl, rfl, _, rfl⟩)) hd hl) hQ hc hs
theorem own_retD (X : Stand p l e R s m args below meth c T locs cells slots) (hx : p.tables.exec = Jvm.exec) (hlk : meth.locks = false) {pc : Nat} {Ls : Array Slot} {z : UInt64} {rest : List Value} (hret : meth.sig.returnType = some .double)
    (hd : decode c.code pc = .ok (.dreturn, 1)) (hQ : Q (some (.double z)) T.heap locs) (hc : cells ≤ ck) (hs : slots ≤ sk) : oF p e below s ck sk Q (T.setTop (mkF m pc Ls (.double z :: rest))) :=
  own_ret X hlk (fun h => by rw [hret] at h; cases h) (fun fs hl => retOut X hx hret rfl (Or.inr (Or.inr (Or.inl ⟨rfl, rfl, _, rfl⟩))) hd hl) hQ hc hs
theorem own_retA (X : Stand p l e R s m args below meth c T locs cells slots) (hx : p.tables.exec = Jvm.exec) (hlk : meth.locks = false) {pc : Nat} {Ls : Array Slot} {w : Value} {t : FieldType} {rest : List Value} (hret : meth.sig.returnType = some t) (ht : t.isReference = true) (hr : w.isRef = true)
    (hd : decode c.code pc = .ok (.areturn, 1)) (hQ : Q (some w) T.heap locs) (hc : cells ≤ ck) (hs : slots ≤ sk) : oF p e below s ck sk Q (T.setTop (mkF m pc Ls (w :: rest))) :=
  own_ret X hlk (fun h => by rw [hret] at h; cases h) (fun fs hl => retOut X hx hret (by cases t <;> first | (cases ht; done) | (cases w <;> first | rfl | (cases hr; done))) (Or.inr (Or.inr (Or.inr (Or.inr ⟨rfl, ht, hr⟩)))) hd hl) hQ hc hs
theorem own_retN (X : Stand p l e R s m args below meth c T locs cells slots) (hx : p.tables.exec = Jvm.exec) (hlk : meth.locks = false) {pc : Nat} {Ls : Array Slot} {z : Int32} {t : FieldType} {rest : List Value} (hret : meth.sig.returnType = some t) (ht : t = .boolean ∨ t = .byte ∨ t = .char ∨ t = .short)
    (hd : decode c.code pc = .ok (.ireturn, 1)) (hQ : Q (some (.int (nar t z))) T.heap locs) (hc : cells ≤ ck) (hs : slots ≤ sk) : oF p e below s ck sk Q (T.setTop (mkF m pc Ls (.int z :: rest))) :=
  own_ret X hlk (fun h => by rw [hret] at h; cases h) (fun fs hl => retN X hx hret ht hd hl) hQ hc hs
theorem own_ret0 (X : Stand p l e R s m args below meth c T locs cells slots) (hx : p.tables.exec = Jvm.exec) (hlk : meth.locks = false) {pc : Nat} {Ls : Array Slot} (hret : meth.sig.returnType = none)
    (hd : decode c.code pc = .ok (.return_, 1)) (hQ : Q none T.heap locs) (hc : cells ≤ ck) (hs : slots ≤ sk) : oF p e below s ck sk Q (T.setTop (mkF m pc Ls [])) :=
  own_ret X hlk (fun _ => rfl) (fun fs hl => X.returnOut hx hret hd hl) hQ hc hs
/-- a body's contract: called with as' on the heap h it returns, and Q says what it leaves -/
def own_Con (l : Launch) (Z : State) (ws : List Jvm.Cond) (y : MethodName) (bytes : ByteArray) (maxL : Nat) (rt : Option FieldType) (rm : Room) (as' : Array Value) (h : Heap) (Q : Option Value → Heap → List Loc → Prop) : Prop :=
  MetFree l y (head1 (Jvm.Cond.code y bytes maxL rt :: ws) rm) (fun a U => a = as' ∧ Z.Warmed39 U.vm ∧ U.heap = h) (fun _ _ _ _ _ => True) (fun _ U o U' => ∃ v L, o = .returned v ∧ Q v U'.heap L ∧ FrameEnd U o U' L rm.cells rm.slots)
/-- it returns r, and the heap is as it was -/
def own_Q1 (r : Option Value) (h : Heap) : Option Value → Heap → List Loc → Prop := fun v h' L => v = r ∧ h' = h ∧ L = []
variable {Z : State} {a0 : Array Value} {h h' : Heap}
theorem own_body {ws : List Jvm.Cond} {y : MethodName} {bytes : ByteArray} {maxL : Nat} {rt : Option FieldType} {rm : Room} {as' : Array Value} (hpn : plainFor y = true)
    (H : ∀ (p : Program) (e : Env) (s : State) (m : MethodId) (below : List Frame) (meth : Method) (c : Code) (s₁ : State), Stand p l e rm s m as' below meth c s₁ [] 0 0 → p.tables.exec = Jvm.exec → c.code = bytes → c.maxLocals = maxL → meth.sig.returnType = rt → meth.locks = false → s.vm.findClass y.cls = some m.cls → meth.name = y.name → Z.Warmed39 s.vm → s₁.heap = h →
      oF p e below s rm.cells rm.slots Q (s₁.setTop (entryFrame m as' maxL))) : own_Con l Z ws y bytes maxL rt rm as' h Q := by
  refine MetFree.of_bodySF hpn hisR ?_
  intro p e s m args below meth c s₁ Bd hml0 hP hK
  obtain ⟨rfl, hZ, hh⟩ := hP
  exact H p e s m below meth c s₁ (Stand.of_body Bd) Bd.exec Bd.bytes hml0 Bd.returns (BodyLoose.notSynchronized Bd) (findClass_of_methodNamed Bd.named) (name_of_methodNamed Bd.named Bd.method).1 hZ (by rw [← hh, Bd.state]; rfl)
theorem own_callS (X : Stand p l e R s m args below meth c T locs cells slots) (hx : p.tables.exec = Jvm.exec) (hZ : Z.Warmed39 s.vm) {own : String} {index : Nat} {y : MethodName} {bytes : ByteArray} {maxL : Nat} {rt : Option FieldType} (hown : s.vm.findClass own = some m.cls)
    (w1 : (Jvm.Cond.methodLink own index y).before a0 Z = true) (w2 : (Jvm.Cond.static y).before a0 Z = true) (w4 : (Jvm.Cond.code y bytes maxL rt).before a0 Z = true) (w3 : (Jvm.Cond.initialized y.cls).before a0 Z = true) (hy : y.cls ≠ "java/lang/invoke/MethodHandle" ∧ y.cls ≠ "java/lang/invoke/VarHandle")
    (eT : T.heap = h) {rm : Room} {W : Nat} {argsL rest : List Value} (K : own_Con l Z [] y bytes maxL rt rm argsL.toArray h Q) (hf : rm.frames + 1 ≤ R.frames) (hl : W + (maxL + 11) + rm.locals ≤ R.locals)
    {g : JFrame} (hg : g.method = m) (hsize : g.locals.size = c.maxLocals) (hlen : ∀ sig, parseMethodDescriptor y.desc = some sig → argsL.length = sig.parameters.length)
    (hstack : g.stack = argsL.reverse ++ rest) (hW : 2 * g.monitorRoom + (rest.map fun v => v.category).sum ≤ W) (hdg : decode c.code g.pc = .ok (.invokestatic index, 3)) (hc : cells + rm.cells ≤ R.cells) (hs : slots + rm.slots ≤ R.slots) :
    ∃ (v : Option Value) (T' : State) (L : List Loc), Stand p l e R s m args below meth c T' (locs ++ L) (cells + rm.cells) (slots + rm.slots) ∧ Q v T'.heap L ∧
      ∀ target, Steps p.tables e below (T'.setTop { g with pc := g.pc + 3, stack := v.toList ++ rest }) target → Steps p.tables e below (T.setTop g) target := by
  obtain ⟨v, _, ⟨T', L', k', n'⟩, -, X', ⟨L, hQ, q1, q2, q3⟩, st⟩ := Jvm.LawKit.callS X hx hown (mvT hZ w1) (mvT hZ w2) (mvT hZ w3) (mvT hZ w4) hy (backOf (W := W) K hZ w4 w3 hf hl) hg hsize hlen hstack hW hdg (fun _ _ => ⟨rfl, eT, hc, hs⟩)
  dsimp only [Pt.U, Pt.locs, Pt.cells, Pt.slots] at X' q1 q2 q3 st hQ
  subst q1 q2 q3
  exact ⟨v, T', L, X', hQ, st⟩
theorem own_callSP (X : Stand p l e R s m args below meth c T locs cells slots) (hx : p.tables.exec = Jvm.exec) (hZ : Z.Warmed39 s.vm) {own : String} {index : Nat} {y : MethodName} {bytes : ByteArray} {maxL : Nat} {rt : Option FieldType} (hown : s.vm.findClass own = some m.cls)
    (w1 : (Jvm.Cond.methodLink own index y).before a0 Z = true) (w2 : (Jvm.Cond.static y).before a0 Z = true) (w4 : (Jvm.Cond.code y bytes maxL rt).before a0 Z = true) (w3 : (Jvm.Cond.initialized y.cls).before a0 Z = true) (hy : y.cls ≠ "java/lang/invoke/MethodHandle" ∧ y.cls ≠ "java/lang/invoke/VarHandle")
    (eT : T.heap = h) {rf rl : Nat} {W : Nat} {argsL rest : List Value} {r : Value} (K : own_Con l Z [] y bytes maxL rt { frames := rf, cells := 0, slots := 0, locals := rl } argsL.toArray h (own_Q1 (some r) h)) (hf : rf + 1 ≤ R.frames) (hl : W + (maxL + 11) + rl ≤ R.locals)
    {g : JFrame} (hg : g.method = m) (hsize : g.locals.size = c.maxLocals) (hlen : ∀ sig, parseMethodDescriptor y.desc = some sig → argsL.length = sig.parameters.length)
    (hstack : g.stack = argsL.reverse ++ rest) (hW : 2 * g.monitorRoom + (rest.map fun v => v.category).sum ≤ W) (hdg : decode c.code g.pc = .ok (.invokestatic index, 3)) (hc : cells ≤ R.cells) (hs : slots ≤ R.slots) :
    ∃ T' : State, Stand p l e R s m args below meth c T' locs cells slots ∧ T'.heap = h ∧
      ∀ target, Steps p.tables e below (T'.setTop { g with pc := g.pc + 3, stack := r :: rest }) target → Steps p.tables e below (T.setTop g) target := by
  obtain ⟨v, T', L, X', ⟨rfl, hh, rfl⟩, st⟩ := own_callS X hx hZ hown w1 w2 w4 w3 hy eT (W := W) K hf hl hg hsize hlen hstack hW hdg hc hs
  rw [List.append_nil] at X'
  exact ⟨T', X', hh, st⟩
theorem own_callI (X : Stand p l e R s m args below meth c T locs cells slots) (hx : p.tables.exec = Jvm.exec) (hZ : Z.Warmed39 s.vm) {own : String} {index : Nat} {y : MethodName} (hy1 : y.name = "<init>") {bytes : ByteArray} {maxL : Nat} (hown : s.vm.findClass own = some m.cls)
    (w1 : (Jvm.Cond.methodLink own index y).before a0 Z = true) (w2 : (Jvm.Cond.instanceMethod y).before a0 Z = true) (w4 : (Jvm.Cond.code y bytes maxL none).before a0 Z = true) (w3 : (Jvm.Cond.initialized y.cls).before a0 Z = true) (hy : y.cls ≠ "java/lang/invoke/MethodHandle" ∧ y.cls ≠ "java/lang/invoke/VarHandle")
    (eT : T.heap = h) {rm : Room} {W : Nat} {a : Addr} {argsL rest : List Value} (K : own_Con l Z [] y bytes maxL none rm (.ref a :: argsL).toArray h Q) (hf : rm.frames + 1 ≤ R.frames) (hl : W + (maxL + 11) + rm.locals ≤ R.locals)
    {g : JFrame} (hg : g.method = m) (hsize : g.locals.size = c.maxLocals) (hlen : ∀ sig, parseMethodDescriptor y.desc = some sig → argsL.length = sig.parameters.length)
    (hstack : g.stack = argsL.reverse ++ .ref a :: rest) (hW : 2 * g.monitorRoom + (rest.map fun v => v.category).sum ≤ W) (hdg : decode c.code g.pc = .ok (.invokespecial index, 3)) (hc : cells + rm.cells ≤ R.cells) (hs : slots + rm.slots ≤ R.slots) :
    ∃ (v : Option Value) (T' : State) (L : List Loc), Stand p l e R s m args below meth c T' (locs ++ L) (cells + rm.cells) (slots + rm.slots) ∧ Q v T'.heap L ∧
      ∀ target, Steps p.tables e below (T'.setTop { g with pc := g.pc + 3, stack := v.toList ++ rest }) target → Steps p.tables e below (T.setTop g) target := by
  obtain ⟨v, _, ⟨T', L', k', n'⟩, -, X', ⟨L, hQ, q1, q2, q3⟩, st⟩ := X.specialBack hx hy1 hown (mvT hZ w1) (mvT hZ w2) (mvT hZ w4) hy (backOf (W := W) K hZ w4 w3 hf hl) hg hsize (Steps.refl _) (a := a) hlen hstack hW hdg (fun _ _ => ⟨rfl, eT, hc, hs⟩)
  dsimp only [Pt.U, Pt.locs, Pt.cells, Pt.slots] at X' q1 q2 q3 st hQ
  subst q1 q2 q3
  exact ⟨v, T', L, X', hQ, fun t k => st.trans k⟩
theorem own_callIP (X : Stand p l e R s m args below meth c T locs cells slots) (hx : p.tables.exec = Jvm.exec) (hZ : Z.Warmed39 s.vm) {own : String} {index : Nat} {y : MethodName} (hy1 : y.name = "<init>") {bytes : ByteArray} {maxL : Nat} (hown : s.vm.findClass own = some m.cls)
    (w1 : (Jvm.Cond.methodLink own index y).before a0 Z = true) (w2 : (Jvm.Cond.instanceMethod y).before a0 Z = true) (w4 : (Jvm.Cond.code y bytes maxL none).before a0 Z = true) (w3 : (Jvm.Cond.initialized y.cls).before a0 Z = true) (hy : y.cls ≠ "java/lang/invoke/MethodHandle" ∧ y.cls ≠ "java/lang/invoke/VarHandle")
    (eT : T.heap = h) {rf rl : Nat} {W : Nat} {a : Addr} {argsL rest : List Value} (K : own_Con l Z [] y bytes maxL none { frames := rf, cells := 0, slots := 0, locals := rl } (.ref a :: argsL).toArray h (own_Q1 none h)) (hf : rf + 1 ≤ R.frames) (hl : W + (maxL + 11) + rl ≤ R.locals)
    {g : JFrame} (hg : g.method = m) (hsize : g.locals.size = c.maxLocals) (hlen : ∀ sig, parseMethodDescriptor y.desc = some sig → argsL.length = sig.parameters.length)
    (hstack : g.stack = argsL.reverse ++ .ref a :: rest) (hW : 2 * g.monitorRoom + (rest.map fun v => v.category).sum ≤ W) (hdg : decode c.code g.pc = .ok (.invokespecial index, 3)) (hc : cells ≤ R.cells) (hs : slots ≤ R.slots) :
    ∃ T' : State, Stand p l e R s m args below meth c T' locs cells slots ∧ T'.heap = h ∧
      ∀ target, Steps p.tables e below (T'.setTop { g with pc := g.pc + 3, stack := rest }) target → Steps p.tables e below (T.setTop g) target := by
  obtain ⟨v, T', L, X', ⟨rfl, hh, rfl⟩, st⟩ := own_callI X hx hZ hy1 hown w1 w2 w4 w3 hy eT (W := W) K hf hl hg hsize hlen hstack hW hdg hc hs
  rw [List.append_nil] at X'
  exact ⟨T', X', hh, st⟩
theorem own_callV (X : Stand p l e R s m args below meth c T locs cells slots) (hx : p.tables.exec = Jvm.exec) (hZ : Z.Warmed39 s.vm) {own C : String} {index : Nat} {y z : MethodName} {bytes : ByteArray} {maxL : Nat} {rt : Option FieldType} (hown : s.vm.findClass own = some m.cls)
    (w1 : (Jvm.Cond.methodLink own index y).before a0 Z = true) (w2 : (Jvm.Cond.declares y).before a0 Z = true) (hnf : NotFace s y) (ws : (Jvm.Cond.selects C y z).before a0 Z = true) (wi : (Jvm.Cond.instanceMethod z).before a0 Z = true) (hy : y.cls ≠ "java/lang/invoke/MethodHandle" ∧ y.cls ≠ "java/lang/invoke/VarHandle")
    (eT : T.heap = h) {b : Addr} (E : Exa Z h b C) {rm : Room} {W : Nat} {argsL rest : List Value} (K : own_Con l Z [] z bytes maxL rt rm (.ref b :: argsL).toArray h Q) (w4 : (Jvm.Cond.code z bytes maxL rt).before a0 Z = true) (w3 : (Jvm.Cond.initialized z.cls).before a0 Z = true) (hf : rm.frames + 1 ≤ R.frames) (hl : W + (maxL + 11) + rm.locals ≤ R.locals)
    {g : JFrame} (hg : g.method = m) (hsize : g.locals.size = c.maxLocals) (hlen : ∀ sig, parseMethodDescriptor y.desc = some sig → argsL.length = sig.parameters.length)
    (hstack : g.stack = argsL.reverse ++ .ref b :: rest) (hW : 2 * g.monitorRoom + (rest.map fun v => v.category).sum ≤ W) (hdg : decode c.code g.pc = .ok (.invokevirtual index, 3)) (hc : cells + rm.cells ≤ R.cells) (hs : slots + rm.slots ≤ R.slots) :
    ∃ (v : Option Value) (T' : State) (L : List Loc), Stand p l e R s m args below meth c T' (locs ++ L) (cells + rm.cells) (slots + rm.slots) ∧ Q v T'.heap L ∧
      ∀ target, Steps p.tables e below (T'.setTop { g with pc := g.pc + 3, stack := v.toList ++ rest }) target → Steps p.tables e below (T.setTop g) target := by
  obtain ⟨cq, kq, qa, qb, qc⟩ := isOf hZ eT E
  obtain ⟨v, _, ⟨T', L', k', n'⟩, -, X', ⟨L, hQ, q1, q2, q3⟩, st⟩ := X.virtualBack hx hown (mvT hZ w1) (mvT hZ w2) hnf (mvT hZ ws) (mvT hZ wi) hy (backOf (W := W) K hZ w4 w3 hf hl) qa qc hg hsize (Steps.refl _) hlen hstack hW hdg (fun _ _ => ⟨rfl, eT, hc, hs⟩)
  dsimp only [Pt.U, Pt.locs, Pt.cells, Pt.slots] at X' q1 q2 q3 st hQ
  subst q1 q2 q3
  exact ⟨v, T', L, X', hQ, fun t k => st.trans k⟩
theorem own_callVP (X : Stand p l e R s m args below meth c T locs cells slots) (hx : p.tables.exec = Jvm.exec) (hZ : Z.Warmed39 s.vm) {own C : String} {index : Nat} {y z : MethodName} {bytes : ByteArray} {maxL : Nat} {rt : Option FieldType} (hown : s.vm.findClass own = some m.cls)
    (w1 : (Jvm.Cond.methodLink own index y).before a0 Z = true) (w2 : (Jvm.Cond.declares y).before a0 Z = true) (hnf : NotFace s y) (ws : (Jvm.Cond.selects C y z).before a0 Z = true) (wi : (Jvm.Cond.instanceMethod z).before a0 Z = true) (hy : y.cls ≠ "java/lang/invoke/MethodHandle" ∧ y.cls ≠ "java/lang/invoke/VarHandle")
    (eT : T.heap = h) {b : Addr} (E : Exa Z h b C) {rf rl : Nat} {W : Nat} {argsL rest : List Value} {r : Value} (K : own_Con l Z [] z bytes maxL rt { frames := rf, cells := 0, slots := 0, locals := rl } (.ref b :: argsL).toArray h (own_Q1 (some r) h)) (w4 : (Jvm.Cond.code z bytes maxL rt).before a0 Z = true) (w3 : (Jvm.Cond.initialized z.cls).before a0 Z = true) (hf : rf + 1 ≤ R.frames) (hl : W + (maxL + 11) + rl ≤ R.locals)
    {g : JFrame} (hg : g.method = m) (hsize : g.locals.size = c.maxLocals) (hlen : ∀ sig, parseMethodDescriptor y.desc = some sig → argsL.length = sig.parameters.length)
    (hstack : g.stack = argsL.reverse ++ .ref b :: rest) (hW : 2 * g.monitorRoom + (rest.map fun v => v.category).sum ≤ W) (hdg : decode c.code g.pc = .ok (.invokevirtual index, 3)) (hc : cells ≤ R.cells) (hs : slots ≤ R.slots) :
    ∃ T' : State, Stand p l e R s m args below meth c T' locs cells slots ∧ T'.heap = h ∧
      ∀ target, Steps p.tables e below (T'.setTop { g with pc := g.pc + 3, stack := r :: rest }) target → Steps p.tables e below (T.setTop g) target := by
  obtain ⟨v, T', L, X', ⟨rfl, hh, rfl⟩, st⟩ := own_callV X hx hZ hown w1 w2 hnf ws wi hy eT E (W := W) K w4 w3 hf hl hg hsize hlen hstack hW hdg hc hs
  rw [List.append_nil] at X'
  exact ⟨T', X', hh, st⟩
theorem own_cl_eq {x y : Int64} (h : x = y) : Jvm.Free.XT.cmpL x y = 0 := by
  subst h; unfold Jvm.Free.XT.cmpL
  rw [if_neg (by rw [Int64.lt_iff_toInt_lt]; omega), if_pos rfl]
theorem own_cl_eq_n {x y : Int64} (h : ¬ x = y) : ¬ Jvm.Free.XT.cmpL x y = 0 := by
  unfold Jvm.Free.XT.cmpL
  by_cases h1 : y < x
  · rw [if_pos h1]; decide
  · rw [if_neg h1, if_neg h]; decide
theorem own_cl_gt {x y : Int64} (h : y < x) : (0 : Int32) < Jvm.Free.XT.cmpL x y := by
  unfold Jvm.Free.XT.cmpL; rw [if_pos h]; decide
theorem own_cl_gt_n {x y : Int64} (h : ¬ y < x) : ¬ (0 : Int32) < Jvm.Free.XT.cmpL x y := by
  unfold Jvm.Free.XT.cmpL; rw [if_neg h]
  by_cases h1 : x = y
  · rw [if_pos h1]; decide
  · rw [if_neg h1]; decide
theorem own_cl_lt {x y : Int64} (h : x < y) : Jvm.Free.XT.cmpL x y < (0 : Int32) := by
  unfold Jvm.Free.XT.cmpL
  rw [if_neg (by rw [Int64.lt_iff_toInt_lt] at h ⊢; omega), if_neg (by intro q; subst q; rw [Int64.lt_iff_toInt_lt] at h; omega)]; decide
theorem own_cl_lt_n {x y : Int64} (h : ¬ x < y) : ¬ Jvm.Free.XT.cmpL x y < (0 : Int32) := by
  unfold Jvm.Free.XT.cmpL
  by_cases h1 : y < x
  · rw [if_pos h1]; decide
  · rw [if_neg h1]
    have h2 : x = y := by
      rw [Int64.lt_iff_toInt_lt] at h h1
      exact Int64.toInt_inj.mp (by omega)
    rw [if_pos h2]; decide
theorem own_eq_int {a : Array Value} {s : State} {t : Term} {k : Int32} (h : (Jvm.Cond.eq t (Term.int k)).value a s none s [] = some true) : t.eval a s none [] s = some (.int k) := by
  obtain ⟨x, y, hx, hy, k1, k2⟩ := cmp_v (Or.inl h)
  obtain rfl : y = .int k := Option.some.inj (hy.symm.trans (Term.int_eval k))
  obtain ⟨z, rfl⟩ := k2
  rw [hx, gotT (Cond.eq_ints hx hy) h]
end Own
section OwnArr
variable {p : Program} {l : Launch} {e : Env} {R : Room} {s : State} {m : MethodId} {args : Array Value} {below : List Frame} {meth : Method} {c : Code} {T : State} {locs : List Loc} {cells slots : Nat}
variable {Z : State} {a0 : Array Value} {h h' : Heap} {a b : Addr} {ty : FieldType} {n k : Nat} {f f' : Nat → Value} {v : Value} {sl : Nat} {j x : Int32} {ws : List Addr}
/-- an array of n components, the i-th of which is f i -/
def own_Ar (Z : State) (h : Heap) (a : Addr) (ty : FieldType) (n : Nat) (f : Nat → Value) : Prop := n < 2 ^ 31 ∧ ∃ cl : Cell, Arr Z h a cl ty ∧ cl.slots.size = n ∧ ∀ i, i < n → cl.slots[i]? = some (f i)
def own_up (f : Nat → Value) (k : Nat) (v : Value) : Nat → Value := fun i => if i = k then v else f i
theorem own_Ar.lt (F : own_Ar Z h a ty n f) : a < h.size := by obtain ⟨_, c, A, -⟩ := F; exact A.lt
theorem own_Ar.ext (F : own_Ar Z h a ty n f) (E : Ext h h') : own_Ar Z h' a ty n f := by obtain ⟨q, c, A, r⟩ := F; exact ⟨q, c, A.ext E, r⟩
theorem own_Ar.other (F : own_Ar Z h b ty n f) (W : Wr h h' a sl v) (q : b ≠ a) : own_Ar Z h' b ty n f := by obtain ⟨q', c, A, r⟩ := F; exact ⟨q', c, A.other W q, r⟩
theorem own_Ar.keep (F : own_Ar Z h a ty n f) (K : Keep h h' ws) (q : a ∉ ws) : own_Ar Z h' a ty n f := by obtain ⟨q', c, A, r⟩ := F; exact ⟨q', c, ⟨K.2.1 a c A.1 q, A.2⟩, r⟩
theorem own_Ar.congr (F : own_Ar Z h a ty n f) (q : ∀ i, i < n → f i = f' i) : own_Ar Z h a ty n f' := by obtain ⟨q', c, A, r, H⟩ := F; exact ⟨q', c, A, r, fun i hi => by rw [← q i hi]; exact H i hi⟩
theorem own_in (hj : j.toInt = (k : Int)) (hk : k < n) : ¬ (j < 0 ∨ n ≤ j.toNatClampNeg) ∧ j.toNatClampNeg = k := by
  have h1 : ¬ j < 0 := by rw [Int32.lt_iff_toInt_lt, show (0 : Int32).toInt = 0 from rfl]; omega
  have h2 := nat_of h1
  refine ⟨fun q => ?_, by omega⟩
  rcases q with q | q
  · exact h1 q
  · omega
theorem own_Ar.set (F : own_Ar Z h a ty n f) (W : Wr h h' a k v) (hk : k < n) : own_Ar Z h' a ty n (own_up f k v) := by
  obtain ⟨q, c, A, r, H⟩ := F
  obtain ⟨c', g1, g2, g3, g4, -, g6, g7⟩ := wr_at W A.1
  obtain ⟨g8, g9, -⟩ := g7 rfl
  refine ⟨q, c', ?_, by rw [g4, r], fun i hi => ?_⟩
  · rw [g8]; exact A.same W
  · unfold own_up
    by_cases hik : i = k
    · subst hik; rw [if_pos rfl]; exact g9
    · rw [if_neg hik, g6 i hik]; exact H i hi
theorem own_newP (X : Stand p l e R s m args below meth c T locs cells slots) (hx : p.tables.exec = Jvm.exec) (hZ : Z.Warmed39 s.vm) {aty : ArrayType} (w : (Jvm.Cond.arrayClass (newarray.typeOf aty)).before a0 Z = true) (eT : T.heap = h) {g : JFrame} (hg : g.method = m) (hd : decode c.code g.pc = .ok (.newarray aty, 2)) {rest : List Value} (hs : g.stack = .int j :: rest)
    (hj : j.toInt = (k : Int)) {cap : Nat} (hcap : k ≤ cap) (hb : cap * 8 ≤ 536870912) (hc : cells + 1 ≤ R.cells) (hl : slots + cap ≤ R.slots) :
    ∃ T' h', Stand p l e R s m args below meth c T' locs (cells + 1) (slots + cap) ∧ T'.heap = h' ∧ Ext h h' ∧ own_Ar Z h' h.size (newarray.typeOf aty) k (fun _ => defaultValue (newarray.typeOf aty)) ∧
      ∀ target, Steps p.tables e below (T'.setTop { g with pc := g.pc + 2, stack := .ref h.size :: rest }) target → Steps p.tables e below (T.setTop g) target := by
  have h1 : ¬ j < 0 := by rw [Int32.lt_iff_toInt_lt, show (0 : Int32).toInt = 0 from rfl]; omega
  have h2 : j.toNatClampNeg = k := by have := nat_of h1; omega
  obtain ⟨T', h', cA, X', e', E', A', st⟩ := newP X hx hZ w eT hg hd hs h1 (cap := cap) (by omega) hb hc hl
  refine ⟨T', h', X', e', E', ⟨by have := j.toInt_lt; omega, _, A', by rw [sz_new]; exact h2, fun i hi => ?_⟩, st⟩
  simp only [newA, h2, Array.getElem?_replicate, hi, if_true]
theorem own_stB (X : Stand p l e R s m args below meth c T locs cells slots) (hx : p.tables.exec = Jvm.exec) (hZ : Z.Warmed39 s.vm) (eT : T.heap = h) (A : own_Ar Z h a .byte n f) (hj : j.toInt = (k : Int)) (hk : k < n) {g : JFrame} (hg : g.method = m) {rest : List Value} (hs : g.stack = .int x :: .int j :: .ref a :: rest) (hd : decode c.code g.pc = .ok (.bastore, 1)) :
    ∃ T' h', Stand p l e R s m args below meth c T' (locs ++ [⟨a, k⟩]) cells slots ∧ T'.heap = h' ∧ Wr h h' a k (.int x.toInt8.toInt32) ∧ ∀ target, Steps p.tables e below (T'.setTop { g with pc := g.pc + 1, stack := rest }) target → Steps p.tables e below (T.setTop g) target := by
  obtain ⟨_, cl, Ar, q, _⟩ := A
  obtain ⟨T', h', X', e', W, st⟩ := stB X hx hZ eT Ar (j := j) (x := x) (by rw [q]; exact (own_in hj hk).1) hg hs hd
  rw [(own_in hj hk).2] at X' W
  exact ⟨T', h', X', e', W, st⟩
theorem own_stI (X : Stand p l e R s m args below meth c T locs cells slots) (hx : p.tables.exec = Jvm.exec) (hZ : Z.Warmed39 s.vm) (eT : T.heap = h) (A : own_Ar Z h a .int n f) (hj : j.toInt = (k : Int)) (hk : k < n) {g : JFrame} (hg : g.method = m) {rest : List Value} (hs : g.stack = .int x :: .int j :: .ref a :: rest) (hd : decode c.code g.pc = .ok (.iastore, 1)) :
    ∃ T' h', Stand p l e R s m args below meth c T' (locs ++ [⟨a, k⟩]) cells slots ∧ T'.heap = h' ∧ Wr h h' a k (.int x) ∧ ∀ target, Steps p.tables e below (T'.setTop { g with pc := g.pc + 1, stack := rest }) target → Steps p.tables e below (T.setTop g) target := by
  obtain ⟨_, cl, Ar, q, _⟩ := A
  obtain ⟨T', h', X', e', W, st⟩ := stI X hx hZ eT Ar (j := j) (x := x) (by rw [q]; exact (own_in hj hk).1) hg hs hd
  rw [(own_in hj hk).2] at X' W
  exact ⟨T', h', X', e', W, st⟩
theorem own_stJ {y : Int64} (X : Stand p l e R s m args below meth c T locs cells slots) (hx : p.tables.exec = Jvm.exec) (hZ : Z.Warmed39 s.vm) (eT : T.heap = h) (A : own_Ar Z h a .long n f) (hj : j.toInt = (k : Int)) (hk : k < n) {g : JFrame} (hg : g.method = m) {rest : List Value} (hs : g.stack = .long y :: .int j :: .ref a :: rest) (hd : decode c.code g.pc = .ok (.lastore, 1)) :
    ∃ T' h', Stand p l e R s m args below meth c T' (locs ++ [⟨a, k⟩]) cells slots ∧ T'.heap = h' ∧ Wr h h' a k (.long y) ∧ ∀ target, Steps p.tables e below (T'.setTop { g with pc := g.pc + 1, stack := rest }) target → Steps p.tables e below (T.setTop g) target := by
  obtain ⟨_, cl, Ar, q, _⟩ := A
  obtain ⟨T', h', X', e', W, st⟩ := stJ X hx hZ eT Ar (j := j) (x := y) (by rw [q]; exact (own_in hj hk).1) hg hs hd
  rw [(own_in hj hk).2] at X' W
  exact ⟨T', h', X', e', W, st⟩
theorem own_stC (X : Stand p l e R s m args below meth c T locs cells slots) (hx : p.tables.exec = Jvm.exec) (hZ : Z.Warmed39 s.vm) (eT : T.heap = h) (A : own_Ar Z h a .char n f) (hj : j.toInt = (k : Int)) (hk : k < n) {g : JFrame} (hg : g.method = m) {rest : List Value} (hs : g.stack = .int x :: .int j :: .ref a :: rest) (hd : decode c.code g.pc = .ok (.castore, 1)) :
    ∃ T' h', Stand p l e R s m args below meth c T' (locs ++ [⟨a, k⟩]) cells slots ∧ T'.heap = h' ∧ Wr h h' a k (.int x.toUInt32.toUInt16.toUInt32.toInt32) ∧ ∀ target, Steps p.tables e below (T'.setTop { g with pc := g.pc + 1, stack := rest }) target → Steps p.tables e below (T.setTop g) target := by
  obtain ⟨_, cl, Ar, q, _⟩ := A
  obtain ⟨T', h', X', e', W, st⟩ := stC X hx hZ eT Ar (j := j) (x := x) (by rw [q]; exact (own_in hj hk).1) hg hs hd
  rw [(own_in hj hk).2] at X' W
  exact ⟨T', h', X', e', W, st⟩
theorem own_ldI (X : Stand p l e R s m args below meth c T locs cells slots) (hx : p.tables.exec = Jvm.exec) (hZ : Z.Warmed39 s.vm) (eT : T.heap = h) (A : own_Ar Z h a .int n f) (hj : j.toInt = (k : Int)) (hk : k < n) (hv : f k = v) {g : JFrame} (hg : g.method = m) {rest : List Value} (hs : g.stack = .int j :: .ref a :: rest) (hd : decode c.code g.pc = .ok (.iaload, 1)) (target : State)
    (kt : Steps p.tables e below (T.setTop { g with pc := g.pc + 1, stack := v :: rest }) target) : Steps p.tables e below (T.setTop g) target := by
  obtain ⟨_, cl, Ar, q, H⟩ := A
  exact X.iaload hx (by rw [eT]; exact Ar.1) (State.isArrayOf_alike hZ.alike Ar.2.1) Ar.2.2 (by rw [q]; exact (own_in hj hk).1) (by rw [(own_in hj hk).2, ← hv]; exact H k hk) hg hs hd target kt
theorem own_ldJ (X : Stand p l e R s m args below meth c T locs cells slots) (hx : p.tables.exec = Jvm.exec) (hZ : Z.Warmed39 s.vm) (eT : T.heap = h) (A : own_Ar Z h a .long n f) (hj : j.toInt = (k : Int)) (hk : k < n) (hv : f k = v) {g : JFrame} (hg : g.method = m) {rest : List Value} (hs : g.stack = .int j :: .ref a :: rest) (hd : decode c.code g.pc = .ok (.laload, 1)) (target : State)
    (kt : Steps p.tables e below (T.setTop { g with pc := g.pc + 1, stack := v :: rest }) target) : Steps p.tables e below (T.setTop g) target := by
  obtain ⟨_, cl, Ar, q, H⟩ := A
  exact X.laload hx (by rw [eT]; exact Ar.1) (State.isArrayOf_alike hZ.alike Ar.2.1) Ar.2.2 (by rw [q]; exact (own_in hj hk).1) (by rw [(own_in hj hk).2, ← hv]; exact H k hk) hg hs hd target kt
theorem own_ldB (X : Stand p l e R s m args below meth c T locs cells slots) (hx : p.tables.exec = Jvm.exec) (hZ : Z.Warmed39 s.vm) (eT : T.heap = h) (A : own_Ar Z h a .byte n f) (hj : j.toInt = (k : Int)) (hk : k < n) (hv : f k = v) {g : JFrame} (hg : g.method = m) {rest : List Value} (hs : g.stack = .int j :: .ref a :: rest) (hd : decode c.code g.pc = .ok (.baload, 1)) (target : State)
    (kt : Steps p.tables e below (T.setTop { g with pc := g.pc + 1, stack := v :: rest }) target) : Steps p.tables e below (T.setTop g) target := by
  obtain ⟨_, cl, Ar, q, H⟩ := A
  exact X.baloadBytes hx (by rw [eT]; exact Ar.1) (State.isArrayOf_alike hZ.alike Ar.2.1) Ar.2.2 (by rw [q]; exact (own_in hj hk).1) (by rw [(own_in hj hk).2, ← hv]; exact H k hk) hg hs hd target kt
theorem own_ldC (X : Stand p l e R s m args below meth c T locs cells slots) (hx : p.tables.exec = Jvm.exec) (hZ : Z.Warmed39 s.vm) (eT : T.heap = h) (A : own_Ar Z h a .char n f) (hj : j.toInt = (k : Int)) (hk : k < n) (hv : f k = v) {g : JFrame} (hg : g.method = m) {rest : List Value} (hs : g.stack = .int j :: .ref a :: rest) (hd : decode c.code g.pc = .ok (.caload, 1)) (target : State)
    (kt : Steps p.tables e below (T.setTop { g with pc := g.pc + 1, stack := v :: rest }) target) : Steps p.tables e below (T.setTop g) target := by
  obtain ⟨_, cl, Ar, q, H⟩ := A
  exact X.caload hx (by rw [eT]; exact Ar.1) (State.isArrayOf_alike hZ.alike Ar.2.1) Ar.2.2 (by rw [q]; exact (own_in hj hk).1) (by rw [(own_in hj hk).2, ← hv]; exact H k hk) hg hs hd target kt
theorem own_len (X : Stand p l e R s m args below meth c T locs cells slots) (hx : p.tables.exec = Jvm.exec) (hZ : Z.Warmed39 s.vm) (eT : T.heap = h) (A : own_Ar Z h a ty n f) {g : JFrame} (hg : g.method = m) {rest : List Value} (hs : g.stack = .ref a :: rest) (hd : decode c.code g.pc = .ok (.arraylength, 1)) (target : State)
    (kt : Steps p.tables e below (T.setTop { g with pc := g.pc + 1, stack := .int n.toInt32 :: rest }) target) : Steps p.tables e below (T.setTop g) target := by
  obtain ⟨_, cl, Ar, q, H⟩ := A
  exact X.arraylength hx (by rw [eT]; exact Ar.1) (State.isArrayOf_alike hZ.alike Ar.2.1) hg hs hd target (by rw [q]; exact kt)
end OwnArr


def own_from (x : Int32) : Int32 := (x &&& (2147483647 : Int32)) % (10 : Int32)
def own_to (x : Int32) : Int32 := (x &&& (2147483647 : Int32)) % (9 : Int32)
theorem own_rem_nat (x n : Int32) (N : Nat) (hn : n.toInt = (N : Int)) (h0 : 0 < N) : ((x &&& (2147483647 : Int32)) % n).toInt = (((x &&& (2147483647 : Int32)) % n).toInt.toNat : Int) ∧ ((x &&& (2147483647 : Int32)) % n).toInt.toNat < N := by
  have e1 : (x &&& (2147483647 : Int32)).toInt = x.toInt % 2 ^ 31 := Jvm.Kit.i32_mask x 2147483647 (k := 31) (by decide) (by decide)
  have e2 : ((x &&& (2147483647 : Int32)) % n).toInt = (x &&& (2147483647 : Int32)).toInt % n.toInt := Jvm.Kit.i32_rem_nonneg (by omega)
  rw [hn] at e2
  have a := Int.emod_nonneg (x &&& (2147483647 : Int32)).toInt (show (N : Int) ≠ 0 by omega)
  have b := Int.emod_lt_of_pos (x &&& (2147483647 : Int32)).toInt (show (0 : Int) < N by omega)
  omega
theorem own_from_nat (x : Int32) : (own_from x).toInt = ((own_from x).toInt.toNat : Int) ∧ (own_from x).toInt.toNat < 10 := own_rem_nat x 10 10 rfl (by decide)
theorem own_to_nat (x : Int32) : (own_to x).toInt = ((own_to x).toInt.toNat : Int) ∧ (own_to x).toInt.toNat < 9 := own_rem_nat x 9 9 rfl (by decide)
theorem own_addk {j : Int32} {k : Nat} (hj : j.toInt = (k : Int)) (c : Int32) (d : Nat) (hc : c.toInt = (d : Int)) (hk : k + d < 1000000) : (j + c).toInt = ((k + d : Nat) : Int) := by
  rw [Jvm.Kit.i32_add (by rw [hj, hc]; omega) (by rw [hj, hc]; omega), hj, hc]; omega
def own_scan (f : Nat → Int32) (t : Nat) : Nat → Nat → Int32
  | 0, _ => -1
  | n + 1, i => if i + 3 < t then (if f i = 13 then (if f (i + 1) = 10 then (if f (i + 2) = 13 then (if f (i + 3) = 10 then Int32.ofNat (i + 4) else own_scan f t n (i + 1)) else own_scan f t n (i + 1)) else own_scan f t n (i + 1)) else own_scan f t n (i + 1)) else -1
theorem own_lt3 {x y : Int32} {i t : Nat} (hx : x.toInt = (i : Int)) (hy : y.toInt = (t : Int)) (hi : i < 20) : (x + (3 : Int32) < y) ↔ i + 3 < t := by
  rw [Int32.lt_iff_toInt_lt, own_addk hx 3 3 rfl (by omega), hy]; omega
theorem own_stop {x y : Int32} {i t : Nat} (hx : x.toInt = (i : Int)) (hy : y.toInt = (t : Int)) (hi : i < 20) (h : t ≤ i + 3) : ¬ (x + (3 : Int32) < y) := by rw [own_lt3 hx hy hi]; omega
theorem own_go {x y : Int32} {i t : Nat} (hx : x.toInt = (i : Int)) (hy : y.toInt = (t : Int)) (hi : i < 20) (h : x + (3 : Int32) < y) : i + 3 < t := (own_lt3 hx hy hi).mp h
theorem own_nogo {x y : Int32} {i t : Nat} (hx : x.toInt = (i : Int)) (hy : y.toInt = (t : Int)) (hi : i < 20) (h : ¬ x + (3 : Int32) < y) : ¬ i + 3 < t := fun q => h ((own_lt3 hx hy hi).mpr q)
theorem own_four {x : Int32} {i : Nat} (hx : x.toInt = (i : Int)) (hi : i < 20) : x + (4 : Int32) = Int32.ofNat (i + 4) :=
  Int32.toInt_inj.mp (by rw [own_addk hx 4 4 rfl (by omega)]; exact (Int32.toInt_ofNat_small (by omega)).symm)
theorem own_scan_stop (f : Nat → Int32) {t n i : Nat} (h : ¬ i + 3 < t) : own_scan f t n i = -1 := by
  cases n with
  | zero => rfl
  | succ n => unfold own_scan; rw [if_neg h]
theorem own_scan_hit (f : Nat → Int32) (n : Nat) {t i : Nat} (h : i + 3 < t) (h1 : f i = 13) (h2 : f (i + 1) = 10) (h3 : f (i + 2) = 13) (h4 : f (i + 3) = 10) : own_scan f t (n + 1) i = Int32.ofNat (i + 4) := by
  rw [own_scan, if_pos h, if_pos h1, if_pos h2, if_pos h3, if_pos h4]
theorem own_scan_next1 (f : Nat → Int32) (n : Nat) {t i : Nat} (h : i + 3 < t) (h1 : ¬ f i = 13) : own_scan f t (n + 1) i = own_scan f t n (i + 1) := by
  rw [own_scan, if_pos h, if_neg h1]
theorem own_scan_next2 (f : Nat → Int32) (n : Nat) {t i : Nat} (h : i + 3 < t) (h1 : f i = 13) (h2 : ¬ f (i + 1) = 10) : own_scan f t (n + 1) i = own_scan f t n (i + 1) := by
  rw [own_scan, if_pos h, if_pos h1, if_neg h2]
theorem own_scan_next3 (f : Nat → Int32) (n : Nat) {t i : Nat} (h : i + 3 < t) (h1 : f i = 13) (h2 : f (i + 1) = 10) (h3 : ¬ f (i + 2) = 13) : own_scan f t (n + 1) i = own_scan f t n (i + 1) := by
  rw [own_scan, if_pos h, if_pos h1, if_pos h2, if_neg h3]
theorem own_scan_next4 (f : Nat → Int32) (n : Nat) {t i : Nat} (h : i + 3 < t) (h1 : f i = 13) (h2 : f (i + 1) = 10) (h3 : f (i + 2) = 13) (h4 : ¬ f (i + 3) = 10) : own_scan f t (n + 1) i = own_scan f t n (i + 1) := by
  rw [own_scan, if_pos h, if_pos h1, if_pos h2, if_pos h3, if_neg h4]
def own_P (f : Nat → Int32) (t i : Nat) : Prop := i + 3 < t ∧ f i = 13 ∧ f (i + 1) = 10 ∧ f (i + 2) = 13 ∧ f (i + 3) = 10
theorem own_scan_miss (f : Nat → Int32) (n : Nat) {t i : Nat} (h : i + 3 < t) (q : ¬ own_P f t i) : own_scan f t (n + 1) i = own_scan f t n (i + 1) := by
  by_cases h1 : f i = 13
  · by_cases h2 : f (i + 1) = 10
    · by_cases h3 : f (i + 2) = 13
      · by_cases h4 : f (i + 3) = 10
        · exact absurd ⟨h, h1, h2, h3, h4⟩ q
        · exact own_scan_next4 f n h h1 h2 h3 h4
      · exact own_scan_next3 f n h h1 h2 h3
    · exact own_scan_next2 f n h h1 h2
  · exact own_scan_next1 f n h h1
theorem own_scan_none (f : Nat → Int32) (t : Nat) : ∀ (n i : Nat), (∀ k, i ≤ k → ¬ own_P f t k) → own_scan f t n i = -1
  | 0, _, _ => rfl
  | n + 1, i, q => by
    by_cases h : i + 3 < t
    · rw [own_scan_miss f n h (q i (Nat.le_refl _))]; exact own_scan_none f t n (i + 1) (fun k hk => q k (by omega))
    · exact own_scan_stop f h
theorem own_scan_first (f : Nat → Int32) (t : Nat) {k : Nat} (hk : own_P f t k) : ∀ (n i : Nat), i ≤ k → k < i + n → (∀ j, i ≤ j → j < k → ¬ own_P f t j) → own_scan f t n i = Int32.ofNat (k + 4)
  | 0, i, h1, h2, _ => by omega
  | n + 1, i, h1, h2, q => by
    by_cases e : i = k
    · subst e; exact own_scan_hit f n hk.1 hk.2.1 hk.2.2.1 hk.2.2.2.1 hk.2.2.2.2
    · rw [own_scan_miss f n (by have := hk.1; omega) (q i (Nat.le_refl _) (by omega))]
      exact own_scan_first f t hk n (i + 1) (by omega) (by omega) (fun j h3 h4 => q j (by omega) h4)

theorem own_d1_0 : decode method_2_code 0 = .ok (.iload_n 0, 1) := by decide +kernel
theorem own_d1_1 : decode method_2_code 1 = .ok (.iconst 2, 1) := by decide +kernel
theorem own_d1_2 : decode method_2_code 2 = .ok (.iload_n 3, 1) := by decide +kernel
theorem own_d1_3 : decode method_2_code 3 = .ok (.imul, 1) := by decide +kernel
theorem own_d1_4 : decode method_2_code 4 = .ok (.iushr, 1) := by decide +kernel
theorem own_d1_5 : decode method_2_code 5 = .ok (.iconst 3, 1) := by decide +kernel
theorem own_d1_6 : decode method_2_code 6 = .ok (.iand, 1) := by decide +kernel
theorem own_d1_7 : decode method_2_code 7 = .ok (.istore 4, 2) := by decide +kernel
theorem own_d1_9 : decode method_2_code 9 = .ok (.iload 4, 2) := by decide +kernel
theorem own_d1_11 : decode method_2_code 11 = .ok (.ifCond .ne 6, 3) := by decide +kernel
theorem own_d1_14 : decode method_2_code 14 = .ok (.bipush 13, 2) := by decide +kernel
theorem own_d1_16 : decode method_2_code 16 = .ok (.ireturn, 1) := by decide +kernel
theorem own_d1_17 : decode method_2_code 17 = .ok (.iload 4, 2) := by decide +kernel
theorem own_d1_19 : decode method_2_code 19 = .ok (.iconst 1, 1) := by decide +kernel
theorem own_d1_20 : decode method_2_code 20 = .ok (.if_icmp .ne 6, 3) := by decide +kernel
theorem own_d1_23 : decode method_2_code 23 = .ok (.bipush 10, 2) := by decide +kernel
theorem own_d1_25 : decode method_2_code 25 = .ok (.ireturn, 1) := by decide +kernel
theorem own_d1_26 : decode method_2_code 26 = .ok (.lload_n 1, 1) := by decide +kernel
theorem own_d1_27 : decode method_2_code 27 = .ok (.bipush 8, 2) := by decide +kernel
theorem own_d1_29 : decode method_2_code 29 = .ok (.iload_n 3, 1) := by decide +kernel
theorem own_d1_30 : decode method_2_code 30 = .ok (.imul, 1) := by decide +kernel
theorem own_d1_31 : decode method_2_code 31 = .ok (.lushr, 1) := by decide +kernel
theorem own_d1_32 : decode method_2_code 32 = .ok (.l2i, 1) := by decide +kernel
theorem own_d1_33 : decode method_2_code 33 = .ok (.i2b, 1) := by decide +kernel
theorem own_d1_34 : decode method_2_code 34 = .ok (.ireturn, 1) := by decide +kernel
theorem own_pn_RequestHeadEndPinLaw : plainName "com/example/verdict_across_domains/command/RequestHeadEndPinLaw" = true := by first | (simp [plainName, overriddenIn]; done) | decide +kernel
theorem own_ef1 (m : MethodId) (x0 : Int32) (x1 : Int64) (x2 : Int32) : entryFrame m #[(.int x0), (.long x1), (.int x2)] 5 = mkF m 0 #[.val (.int x0), .val (.long x1), .second, .val (.int x2), .unset] [] := by first | (simp [entryFrame, mkF, argsToLocals, Value.category, maxLocals]; done) | rfl
def own_pick (p1 : Int32) (p2 : Int64) (p3 : Int32) : Int32 := (if ((Jvm.Free.XT.ushr p1 ((2 : Int32) * p3)) &&& (3 : Int32)) = (0 : Int32) then ((13 : Int32)).toInt8.toInt32 else (if ((Jvm.Free.XT.ushr p1 ((2 : Int32) * p3)) &&& (3 : Int32)) = (1 : Int32) then ((10 : Int32)).toInt8.toInt32 else ((own_uL p2 ((8 : Int32) * p3)).toInt32.toInt8.toInt32).toInt8.toInt32))
set_option maxRecDepth 65536 in
set_option maxHeartbeats 40000000 in
theorem own_rm_pick (l : Launch) (Z : State) (a0 : Array Value) (hw : ∀ d ∈ tables_1, d.before a0 Z = true) (p1 : Int32) (p2 : Int64) (p3 : Int32) (h0 : Heap) : own_Con l Z [] (⟨"com/example/verdict_across_domains/command/RequestHeadEndPinLaw", "pick", "(IJI)B"⟩ : MethodName) method_2_code 5 (some .byte) ({ frames := 0, cells := 0, slots := 0, locals := 0 } : Room) #[(.int p1), (.long p2), (.int p3)] h0 (own_Q1 (some (.int (own_pick p1 p2 p3))) h0) := by
  refine own_body (plainFor_of_name own_pn_RequestHeadEndPinLaw) ?_
  intro p e s m below meth c s₁ X0 hx hby hml hret hlk hown hnm hZ e0
  refine oS (u' := s₁.setTop (mkF m 0 #[.val (.int p1), .val (.long p2), .second, .val (.int p3), .unset] [])) (fun _ kst => castTop (own_ef1 m p1 p2 p3) kst) ?_
  refine oS (u' := s₁.setTop (mkF m 1 #[.val (.int p1), .val (.long p2), .second, .val (.int p3), .unset] [(.int p1)])) (fun _ kst => XS.iloadN X0.here hx rfl (hb hby own_d1_0) rfl kst) ?_
  refine oS (u' := s₁.setTop (mkF m 2 #[.val (.int p1), .val (.long p2), .second, .val (.int p3), .unset] [(.int (2 : Int32)), (.int p1)])) (fun _ kst => XS.iconst X0.here hx rfl (hb hby own_d1_1) kst) ?_
  refine oS (u' := s₁.setTop (mkF m 3 #[.val (.int p1), .val (.long p2), .second, .val (.int p3), .unset] [(.int p3), (.int (2 : Int32)), (.int p1)])) (fun _ kst => XS.iloadN X0.here hx rfl (hb hby own_d1_2) rfl kst) ?_
  refine oS (u' := s₁.setTop (mkF m 4 #[.val (.int p1), .val (.long p2), .second, .val (.int p3), .unset] [(.int ((2 : Int32) * p3)), (.int p1)])) (fun _ kst => XS.imul X0.here hx rfl (hb hby own_d1_3) rfl kst) ?_
  refine oS (u' := s₁.setTop (mkF m 5 #[.val (.int p1), .val (.long p2), .second, .val (.int p3), .unset] [(.int (Jvm.Free.XT.ushr p1 ((2 : Int32) * p3)))])) (fun _ kst => XS.iushr X0.here hx rfl (hb hby own_d1_4) rfl kst) ?_
  refine oS (u' := s₁.setTop (mkF m 6 #[.val (.int p1), .val (.long p2), .second, .val (.int p3), .unset] [(.int (3 : Int32)), (.int (Jvm.Free.XT.ushr p1 ((2 : Int32) * p3)))])) (fun _ kst => XS.iconst X0.here hx rfl (hb hby own_d1_5) kst) ?_
  refine oS (u' := s₁.setTop (mkF m 7 #[.val (.int p1), .val (.long p2), .second, .val (.int p3), .unset] [(.int ((Jvm.Free.XT.ushr p1 ((2 : Int32) * p3)) &&& (3 : Int32)))])) (fun _ kst => XS.iand X0.here hx rfl (hb hby own_d1_6) rfl kst) ?_
  refine oS (u' := s₁.setTop (mkF m 9 #[.val (.int p1), .val (.long p2), .second, .val (.int p3), .val (.int ((Jvm.Free.XT.ushr p1 ((2 : Int32) * p3)) &&& (3 : Int32)))] [])) (fun _ kst => XS.istore X0.here hx rfl (hb hby own_d1_7) rfl (l' := #[.val (.int p1), .val (.long p2), .second, .val (.int p3), .val (.int ((Jvm.Free.XT.ushr p1 ((2 : Int32) * p3)) &&& (3 : Int32)))]) rfl kst) ?_
  refine oS (u' := s₁.setTop (mkF m 11 #[.val (.int p1), .val (.long p2), .second, .val (.int p3), .val (.int ((Jvm.Free.XT.ushr p1 ((2 : Int32) * p3)) &&& (3 : Int32)))] [(.int ((Jvm.Free.XT.ushr p1 ((2 : Int32) * p3)) &&& (3 : Int32)))])) (fun _ kst => XS.iload X0.here hx rfl (hb hby own_d1_9) rfl kst) ?_
  by_cases hc1 : ((Jvm.Free.XT.ushr p1 ((2 : Int32) * p3)) &&& (3 : Int32)) = (0 : Int32)
  · refine oS (u' := s₁.setTop (mkF m 14 #[.val (.int p1), .val (.long p2), .second, .val (.int p3), .val (.int ((Jvm.Free.XT.ushr p1 ((2 : Int32) * p3)) &&& (3 : Int32)))] [])) (fun _ kst => XS.ifNo X0.here hx rfl (hb hby own_d1_11) rfl ((if0 _ _).trans (teq hc1).2) kst) ?_
    refine oS (u' := s₁.setTop (mkF m 16 #[.val (.int p1), .val (.long p2), .second, .val (.int p3), .val (.int ((Jvm.Free.XT.ushr p1 ((2 : Int32) * p3)) &&& (3 : Int32)))] [(.int (13 : Int32))])) (fun _ kst => XS.bipush X0.here hx rfl (hb hby own_d1_14) kst) ?_
    refine own_retN X0 hx hlk (t := .byte) hret (by simp) (hb hby own_d1_16) ?_ (by decide) (by decide)
    exact ⟨(by show (some (.int ((13 : Int32)).toInt8.toInt32) : Option Value) = _; unfold own_pick; rw [if_pos hc1]), e0, rfl⟩
  · refine oS (u' := s₁.setTop (mkF m 17 #[.val (.int p1), .val (.long p2), .second, .val (.int p3), .val (.int ((Jvm.Free.XT.ushr p1 ((2 : Int32) * p3)) &&& (3 : Int32)))] [])) (fun _ kst => XS.ifYes X0.here hx rfl (pc0 := 11) (pc' := 17) rfl (hb hby own_d1_11) rfl ((if0 _ _).trans (feq hc1).2) (by decide) (by decide) kst) ?_
    refine oS (u' := s₁.setTop (mkF m 19 #[.val (.int p1), .val (.long p2), .second, .val (.int p3), .val (.int ((Jvm.Free.XT.ushr p1 ((2 : Int32) * p3)) &&& (3 : Int32)))] [(.int ((Jvm.Free.XT.ushr p1 ((2 : Int32) * p3)) &&& (3 : Int32)))])) (fun _ kst => XS.iload X0.here hx rfl (hb hby own_d1_17) rfl kst) ?_
    refine oS (u' := s₁.setTop (mkF m 20 #[.val (.int p1), .val (.long p2), .second, .val (.int p3), .val (.int ((Jvm.Free.XT.ushr p1 ((2 : Int32) * p3)) &&& (3 : Int32)))] [(.int (1 : Int32)), (.int ((Jvm.Free.XT.ushr p1 ((2 : Int32) * p3)) &&& (3 : Int32)))])) (fun _ kst => XS.iconst X0.here hx rfl (hb hby own_d1_19) kst) ?_
    by_cases hc2 : ((Jvm.Free.XT.ushr p1 ((2 : Int32) * p3)) &&& (3 : Int32)) = (1 : Int32)
    · refine oS (u' := s₁.setTop (mkF m 23 #[.val (.int p1), .val (.long p2), .second, .val (.int p3), .val (.int ((Jvm.Free.XT.ushr p1 ((2 : Int32) * p3)) &&& (3 : Int32)))] [])) (fun _ kst => XS.icmpNo X0.here hx rfl (hb hby own_d1_20) rfl (teq hc2).2 kst) ?_
      refine oS (u' := s₁.setTop (mkF m 25 #[.val (.int p1), .val (.long p2), .second, .val (.int p3), .val (.int ((Jvm.Free.XT.ushr p1 ((2 : Int32) * p3)) &&& (3 : Int32)))] [(.int (10 : Int32))])) (fun _ kst => XS.bipush X0.here hx rfl (hb hby own_d1_23) kst) ?_
      refine own_retN X0 hx hlk (t := .byte) hret (by simp) (hb hby own_d1_25) ?_ (by decide) (by decide)
      exact ⟨(by show (some (.int ((10 : Int32)).toInt8.toInt32) : Option Value) = _; unfold own_pick; rw [if_neg hc1, if_pos hc2]), e0, rfl⟩
    · refine oS (u' := s₁.setTop (mkF m 26 #[.val (.int p1), .val (.long p2), .second, .val (.int p3), .val (.int ((Jvm.Free.XT.ushr p1 ((2 : Int32) * p3)) &&& (3 : Int32)))] [])) (fun _ kst => XS.icmpYes X0.here hx rfl (pc0 := 20) (pc' := 26) rfl (hb hby own_d1_20) rfl (feq hc2).2 (by decide) (by decide) kst) ?_
      refine oS (u' := s₁.setTop (mkF m 27 #[.val (.int p1), .val (.long p2), .second, .val (.int p3), .val (.int ((Jvm.Free.XT.ushr p1 ((2 : Int32) * p3)) &&& (3 : Int32)))] [(.long p2)])) (fun _ kst => XS.lloadN X0.here hx rfl (hb hby own_d1_26) rfl kst) ?_
      refine oS (u' := s₁.setTop (mkF m 29 #[.val (.int p1), .val (.long p2), .second, .val (.int p3), .val (.int ((Jvm.Free.XT.ushr p1 ((2 : Int32) * p3)) &&& (3 : Int32)))] [(.int (8 : Int32)), (.long p2)])) (fun _ kst => XS.bipush X0.here hx rfl (hb hby own_d1_27) kst) ?_
      refine oS (u' := s₁.setTop (mkF m 30 #[.val (.int p1), .val (.long p2), .second, .val (.int p3), .val (.int ((Jvm.Free.XT.ushr p1 ((2 : Int32) * p3)) &&& (3 : Int32)))] [(.int p3), (.int (8 : Int32)), (.long p2)])) (fun _ kst => XS.iloadN X0.here hx rfl (hb hby own_d1_29) rfl kst) ?_
      refine oS (u' := s₁.setTop (mkF m 31 #[.val (.int p1), .val (.long p2), .second, .val (.int p3), .val (.int ((Jvm.Free.XT.ushr p1 ((2 : Int32) * p3)) &&& (3 : Int32)))] [(.int ((8 : Int32) * p3)), (.long p2)])) (fun _ kst => XS.imul X0.here hx rfl (hb hby own_d1_30) rfl kst) ?_
      refine oS (u' := s₁.setTop (mkF m 32 #[.val (.int p1), .val (.long p2), .second, .val (.int p3), .val (.int ((Jvm.Free.XT.ushr p1 ((2 : Int32) * p3)) &&& (3 : Int32)))] [(.long (own_uL p2 ((8 : Int32) * p3)))])) (fun _ kst => XS.lushr X0.here hx rfl (hb hby own_d1_31) rfl kst) ?_
      refine oS (u' := s₁.setTop (mkF m 33 #[.val (.int p1), .val (.long p2), .second, .val (.int p3), .val (.int ((Jvm.Free.XT.ushr p1 ((2 : Int32) * p3)) &&& (3 : Int32)))] [(.int (own_uL p2 ((8 : Int32) * p3)).toInt32)])) (fun _ kst => XS.l2i X0.here hx rfl (hb hby own_d1_32) rfl kst) ?_
      refine oS (u' := s₁.setTop (mkF m 34 #[.val (.int p1), .val (.long p2), .second, .val (.int p3), .val (.int ((Jvm.Free.XT.ushr p1 ((2 : Int32) * p3)) &&& (3 : Int32)))] [(.int (own_uL p2 ((8 : Int32) * p3)).toInt32.toInt8.toInt32)])) (fun _ kst => XS.i2b X0.here hx rfl (hb hby own_d1_33) rfl kst) ?_
      refine own_retN X0 hx hlk (t := .byte) hret (by simp) (hb hby own_d1_34) ?_ (by decide) (by decide)
      exact ⟨(by show (some (.int ((own_uL p2 ((8 : Int32) * p3)).toInt32.toInt8.toInt32).toInt8.toInt32) : Option Value) = _; unfold own_pick; rw [if_neg hc1, if_neg hc2]), e0, rfl⟩
theorem own_d2_0 : decode method_3_code 0 = .ok (.iload_n 1, 1) := by decide +kernel
theorem own_d2_1 : decode method_3_code 1 = .ok (.iload_n 2, 1) := by decide +kernel
theorem own_d2_2 : decode method_3_code 2 = .ok (.if_icmp .lt 52, 3) := by decide +kernel
theorem own_d2_5 : decode method_3_code 5 = .ok (.iload_n 1, 1) := by decide +kernel
theorem own_d2_6 : decode method_3_code 6 = .ok (.iconst 3, 1) := by decide +kernel
theorem own_d2_7 : decode method_3_code 7 = .ok (.iadd, 1) := by decide +kernel
theorem own_d2_8 : decode method_3_code 8 = .ok (.iload_n 3, 1) := by decide +kernel
theorem own_d2_9 : decode method_3_code 9 = .ok (.if_icmp .ge 45, 3) := by decide +kernel
theorem own_d2_12 : decode method_3_code 12 = .ok (.aload_n 0, 1) := by decide +kernel
theorem own_d2_13 : decode method_3_code 13 = .ok (.iload_n 1, 1) := by decide +kernel
theorem own_d2_14 : decode method_3_code 14 = .ok (.baload, 1) := by decide +kernel
theorem own_d2_15 : decode method_3_code 15 = .ok (.bipush 13, 2) := by decide +kernel
theorem own_d2_17 : decode method_3_code 17 = .ok (.if_icmp .ne 37, 3) := by decide +kernel
theorem own_d2_20 : decode method_3_code 20 = .ok (.aload_n 0, 1) := by decide +kernel
theorem own_d2_21 : decode method_3_code 21 = .ok (.iload_n 1, 1) := by decide +kernel
theorem own_d2_22 : decode method_3_code 22 = .ok (.iconst 1, 1) := by decide +kernel
theorem own_d2_23 : decode method_3_code 23 = .ok (.iadd, 1) := by decide +kernel
theorem own_d2_24 : decode method_3_code 24 = .ok (.baload, 1) := by decide +kernel
theorem own_d2_25 : decode method_3_code 25 = .ok (.bipush 10, 2) := by decide +kernel
theorem own_d2_27 : decode method_3_code 27 = .ok (.if_icmp .ne 27, 3) := by decide +kernel
theorem own_d2_30 : decode method_3_code 30 = .ok (.aload_n 0, 1) := by decide +kernel
theorem own_d2_31 : decode method_3_code 31 = .ok (.iload_n 1, 1) := by decide +kernel
theorem own_d2_32 : decode method_3_code 32 = .ok (.iconst 2, 1) := by decide +kernel
theorem own_d2_33 : decode method_3_code 33 = .ok (.iadd, 1) := by decide +kernel
theorem own_d2_34 : decode method_3_code 34 = .ok (.baload, 1) := by decide +kernel
theorem own_d2_35 : decode method_3_code 35 = .ok (.bipush 13, 2) := by decide +kernel
theorem own_d2_37 : decode method_3_code 37 = .ok (.if_icmp .ne 17, 3) := by decide +kernel
theorem own_d2_40 : decode method_3_code 40 = .ok (.aload_n 0, 1) := by decide +kernel
theorem own_d2_41 : decode method_3_code 41 = .ok (.iload_n 1, 1) := by decide +kernel
theorem own_d2_42 : decode method_3_code 42 = .ok (.iconst 3, 1) := by decide +kernel
theorem own_d2_43 : decode method_3_code 43 = .ok (.iadd, 1) := by decide +kernel
theorem own_d2_44 : decode method_3_code 44 = .ok (.baload, 1) := by decide +kernel
theorem own_d2_45 : decode method_3_code 45 = .ok (.bipush 10, 2) := by decide +kernel
theorem own_d2_47 : decode method_3_code 47 = .ok (.if_icmp .ne 7, 3) := by decide +kernel
theorem own_d2_50 : decode method_3_code 50 = .ok (.iconst 1, 1) := by decide +kernel
theorem own_d2_51 : decode method_3_code 51 = .ok (.goto 4, 3) := by decide +kernel
theorem own_d2_54 : decode method_3_code 54 = .ok (.iconst 0, 1) := by decide +kernel
theorem own_d2_55 : decode method_3_code 55 = .ok (.ireturn, 1) := by decide +kernel
theorem own_ef2 (m : MethodId) (x0 : Addr) (x1 : Int32) (x2 : Int32) (x3 : Int32) : entryFrame m #[(.ref x0), (.int x1), (.int x2), (.int x3)] 4 = mkF m 0 #[.val (.ref x0), .val (.int x1), .val (.int x2), .val (.int x3)] [] := by first | (simp [entryFrame, mkF, argsToLocals, Value.category, maxLocals]; done) | rfl
def own_m (a1 : Addr) (p2 : Int32) (p3 : Int32) (p4 : Int32) (f : Nat → Int32) (i : Nat) : Int32 := (if p2 < p3 then ((0 : Int32) &&& 1) else (if (p2 + (3 : Int32)) < p4 then (if (f i) = (13 : Int32) then (if (f (i + 1)) = (10 : Int32) then (if (f (i + 2)) = (13 : Int32) then (if (f (i + 3)) = (10 : Int32) then ((1 : Int32) &&& 1) else ((0 : Int32) &&& 1)) else ((0 : Int32) &&& 1)) else ((0 : Int32) &&& 1)) else ((0 : Int32) &&& 1)) else ((0 : Int32) &&& 1)))
set_option maxRecDepth 65536 in
set_option maxHeartbeats 40000000 in
theorem own_rm_m (l : Launch) (Z : State) (a0 : Array Value) (hw : ∀ d ∈ tables_1, d.before a0 Z = true) (a1 : Addr) (p2 : Int32) (p3 : Int32) (p4 : Int32) (f : Nat → Int32) (i : Nat) (h0 : Heap) (A1 : own_Ar Z h0 a1 .byte 8 (fun i => .int (f i))) (hi : p2.toInt = (i : Int)) (hi8 : i + 3 < 8) : own_Con l Z [] (⟨"com/example/verdict_across_domains/command/RequestHeadEndPinLaw", "m", "([BIII)Z"⟩ : MethodName) method_3_code 4 (some .boolean) ({ frames := 0, cells := 0, slots := 0, locals := 0 } : Room) #[(.ref a1), (.int p2), (.int p3), (.int p4)] h0 (own_Q1 (some (.int (own_m a1 p2 p3 p4 f i))) h0) := by
  refine own_body (plainFor_of_name own_pn_RequestHeadEndPinLaw) ?_
  intro p e s m below meth c s₁ X0 hx hby hml hret hlk hown hnm hZ e0
  refine oS (u' := s₁.setTop (mkF m 0 #[.val (.ref a1), .val (.int p2), .val (.int p3), .val (.int p4)] [])) (fun _ kst => castTop (own_ef2 m a1 p2 p3 p4) kst) ?_
  refine oS (u' := s₁.setTop (mkF m 1 #[.val (.ref a1), .val (.int p2), .val (.int p3), .val (.int p4)] [(.int p2)])) (fun _ kst => XS.iloadN X0.here hx rfl (hb hby own_d2_0) rfl kst) ?_
  refine oS (u' := s₁.setTop (mkF m 2 #[.val (.ref a1), .val (.int p2), .val (.int p3), .val (.int p4)] [(.int p3), (.int p2)])) (fun _ kst => XS.iloadN X0.here hx rfl (hb hby own_d2_1) rfl kst) ?_
  by_cases hc3 : p2 < p3
  · refine oS (u' := s₁.setTop (mkF m 54 #[.val (.ref a1), .val (.int p2), .val (.int p3), .val (.int p4)] [])) (fun _ kst => XS.icmpYes X0.here hx rfl (pc0 := 2) (pc' := 54) rfl (hb hby own_d2_2) rfl (tlt hc3).1 (by decide) (by decide) kst) ?_
    refine oS (u' := s₁.setTop (mkF m 55 #[.val (.ref a1), .val (.int p2), .val (.int p3), .val (.int p4)] [(.int (0 : Int32))])) (fun _ kst => XS.iconst X0.here hx rfl (hb hby own_d2_54) kst) ?_
    refine own_retN X0 hx hlk (t := .boolean) hret (by simp) (hb hby own_d2_55) ?_ (by decide) (by decide)
    exact ⟨(by show (some (.int ((0 : Int32) &&& 1)) : Option Value) = _; unfold own_m; rw [if_pos hc3]), e0, rfl⟩
  · refine oS (u' := s₁.setTop (mkF m 5 #[.val (.ref a1), .val (.int p2), .val (.int p3), .val (.int p4)] [])) (fun _ kst => XS.icmpNo X0.here hx rfl (hb hby own_d2_2) rfl (flt hc3).1 kst) ?_
    refine oS (u' := s₁.setTop (mkF m 6 #[.val (.ref a1), .val (.int p2), .val (.int p3), .val (.int p4)] [(.int p2)])) (fun _ kst => XS.iloadN X0.here hx rfl (hb hby own_d2_5) rfl kst) ?_
    refine oS (u' := s₁.setTop (mkF m 7 #[.val (.ref a1), .val (.int p2), .val (.int p3), .val (.int p4)] [(.int (3 : Int32)), (.int p2)])) (fun _ kst => XS.iconst X0.here hx rfl (hb hby own_d2_6) kst) ?_
    refine oS (u' := s₁.setTop (mkF m 8 #[.val (.ref a1), .val (.int p2), .val (.int p3), .val (.int p4)] [(.int (p2 + (3 : Int32)))])) (fun _ kst => XS.iadd X0.here hx rfl (hb hby own_d2_7) rfl kst) ?_
    refine oS (u' := s₁.setTop (mkF m 9 #[.val (.ref a1), .val (.int p2), .val (.int p3), .val (.int p4)] [(.int p4), (.int (p2 + (3 : Int32)))])) (fun _ kst => XS.iloadN X0.here hx rfl (hb hby own_d2_8) rfl kst) ?_
    by_cases hc4 : (p2 + (3 : Int32)) < p4
    · refine oS (u' := s₁.setTop (mkF m 12 #[.val (.ref a1), .val (.int p2), .val (.int p3), .val (.int p4)] [])) (fun _ kst => XS.icmpNo X0.here hx rfl (hb hby own_d2_9) rfl (tlt hc4).2.1 kst) ?_
      refine oS (u' := s₁.setTop (mkF m 13 #[.val (.ref a1), .val (.int p2), .val (.int p3), .val (.int p4)] [(.ref a1)])) (fun _ kst => XS.aloadN X0.here hx rfl (hb hby own_d2_12) rfl rfl kst) ?_
      refine oS (u' := s₁.setTop (mkF m 14 #[.val (.ref a1), .val (.int p2), .val (.int p3), .val (.int p4)] [(.int p2), (.ref a1)])) (fun _ kst => XS.iloadN X0.here hx rfl (hb hby own_d2_13) rfl kst) ?_
      refine oS (u' := s₁.setTop (mkF m 15 #[.val (.ref a1), .val (.int p2), .val (.int p3), .val (.int p4)] [(.int (f i))])) (fun tgt kst => own_ldB X0 hx hZ e0 A1 (k := i) (v := (.int (f i))) hi (by omega) rfl (g := (mkF m 14 #[.val (.ref a1), .val (.int p2), .val (.int p3), .val (.int p4)] [(.int p2), (.ref a1)])) rfl rfl (hb hby own_d2_14) tgt kst) ?_
      refine oS (u' := s₁.setTop (mkF m 17 #[.val (.ref a1), .val (.int p2), .val (.int p3), .val (.int p4)] [(.int (13 : Int32)), (.int (f i))])) (fun _ kst => XS.bipush X0.here hx rfl (hb hby own_d2_15) kst) ?_
      by_cases hc5 : (f i) = (13 : Int32)
      · refine oS (u' := s₁.setTop (mkF m 20 #[.val (.ref a1), .val (.int p2), .val (.int p3), .val (.int p4)] [])) (fun _ kst => XS.icmpNo X0.here hx rfl (hb hby own_d2_17) rfl (teq hc5).2 kst) ?_
        refine oS (u' := s₁.setTop (mkF m 21 #[.val (.ref a1), .val (.int p2), .val (.int p3), .val (.int p4)] [(.ref a1)])) (fun _ kst => XS.aloadN X0.here hx rfl (hb hby own_d2_20) rfl rfl kst) ?_
        refine oS (u' := s₁.setTop (mkF m 22 #[.val (.ref a1), .val (.int p2), .val (.int p3), .val (.int p4)] [(.int p2), (.ref a1)])) (fun _ kst => XS.iloadN X0.here hx rfl (hb hby own_d2_21) rfl kst) ?_
        refine oS (u' := s₁.setTop (mkF m 23 #[.val (.ref a1), .val (.int p2), .val (.int p3), .val (.int p4)] [(.int (1 : Int32)), (.int p2), (.ref a1)])) (fun _ kst => XS.iconst X0.here hx rfl (hb hby own_d2_22) kst) ?_
        refine oS (u' := s₁.setTop (mkF m 24 #[.val (.ref a1), .val (.int p2), .val (.int p3), .val (.int p4)] [(.int (p2 + (1 : Int32))), (.ref a1)])) (fun _ kst => XS.iadd X0.here hx rfl (hb hby own_d2_23) rfl kst) ?_
        refine oS (u' := s₁.setTop (mkF m 25 #[.val (.ref a1), .val (.int p2), .val (.int p3), .val (.int p4)] [(.int (f (i + 1)))])) (fun tgt kst => own_ldB X0 hx hZ e0 A1 (k := (i + 1)) (v := (.int (f (i + 1)))) (own_addk hi 1 1 rfl (by omega)) (by omega) rfl (g := (mkF m 24 #[.val (.ref a1), .val (.int p2), .val (.int p3), .val (.int p4)] [(.int (p2 + (1 : Int32))), (.ref a1)])) rfl rfl (hb hby own_d2_24) tgt kst) ?_
        refine oS (u' := s₁.setTop (mkF m 27 #[.val (.ref a1), .val (.int p2), .val (.int p3), .val (.int p4)] [(.int (10 : Int32)), (.int (f (i + 1)))])) (fun _ kst => XS.bipush X0.here hx rfl (hb hby own_d2_25) kst) ?_
        by_cases hc6 : (f (i + 1)) = (10 : Int32)
        · refine oS (u' := s₁.setTop (mkF m 30 #[.val (.ref a1), .val (.int p2), .val (.int p3), .val (.int p4)] [])) (fun _ kst => XS.icmpNo X0.here hx rfl (hb hby own_d2_27) rfl (teq hc6).2 kst) ?_
          refine oS (u' := s₁.setTop (mkF m 31 #[.val (.ref a1), .val (.int p2), .val (.int p3), .val (.int p4)] [(.ref a1)])) (fun _ kst => XS.aloadN X0.here hx rfl (hb hby own_d2_30) rfl rfl kst) ?_
          refine oS (u' := s₁.setTop (mkF m 32 #[.val (.ref a1), .val (.int p2), .val (.int p3), .val (.int p4)] [(.int p2), (.ref a1)])) (fun _ kst => XS.iloadN X0.here hx rfl (hb hby own_d2_31) rfl kst) ?_
          refine oS (u' := s₁.setTop (mkF m 33 #[.val (.ref a1), .val (.int p2), .val (.int p3), .val (.int p4)] [(.int (2 : Int32)), (.int p2), (.ref a1)])) (fun _ kst => XS.iconst X0.here hx rfl (hb hby own_d2_32) kst) ?_
          refine oS (u' := s₁.setTop (mkF m 34 #[.val (.ref a1), .val (.int p2), .val (.int p3), .val (.int p4)] [(.int (p2 + (2 : Int32))), (.ref a1)])) (fun _ kst => XS.iadd X0.here hx rfl (hb hby own_d2_33) rfl kst) ?_
          refine oS (u' := s₁.setTop (mkF m 35 #[.val (.ref a1), .val (.int p2), .val (.int p3), .val (.int p4)] [(.int (f (i + 2)))])) (fun tgt kst => own_ldB X0 hx hZ e0 A1 (k := (i + 2)) (v := (.int (f (i + 2)))) (own_addk hi 2 2 rfl (by omega)) (by omega) rfl (g := (mkF m 34 #[.val (.ref a1), .val (.int p2), .val (.int p3), .val (.int p4)] [(.int (p2 + (2 : Int32))), (.ref a1)])) rfl rfl (hb hby own_d2_34) tgt kst) ?_
          refine oS (u' := s₁.setTop (mkF m 37 #[.val (.ref a1), .val (.int p2), .val (.int p3), .val (.int p4)] [(.int (13 : Int32)), (.int (f (i + 2)))])) (fun _ kst => XS.bipush X0.here hx rfl (hb hby own_d2_35) kst) ?_
          by_cases hc7 : (f (i + 2)) = (13 : Int32)
          · refine oS (u' := s₁.setTop (mkF m 40 #[.val (.ref a1), .val (.int p2), .val (.int p3), .val (.int p4)] [])) (fun _ kst => XS.icmpNo X0.here hx rfl (hb hby own_d2_37) rfl (teq hc7).2 kst) ?_
            refine oS (u' := s₁.setTop (mkF m 41 #[.val (.ref a1), .val (.int p2), .val (.int p3), .val (.int p4)] [(.ref a1)])) (fun _ kst => XS.aloadN X0.here hx rfl (hb hby own_d2_40) rfl rfl kst) ?_
            refine oS (u' := s₁.setTop (mkF m 42 #[.val (.ref a1), .val (.int p2), .val (.int p3), .val (.int p4)] [(.int p2), (.ref a1)])) (fun _ kst => XS.iloadN X0.here hx rfl (hb hby own_d2_41) rfl kst) ?_
            refine oS (u' := s₁.setTop (mkF m 43 #[.val (.ref a1), .val (.int p2), .val (.int p3), .val (.int p4)] [(.int (3 : Int32)), (.int p2), (.ref a1)])) (fun _ kst => XS.iconst X0.here hx rfl (hb hby own_d2_42) kst) ?_
            refine oS (u' := s₁.setTop (mkF m 44 #[.val (.ref a1), .val (.int p2), .val (.int p3), .val (.int p4)] [(.int (p2 + (3 : Int32))), (.ref a1)])) (fun _ kst => XS.iadd X0.here hx rfl (hb hby own_d2_43) rfl kst) ?_
            refine oS (u' := s₁.setTop (mkF m 45 #[.val (.ref a1), .val (.int p2), .val (.int p3), .val (.int p4)] [(.int (f (i + 3)))])) (fun tgt kst => own_ldB X0 hx hZ e0 A1 (k := (i + 3)) (v := (.int (f (i + 3)))) (own_addk hi 3 3 rfl (by omega)) (by omega) rfl (g := (mkF m 44 #[.val (.ref a1), .val (.int p2), .val (.int p3), .val (.int p4)] [(.int (p2 + (3 : Int32))), (.ref a1)])) rfl rfl (hb hby own_d2_44) tgt kst) ?_
            refine oS (u' := s₁.setTop (mkF m 47 #[.val (.ref a1), .val (.int p2), .val (.int p3), .val (.int p4)] [(.int (10 : Int32)), (.int (f (i + 3)))])) (fun _ kst => XS.bipush X0.here hx rfl (hb hby own_d2_45) kst) ?_
            by_cases hc8 : (f (i + 3)) = (10 : Int32)
            · refine oS (u' := s₁.setTop (mkF m 50 #[.val (.ref a1), .val (.int p2), .val (.int p3), .val (.int p4)] [])) (fun _ kst => XS.icmpNo X0.here hx rfl (hb hby own_d2_47) rfl (teq hc8).2 kst) ?_
              refine oS (u' := s₁.setTop (mkF m 51 #[.val (.ref a1), .val (.int p2), .val (.int p3), .val (.int p4)] [(.int (1 : Int32))])) (fun _ kst => XS.iconst X0.here hx rfl (hb hby own_d2_50) kst) ?_
              refine oS (u' := s₁.setTop (mkF m 55 #[.val (.ref a1), .val (.int p2), .val (.int p3), .val (.int p4)] [(.int (1 : Int32))])) (fun _ kst => XS.goto X0.here hx rfl (pc0 := 51) (pc' := 55) rfl (hb hby own_d2_51) (by decide) (by decide) kst) ?_
              refine own_retN X0 hx hlk (t := .boolean) hret (by simp) (hb hby own_d2_55) ?_ (by decide) (by decide)
              exact ⟨(by show (some (.int ((1 : Int32) &&& 1)) : Option Value) = _; unfold own_m; rw [if_neg hc3, if_pos hc4, if_pos hc5, if_pos hc6, if_pos hc7, if_pos hc8]), e0, rfl⟩
            · refine oS (u' := s₁.setTop (mkF m 54 #[.val (.ref a1), .val (.int p2), .val (.int p3), .val (.int p4)] [])) (fun _ kst => XS.icmpYes X0.here hx rfl (pc0 := 47) (pc' := 54) rfl (hb hby own_d2_47) rfl (feq hc8).2 (by decide) (by decide) kst) ?_
              refine oS (u' := s₁.setTop (mkF m 55 #[.val (.ref a1), .val (.int p2), .val (.int p3), .val (.int p4)] [(.int (0 : Int32))])) (fun _ kst => XS.iconst X0.here hx rfl (hb hby own_d2_54) kst) ?_
              refine own_retN X0 hx hlk (t := .boolean) hret (by simp) (hb hby own_d2_55) ?_ (by decide) (by decide)
              exact ⟨(by show (some (.int ((0 : Int32) &&& 1)) : Option Value) = _; unfold own_m; rw [if_neg hc3, if_pos hc4, if_pos hc5, if_pos hc6, if_pos hc7, if_neg hc8]), e0, rfl⟩
          · refine oS (u' := s₁.setTop (mkF m 54 #[.val (.ref a1), .val (.int p2), .val (.int p3), .val (.int p4)] [])) (fun _ kst => XS.icmpYes X0.here hx rfl (pc0 := 37) (pc' := 54) rfl (hb hby own_d2_37) rfl (feq hc7).2 (by decide) (by decide) kst) ?_
            refine oS (u' := s₁.setTop (mkF m 55 #[.val (.ref a1), .val (.int p2), .val (.int p3), .val (.int p4)] [(.int (0 : Int32))])) (fun _ kst => XS.iconst X0.here hx rfl (hb hby own_d2_54) kst) ?_
            refine own_retN X0 hx hlk (t := .boolean) hret (by simp) (hb hby own_d2_55) ?_ (by decide) (by decide)
            exact ⟨(by show (some (.int ((0 : Int32) &&& 1)) : Option Value) = _; unfold own_m; rw [if_neg hc3, if_pos hc4, if_pos hc5, if_pos hc6, if_neg hc7]), e0, rfl⟩
        · refine oS (u' := s₁.setTop (mkF m 54 #[.val (.ref a1), .val (.int p2), .val (.int p3), .val (.int p4)] [])) (fun _ kst => XS.icmpYes X0.here hx rfl (pc0 := 27) (pc' := 54) rfl (hb hby own_d2_27) rfl (feq hc6).2 (by decide) (by decide) kst) ?_
          refine oS (u' := s₁.setTop (mkF m 55 #[.val (.ref a1), .val (.int p2), .val (.int p3), .val (.int p4)] [(.int (0 : Int32))])) (fun _ kst => XS.iconst X0.here hx rfl (hb hby own_d2_54) kst) ?_
          refine own_retN X0 hx hlk (t := .boolean) hret (by simp) (hb hby own_d2_55) ?_ (by decide) (by decide)
          exact ⟨(by show (some (.int ((0 : Int32) &&& 1)) : Option Value) = _; unfold own_m; rw [if_neg hc3, if_pos hc4, if_pos hc5, if_neg hc6]), e0, rfl⟩
      · refine oS (u' := s₁.setTop (mkF m 54 #[.val (.ref a1), .val (.int p2), .val (.int p3), .val (.int p4)] [])) (fun _ kst => XS.icmpYes X0.here hx rfl (pc0 := 17) (pc' := 54) rfl (hb hby own_d2_17) rfl (feq hc5).2 (by decide) (by decide) kst) ?_
        refine oS (u' := s₁.setTop (mkF m 55 #[.val (.ref a1), .val (.int p2), .val (.int p3), .val (.int p4)] [(.int (0 : Int32))])) (fun _ kst => XS.iconst X0.here hx rfl (hb hby own_d2_54) kst) ?_
        refine own_retN X0 hx hlk (t := .boolean) hret (by simp) (hb hby own_d2_55) ?_ (by decide) (by decide)
        exact ⟨(by show (some (.int ((0 : Int32) &&& 1)) : Option Value) = _; unfold own_m; rw [if_neg hc3, if_pos hc4, if_neg hc5]), e0, rfl⟩
    · refine oS (u' := s₁.setTop (mkF m 54 #[.val (.ref a1), .val (.int p2), .val (.int p3), .val (.int p4)] [])) (fun _ kst => XS.icmpYes X0.here hx rfl (pc0 := 9) (pc' := 54) rfl (hb hby own_d2_9) rfl (flt hc4).2.1 (by decide) (by decide) kst) ?_
      refine oS (u' := s₁.setTop (mkF m 55 #[.val (.ref a1), .val (.int p2), .val (.int p3), .val (.int p4)] [(.int (0 : Int32))])) (fun _ kst => XS.iconst X0.here hx rfl (hb hby own_d2_54) kst) ?_
      refine own_retN X0 hx hlk (t := .boolean) hret (by simp) (hb hby own_d2_55) ?_ (by decide) (by decide)
      exact ⟨(by show (some (.int ((0 : Int32) &&& 1)) : Option Value) = _; unfold own_m; rw [if_neg hc3, if_neg hc4]), e0, rfl⟩
theorem own_d3_0 : decode prog_18_method_2_code 0 = .ok (.iload_n 1, 1) := by decide +kernel
theorem own_d3_1 : decode prog_18_method_2_code 1 = .ok (.istore_n 3, 1) := by decide +kernel
theorem own_d3_2 : decode prog_18_method_2_code 2 = .ok (.iload_n 3, 1) := by decide +kernel
theorem own_d3_3 : decode prog_18_method_2_code 3 = .ok (.iconst 3, 1) := by decide +kernel
theorem own_d3_4 : decode prog_18_method_2_code 4 = .ok (.iadd, 1) := by decide +kernel
theorem own_d3_5 : decode prog_18_method_2_code 5 = .ok (.iload_n 2, 1) := by decide +kernel
theorem own_d3_6 : decode prog_18_method_2_code 6 = .ok (.if_icmp .ge 51, 3) := by decide +kernel
theorem own_d3_9 : decode prog_18_method_2_code 9 = .ok (.aload_n 0, 1) := by decide +kernel
theorem own_d3_10 : decode prog_18_method_2_code 10 = .ok (.iload_n 3, 1) := by decide +kernel
theorem own_d3_11 : decode prog_18_method_2_code 11 = .ok (.baload, 1) := by decide +kernel
theorem own_d3_12 : decode prog_18_method_2_code 12 = .ok (.bipush 13, 2) := by decide +kernel
theorem own_d3_14 : decode prog_18_method_2_code 14 = .ok (.if_icmp .ne 37, 3) := by decide +kernel
theorem own_d3_17 : decode prog_18_method_2_code 17 = .ok (.aload_n 0, 1) := by decide +kernel
theorem own_d3_18 : decode prog_18_method_2_code 18 = .ok (.iload_n 3, 1) := by decide +kernel
theorem own_d3_19 : decode prog_18_method_2_code 19 = .ok (.iconst 1, 1) := by decide +kernel
theorem own_d3_20 : decode prog_18_method_2_code 20 = .ok (.iadd, 1) := by decide +kernel
theorem own_d3_21 : decode prog_18_method_2_code 21 = .ok (.baload, 1) := by decide +kernel
theorem own_d3_22 : decode prog_18_method_2_code 22 = .ok (.bipush 10, 2) := by decide +kernel
theorem own_d3_24 : decode prog_18_method_2_code 24 = .ok (.if_icmp .ne 27, 3) := by decide +kernel
theorem own_d3_27 : decode prog_18_method_2_code 27 = .ok (.aload_n 0, 1) := by decide +kernel
theorem own_d3_28 : decode prog_18_method_2_code 28 = .ok (.iload_n 3, 1) := by decide +kernel
theorem own_d3_29 : decode prog_18_method_2_code 29 = .ok (.iconst 2, 1) := by decide +kernel
theorem own_d3_30 : decode prog_18_method_2_code 30 = .ok (.iadd, 1) := by decide +kernel
theorem own_d3_31 : decode prog_18_method_2_code 31 = .ok (.baload, 1) := by decide +kernel
theorem own_d3_32 : decode prog_18_method_2_code 32 = .ok (.bipush 13, 2) := by decide +kernel
theorem own_d3_34 : decode prog_18_method_2_code 34 = .ok (.if_icmp .ne 17, 3) := by decide +kernel
theorem own_d3_37 : decode prog_18_method_2_code 37 = .ok (.aload_n 0, 1) := by decide +kernel
theorem own_d3_38 : decode prog_18_method_2_code 38 = .ok (.iload_n 3, 1) := by decide +kernel
theorem own_d3_39 : decode prog_18_method_2_code 39 = .ok (.iconst 3, 1) := by decide +kernel
theorem own_d3_40 : decode prog_18_method_2_code 40 = .ok (.iadd, 1) := by decide +kernel
theorem own_d3_41 : decode prog_18_method_2_code 41 = .ok (.baload, 1) := by decide +kernel
theorem own_d3_42 : decode prog_18_method_2_code 42 = .ok (.bipush 10, 2) := by decide +kernel
theorem own_d3_44 : decode prog_18_method_2_code 44 = .ok (.if_icmp .ne 7, 3) := by decide +kernel
theorem own_d3_47 : decode prog_18_method_2_code 47 = .ok (.iload_n 3, 1) := by decide +kernel
theorem own_d3_48 : decode prog_18_method_2_code 48 = .ok (.iconst 4, 1) := by decide +kernel
theorem own_d3_49 : decode prog_18_method_2_code 49 = .ok (.iadd, 1) := by decide +kernel
theorem own_d3_50 : decode prog_18_method_2_code 50 = .ok (.ireturn, 1) := by decide +kernel
theorem own_d3_51 : decode prog_18_method_2_code 51 = .ok (.iinc 3 1, 3) := by decide +kernel
theorem own_d3_54 : decode prog_18_method_2_code 54 = .ok (.goto (-52), 3) := by decide +kernel
theorem own_d3_57 : decode prog_18_method_2_code 57 = .ok (.iconst (-1), 1) := by decide +kernel
theorem own_d3_58 : decode prog_18_method_2_code 58 = .ok (.ireturn, 1) := by decide +kernel
theorem own_pn_RequestHead : plainName "com/example/verdict_across_domains/command/RequestHead" = true := by first | (simp [plainName, overriddenIn]; done) | decide +kernel
theorem own_ef3 (m : MethodId) (x0 : Addr) (x1 : Int32) (x2 : Int32) : entryFrame m #[(.ref x0), (.int x1), (.int x2)] 4 = mkF m 0 #[.val (.ref x0), .val (.int x1), .val (.int x2), .unset] [] := by first | (simp [entryFrame, mkF, argsToLocals, Value.category, maxLocals]; done) | rfl
set_option maxRecDepth 65536 in
set_option maxHeartbeats 40000000 in
theorem own_rm_end (l : Launch) (Z : State) (a0 : Array Value) (hw : ∀ d ∈ tables_1, d.before a0 Z = true) (a1 : Addr) (p2 p3 : Int32) (f : Nat → Int32) (j t : Nat) (h0 : Heap) (A1 : own_Ar Z h0 a1 .byte 8 (fun i => .int (f i))) (hj : p2.toInt = (j : Int)) (hj10 : j < 10) (hp3 : p3.toInt = (t : Int)) (ht : t < 9) : own_Con l Z [] (⟨"com/example/verdict_across_domains/command/RequestHead", "end", "([BII)I"⟩ : MethodName) prog_18_method_2_code 4 (some .int) ({ frames := 0, cells := 0, slots := 0, locals := 0 } : Room) #[(.ref a1), (.int p2), (.int p3)] h0 (own_Q1 (some (.int (own_scan f t 9 j))) h0) := by
  refine own_body (plainFor_of_name own_pn_RequestHead) ?_
  intro p e s m below meth c s₁ X0 hx hby hml hret hlk hown hnm hZ e0
  have loop : ∀ (n i : Nat) (x : Int32), x.toInt = (i : Int) → i < 20 → t ≤ i + 3 + n → oF p e below s ({ frames := 0, cells := 0, slots := 0, locals := 0 } : Room).cells ({ frames := 0, cells := 0, slots := 0, locals := 0 } : Room).slots (own_Q1 (some (.int (own_scan f t n i))) h0) (s₁.setTop (mkF m 2 #[.val (.ref a1), .val (.int p2), .val (.int p3), .val (.int x)] [])) := by
    intro n
    induction n with
    | zero =>
      intro i x hx0 hi hn
      show oF p e below s _ _ _ (s₁.setTop (mkF m 2 #[.val (.ref a1), .val (.int p2), .val (.int p3), .val (.int x)] []))
      refine oS (u' := s₁.setTop (mkF m 3 #[.val (.ref a1), .val (.int p2), .val (.int p3), .val (.int x)] [(.int x)])) (fun _ kst => XS.iloadN X0.here hx rfl (hb hby own_d3_2) rfl kst) ?_
      refine oS (u' := s₁.setTop (mkF m 4 #[.val (.ref a1), .val (.int p2), .val (.int p3), .val (.int x)] [(.int (3 : Int32)), (.int x)])) (fun _ kst => XS.iconst X0.here hx rfl (hb hby own_d3_3) kst) ?_
      refine oS (u' := s₁.setTop (mkF m 5 #[.val (.ref a1), .val (.int p2), .val (.int p3), .val (.int x)] [(.int (x + (3 : Int32)))])) (fun _ kst => XS.iadd X0.here hx rfl (hb hby own_d3_4) rfl kst) ?_
      refine oS (u' := s₁.setTop (mkF m 6 #[.val (.ref a1), .val (.int p2), .val (.int p3), .val (.int x)] [(.int p3), (.int (x + (3 : Int32)))])) (fun _ kst => XS.iloadN X0.here hx rfl (hb hby own_d3_5) rfl kst) ?_
      refine oS (u' := s₁.setTop (mkF m 57 #[.val (.ref a1), .val (.int p2), .val (.int p3), .val (.int x)] [])) (fun _ kst => XS.icmpYes X0.here hx rfl (pc0 := 6) (pc' := 57) rfl (hb hby own_d3_6) rfl (flt (own_stop hx0 hp3 (by omega) (by omega))).2.1 (by decide) (by decide) kst) ?_
      refine oS (u' := s₁.setTop (mkF m 58 #[.val (.ref a1), .val (.int p2), .val (.int p3), .val (.int x)] [(.int (-1 : Int32))])) (fun _ kst => XS.iconst X0.here hx rfl (hb hby own_d3_57) kst) ?_
      refine own_retI X0 hx hlk hret (hb hby own_d3_58) ?_ (by decide) (by decide)
      exact ⟨rfl, e0, rfl⟩
    | succ n ih =>
      intro i x hx0 hi hn
      show oF p e below s _ _ _ (s₁.setTop (mkF m 2 #[.val (.ref a1), .val (.int p2), .val (.int p3), .val (.int x)] []))
      refine oS (u' := s₁.setTop (mkF m 3 #[.val (.ref a1), .val (.int p2), .val (.int p3), .val (.int x)] [(.int x)])) (fun _ kst => XS.iloadN X0.here hx rfl (hb hby own_d3_2) rfl kst) ?_
      refine oS (u' := s₁.setTop (mkF m 4 #[.val (.ref a1), .val (.int p2), .val (.int p3), .val (.int x)] [(.int (3 : Int32)), (.int x)])) (fun _ kst => XS.iconst X0.here hx rfl (hb hby own_d3_3) kst) ?_
      refine oS (u' := s₁.setTop (mkF m 5 #[.val (.ref a1), .val (.int p2), .val (.int p3), .val (.int x)] [(.int (x + (3 : Int32)))])) (fun _ kst => XS.iadd X0.here hx rfl (hb hby own_d3_4) rfl kst) ?_
      refine oS (u' := s₁.setTop (mkF m 6 #[.val (.ref a1), .val (.int p2), .val (.int p3), .val (.int x)] [(.int p3), (.int (x + (3 : Int32)))])) (fun _ kst => XS.iloadN X0.here hx rfl (hb hby own_d3_5) rfl kst) ?_
      by_cases hc9 : (x + (3 : Int32)) < p3
      · refine oS (u' := s₁.setTop (mkF m 9 #[.val (.ref a1), .val (.int p2), .val (.int p3), .val (.int x)] [])) (fun _ kst => XS.icmpNo X0.here hx rfl (hb hby own_d3_6) rfl (tlt hc9).2.1 kst) ?_
        have hin := own_go hx0 hp3 (by omega) hc9
        refine oS (u' := s₁.setTop (mkF m 10 #[.val (.ref a1), .val (.int p2), .val (.int p3), .val (.int x)] [(.ref a1)])) (fun _ kst => XS.aloadN X0.here hx rfl (hb hby own_d3_9) rfl rfl kst) ?_
        refine oS (u' := s₁.setTop (mkF m 11 #[.val (.ref a1), .val (.int p2), .val (.int p3), .val (.int x)] [(.int x), (.ref a1)])) (fun _ kst => XS.iloadN X0.here hx rfl (hb hby own_d3_10) rfl kst) ?_
        refine oS (u' := s₁.setTop (mkF m 12 #[.val (.ref a1), .val (.int p2), .val (.int p3), .val (.int x)] [(.int (f i))])) (fun tgt kst => own_ldB X0 hx hZ e0 A1 (k := i) (v := (.int (f i))) hx0 (by omega) rfl (g := (mkF m 11 #[.val (.ref a1), .val (.int p2), .val (.int p3), .val (.int x)] [(.int x), (.ref a1)])) rfl rfl (hb hby own_d3_11) tgt kst) ?_
        refine oS (u' := s₁.setTop (mkF m 14 #[.val (.ref a1), .val (.int p2), .val (.int p3), .val (.int x)] [(.int (13 : Int32)), (.int (f i))])) (fun _ kst => XS.bipush X0.here hx rfl (hb hby own_d3_12) kst) ?_
        by_cases hc10 : (f i) = (13 : Int32)
        · refine oS (u' := s₁.setTop (mkF m 17 #[.val (.ref a1), .val (.int p2), .val (.int p3), .val (.int x)] [])) (fun _ kst => XS.icmpNo X0.here hx rfl (hb hby own_d3_14) rfl (teq hc10).2 kst) ?_
          refine oS (u' := s₁.setTop (mkF m 18 #[.val (.ref a1), .val (.int p2), .val (.int p3), .val (.int x)] [(.ref a1)])) (fun _ kst => XS.aloadN X0.here hx rfl (hb hby own_d3_17) rfl rfl kst) ?_
          refine oS (u' := s₁.setTop (mkF m 19 #[.val (.ref a1), .val (.int p2), .val (.int p3), .val (.int x)] [(.int x), (.ref a1)])) (fun _ kst => XS.iloadN X0.here hx rfl (hb hby own_d3_18) rfl kst) ?_
          refine oS (u' := s₁.setTop (mkF m 20 #[.val (.ref a1), .val (.int p2), .val (.int p3), .val (.int x)] [(.int (1 : Int32)), (.int x), (.ref a1)])) (fun _ kst => XS.iconst X0.here hx rfl (hb hby own_d3_19) kst) ?_
          refine oS (u' := s₁.setTop (mkF m 21 #[.val (.ref a1), .val (.int p2), .val (.int p3), .val (.int x)] [(.int (x + (1 : Int32))), (.ref a1)])) (fun _ kst => XS.iadd X0.here hx rfl (hb hby own_d3_20) rfl kst) ?_
          refine oS (u' := s₁.setTop (mkF m 22 #[.val (.ref a1), .val (.int p2), .val (.int p3), .val (.int x)] [(.int (f (i + 1)))])) (fun tgt kst => own_ldB X0 hx hZ e0 A1 (k := (i + 1)) (v := (.int (f (i + 1)))) (own_addk hx0 1 1 rfl (by omega)) (by omega) rfl (g := (mkF m 21 #[.val (.ref a1), .val (.int p2), .val (.int p3), .val (.int x)] [(.int (x + (1 : Int32))), (.ref a1)])) rfl rfl (hb hby own_d3_21) tgt kst) ?_
          refine oS (u' := s₁.setTop (mkF m 24 #[.val (.ref a1), .val (.int p2), .val (.int p3), .val (.int x)] [(.int (10 : Int32)), (.int (f (i + 1)))])) (fun _ kst => XS.bipush X0.here hx rfl (hb hby own_d3_22) kst) ?_
          by_cases hc11 : (f (i + 1)) = (10 : Int32)
          · refine oS (u' := s₁.setTop (mkF m 27 #[.val (.ref a1), .val (.int p2), .val (.int p3), .val (.int x)] [])) (fun _ kst => XS.icmpNo X0.here hx rfl (hb hby own_d3_24) rfl (teq hc11).2 kst) ?_
            refine oS (u' := s₁.setTop (mkF m 28 #[.val (.ref a1), .val (.int p2), .val (.int p3), .val (.int x)] [(.ref a1)])) (fun _ kst => XS.aloadN X0.here hx rfl (hb hby own_d3_27) rfl rfl kst) ?_
            refine oS (u' := s₁.setTop (mkF m 29 #[.val (.ref a1), .val (.int p2), .val (.int p3), .val (.int x)] [(.int x), (.ref a1)])) (fun _ kst => XS.iloadN X0.here hx rfl (hb hby own_d3_28) rfl kst) ?_
            refine oS (u' := s₁.setTop (mkF m 30 #[.val (.ref a1), .val (.int p2), .val (.int p3), .val (.int x)] [(.int (2 : Int32)), (.int x), (.ref a1)])) (fun _ kst => XS.iconst X0.here hx rfl (hb hby own_d3_29) kst) ?_
            refine oS (u' := s₁.setTop (mkF m 31 #[.val (.ref a1), .val (.int p2), .val (.int p3), .val (.int x)] [(.int (x + (2 : Int32))), (.ref a1)])) (fun _ kst => XS.iadd X0.here hx rfl (hb hby own_d3_30) rfl kst) ?_
            refine oS (u' := s₁.setTop (mkF m 32 #[.val (.ref a1), .val (.int p2), .val (.int p3), .val (.int x)] [(.int (f (i + 2)))])) (fun tgt kst => own_ldB X0 hx hZ e0 A1 (k := (i + 2)) (v := (.int (f (i + 2)))) (own_addk hx0 2 2 rfl (by omega)) (by omega) rfl (g := (mkF m 31 #[.val (.ref a1), .val (.int p2), .val (.int p3), .val (.int x)] [(.int (x + (2 : Int32))), (.ref a1)])) rfl rfl (hb hby own_d3_31) tgt kst) ?_
            refine oS (u' := s₁.setTop (mkF m 34 #[.val (.ref a1), .val (.int p2), .val (.int p3), .val (.int x)] [(.int (13 : Int32)), (.int (f (i + 2)))])) (fun _ kst => XS.bipush X0.here hx rfl (hb hby own_d3_32) kst) ?_
            by_cases hc12 : (f (i + 2)) = (13 : Int32)
            · refine oS (u' := s₁.setTop (mkF m 37 #[.val (.ref a1), .val (.int p2), .val (.int p3), .val (.int x)] [])) (fun _ kst => XS.icmpNo X0.here hx rfl (hb hby own_d3_34) rfl (teq hc12).2 kst) ?_
              refine oS (u' := s₁.setTop (mkF m 38 #[.val (.ref a1), .val (.int p2), .val (.int p3), .val (.int x)] [(.ref a1)])) (fun _ kst => XS.aloadN X0.here hx rfl (hb hby own_d3_37) rfl rfl kst) ?_
              refine oS (u' := s₁.setTop (mkF m 39 #[.val (.ref a1), .val (.int p2), .val (.int p3), .val (.int x)] [(.int x), (.ref a1)])) (fun _ kst => XS.iloadN X0.here hx rfl (hb hby own_d3_38) rfl kst) ?_
              refine oS (u' := s₁.setTop (mkF m 40 #[.val (.ref a1), .val (.int p2), .val (.int p3), .val (.int x)] [(.int (3 : Int32)), (.int x), (.ref a1)])) (fun _ kst => XS.iconst X0.here hx rfl (hb hby own_d3_39) kst) ?_
              refine oS (u' := s₁.setTop (mkF m 41 #[.val (.ref a1), .val (.int p2), .val (.int p3), .val (.int x)] [(.int (x + (3 : Int32))), (.ref a1)])) (fun _ kst => XS.iadd X0.here hx rfl (hb hby own_d3_40) rfl kst) ?_
              refine oS (u' := s₁.setTop (mkF m 42 #[.val (.ref a1), .val (.int p2), .val (.int p3), .val (.int x)] [(.int (f (i + 3)))])) (fun tgt kst => own_ldB X0 hx hZ e0 A1 (k := (i + 3)) (v := (.int (f (i + 3)))) (own_addk hx0 3 3 rfl (by omega)) (by omega) rfl (g := (mkF m 41 #[.val (.ref a1), .val (.int p2), .val (.int p3), .val (.int x)] [(.int (x + (3 : Int32))), (.ref a1)])) rfl rfl (hb hby own_d3_41) tgt kst) ?_
              refine oS (u' := s₁.setTop (mkF m 44 #[.val (.ref a1), .val (.int p2), .val (.int p3), .val (.int x)] [(.int (10 : Int32)), (.int (f (i + 3)))])) (fun _ kst => XS.bipush X0.here hx rfl (hb hby own_d3_42) kst) ?_
              by_cases hc13 : (f (i + 3)) = (10 : Int32)
              · refine oS (u' := s₁.setTop (mkF m 47 #[.val (.ref a1), .val (.int p2), .val (.int p3), .val (.int x)] [])) (fun _ kst => XS.icmpNo X0.here hx rfl (hb hby own_d3_44) rfl (teq hc13).2 kst) ?_
                refine oS (u' := s₁.setTop (mkF m 48 #[.val (.ref a1), .val (.int p2), .val (.int p3), .val (.int x)] [(.int x)])) (fun _ kst => XS.iloadN X0.here hx rfl (hb hby own_d3_47) rfl kst) ?_
                refine oS (u' := s₁.setTop (mkF m 49 #[.val (.ref a1), .val (.int p2), .val (.int p3), .val (.int x)] [(.int (4 : Int32)), (.int x)])) (fun _ kst => XS.iconst X0.here hx rfl (hb hby own_d3_48) kst) ?_
                refine oS (u' := s₁.setTop (mkF m 50 #[.val (.ref a1), .val (.int p2), .val (.int p3), .val (.int x)] [(.int (x + (4 : Int32)))])) (fun _ kst => XS.iadd X0.here hx rfl (hb hby own_d3_49) rfl kst) ?_
                refine own_retI X0 hx hlk hret (hb hby own_d3_50) ?_ (by decide) (by decide)
                exact ⟨congrArg (fun z => some (Value.int z)) ((own_four hx0 (by omega)).trans (own_scan_hit f n hin hc10 hc11 hc12 hc13).symm), e0, rfl⟩
              · refine oS (u' := s₁.setTop (mkF m 51 #[.val (.ref a1), .val (.int p2), .val (.int p3), .val (.int x)] [])) (fun _ kst => XS.icmpYes X0.here hx rfl (pc0 := 44) (pc' := 51) rfl (hb hby own_d3_44) rfl (feq hc13).2 (by decide) (by decide) kst) ?_
                refine oS (u' := s₁.setTop (mkF m 54 #[.val (.ref a1), .val (.int p2), .val (.int p3), .val (.int (x + (1 : Int32)))] [])) (fun _ kst => XS.iinc X0.here hx rfl (hb hby own_d3_51) rfl (l' := #[.val (.ref a1), .val (.int p2), .val (.int p3), .val (.int (x + (1 : Int32)))]) rfl kst) ?_
                refine oS (u' := s₁.setTop (mkF m 2 #[.val (.ref a1), .val (.int p2), .val (.int p3), .val (.int (x + (1 : Int32)))] [])) (fun _ kst => XS.goto X0.here hx rfl (pc0 := 54) (pc' := 2) rfl (hb hby own_d3_54) (by decide) (by decide) kst) ?_
                rw [own_scan_next4 f n hin hc10 hc11 hc12 hc13]
                exact ih (i + 1) _ (own_addk hx0 1 1 rfl (by omega)) (by omega) (by omega)
            · refine oS (u' := s₁.setTop (mkF m 51 #[.val (.ref a1), .val (.int p2), .val (.int p3), .val (.int x)] [])) (fun _ kst => XS.icmpYes X0.here hx rfl (pc0 := 34) (pc' := 51) rfl (hb hby own_d3_34) rfl (feq hc12).2 (by decide) (by decide) kst) ?_
              refine oS (u' := s₁.setTop (mkF m 54 #[.val (.ref a1), .val (.int p2), .val (.int p3), .val (.int (x + (1 : Int32)))] [])) (fun _ kst => XS.iinc X0.here hx rfl (hb hby own_d3_51) rfl (l' := #[.val (.ref a1), .val (.int p2), .val (.int p3), .val (.int (x + (1 : Int32)))]) rfl kst) ?_
              refine oS (u' := s₁.setTop (mkF m 2 #[.val (.ref a1), .val (.int p2), .val (.int p3), .val (.int (x + (1 : Int32)))] [])) (fun _ kst => XS.goto X0.here hx rfl (pc0 := 54) (pc' := 2) rfl (hb hby own_d3_54) (by decide) (by decide) kst) ?_
              rw [own_scan_next3 f n hin hc10 hc11 hc12]
              exact ih (i + 1) _ (own_addk hx0 1 1 rfl (by omega)) (by omega) (by omega)
          · refine oS (u' := s₁.setTop (mkF m 51 #[.val (.ref a1), .val (.int p2), .val (.int p3), .val (.int x)] [])) (fun _ kst => XS.icmpYes X0.here hx rfl (pc0 := 24) (pc' := 51) rfl (hb hby own_d3_24) rfl (feq hc11).2 (by decide) (by decide) kst) ?_
            refine oS (u' := s₁.setTop (mkF m 54 #[.val (.ref a1), .val (.int p2), .val (.int p3), .val (.int (x + (1 : Int32)))] [])) (fun _ kst => XS.iinc X0.here hx rfl (hb hby own_d3_51) rfl (l' := #[.val (.ref a1), .val (.int p2), .val (.int p3), .val (.int (x + (1 : Int32)))]) rfl kst) ?_
            refine oS (u' := s₁.setTop (mkF m 2 #[.val (.ref a1), .val (.int p2), .val (.int p3), .val (.int (x + (1 : Int32)))] [])) (fun _ kst => XS.goto X0.here hx rfl (pc0 := 54) (pc' := 2) rfl (hb hby own_d3_54) (by decide) (by decide) kst) ?_
            rw [own_scan_next2 f n hin hc10 hc11]
            exact ih (i + 1) _ (own_addk hx0 1 1 rfl (by omega)) (by omega) (by omega)
        · refine oS (u' := s₁.setTop (mkF m 51 #[.val (.ref a1), .val (.int p2), .val (.int p3), .val (.int x)] [])) (fun _ kst => XS.icmpYes X0.here hx rfl (pc0 := 14) (pc' := 51) rfl (hb hby own_d3_14) rfl (feq hc10).2 (by decide) (by decide) kst) ?_
          refine oS (u' := s₁.setTop (mkF m 54 #[.val (.ref a1), .val (.int p2), .val (.int p3), .val (.int (x + (1 : Int32)))] [])) (fun _ kst => XS.iinc X0.here hx rfl (hb hby own_d3_51) rfl (l' := #[.val (.ref a1), .val (.int p2), .val (.int p3), .val (.int (x + (1 : Int32)))]) rfl kst) ?_
          refine oS (u' := s₁.setTop (mkF m 2 #[.val (.ref a1), .val (.int p2), .val (.int p3), .val (.int (x + (1 : Int32)))] [])) (fun _ kst => XS.goto X0.here hx rfl (pc0 := 54) (pc' := 2) rfl (hb hby own_d3_54) (by decide) (by decide) kst) ?_
          rw [own_scan_next1 f n hin hc10]
          exact ih (i + 1) _ (own_addk hx0 1 1 rfl (by omega)) (by omega) (by omega)
      · refine oS (u' := s₁.setTop (mkF m 57 #[.val (.ref a1), .val (.int p2), .val (.int p3), .val (.int x)] [])) (fun _ kst => XS.icmpYes X0.here hx rfl (pc0 := 6) (pc' := 57) rfl (hb hby own_d3_6) rfl (flt hc9).2.1 (by decide) (by decide) kst) ?_
        refine oS (u' := s₁.setTop (mkF m 58 #[.val (.ref a1), .val (.int p2), .val (.int p3), .val (.int x)] [(.int (-1 : Int32))])) (fun _ kst => XS.iconst X0.here hx rfl (hb hby own_d3_57) kst) ?_
        refine own_retI X0 hx hlk hret (hb hby own_d3_58) ?_ (by decide) (by decide)
        exact ⟨by rw [own_scan_stop f (own_nogo hx0 hp3 (by omega) hc9)], e0, rfl⟩
  refine oS (u' := s₁.setTop (mkF m 0 #[.val (.ref a1), .val (.int p2), .val (.int p3), .unset] [])) (fun _ kst => castTop (own_ef3 m a1 p2 p3) kst) ?_
  refine oS (u' := s₁.setTop (mkF m 1 #[.val (.ref a1), .val (.int p2), .val (.int p3), .unset] [(.int p2)])) (fun _ kst => XS.iloadN X0.here hx rfl (hb hby own_d3_0) rfl kst) ?_
  refine oS (u' := s₁.setTop (mkF m 2 #[.val (.ref a1), .val (.int p2), .val (.int p3), .val (.int p2)] [])) (fun _ kst => XS.istoreN X0.here hx rfl (hb hby own_d3_1) rfl (l' := #[.val (.ref a1), .val (.int p2), .val (.int p3), .val (.int p2)]) rfl kst) ?_
  refine loop 9 j p2 hj ?_ ?_ <;> omega
def own_b (p1 : Int32) (p2 : Int64) (i : Nat) : Int32 := (own_pick p1 p2 (Int32.ofNat i)).toInt8.toInt32
theorem own_filled (p1 : Int32) (p2 : Int64) (i : Nat) (hi : i < 8) : (own_up (own_up (own_up (own_up (own_up (own_up (own_up (own_up (fun _ => .int (0 : Int32)) 0 (.int ((own_pick p1 p2 (0 : Int32))).toInt8.toInt32)) 1 (.int ((own_pick p1 p2 (1 : Int32))).toInt8.toInt32)) 2 (.int ((own_pick p1 p2 (2 : Int32))).toInt8.toInt32)) 3 (.int ((own_pick p1 p2 (3 : Int32))).toInt8.toInt32)) 4 (.int ((own_pick p1 p2 (4 : Int32))).toInt8.toInt32)) 5 (.int ((own_pick p1 p2 (5 : Int32))).toInt8.toInt32)) 6 (.int ((own_pick p1 p2 (6 : Int32))).toInt8.toInt32)) 7 (.int ((own_pick p1 p2 (7 : Int32))).toInt8.toInt32)) i = (fun i => Value.int (own_b p1 p2 i)) i := by
  have : i = 0 ∨ i = 1 ∨ i = 2 ∨ i = 3 ∨ i = 4 ∨ i = 5 ∨ i = 6 ∨ i = 7 := by omega
  rcases this with rfl | rfl | rfl | rfl | rfl | rfl | rfl | rfl <;> rfl
theorem own_m_iff (a : Addr) (x y z : Int32) (f : Nat → Int32) (i j t : Nat) (hx : x.toInt = (i : Int)) (hy : y.toInt = (j : Int)) (hz : z.toInt = (t : Int)) (hi : i < 20) : (¬ own_m a x y z f i = 0) ↔ (j ≤ i ∧ own_P f t i) := by
  have e1 : (x < y) ↔ i < j := by rw [Int32.lt_iff_toInt_lt, hx, hy]; omega
  have e2 := own_lt3 hx hz hi
  unfold own_m own_P
  by_cases h1 : x < y
  · rw [if_pos h1]
    have := e1.mp h1
    constructor
    · intro q; exact absurd rfl q
    · intro q; omega
  · rw [if_neg h1]
    have h1' : j ≤ i := by have := mt e1.mpr h1; omega
    by_cases h2 : x + (3 : Int32) < z
    · rw [if_pos h2]
      have h2' := e2.mp h2
      by_cases h3 : f i = 13
      · rw [if_pos h3]
        by_cases h4 : f (i + 1) = 10
        · rw [if_pos h4]
          by_cases h5 : f (i + 2) = 13
          · rw [if_pos h5]
            by_cases h6 : f (i + 3) = 10
            · rw [if_pos h6]; exact ⟨fun _ => ⟨h1', h2', h3, h4, h5, h6⟩, fun _ => by decide⟩
            · rw [if_neg h6]; exact ⟨fun q => absurd rfl q, fun q => absurd q.2.2.2.2.2 h6⟩
          · rw [if_neg h5]; exact ⟨fun q => absurd rfl q, fun q => absurd q.2.2.2.2.1 h5⟩
        · rw [if_neg h4]; exact ⟨fun q => absurd rfl q, fun q => absurd q.2.2.2.1 h4⟩
      · rw [if_neg h3]; exact ⟨fun q => absurd rfl q, fun q => absurd q.2.2.1 h3⟩
    · rw [if_neg h2]; exact ⟨fun q => absurd rfl q, fun q => absurd (e2.mpr q.2.1) h2⟩
theorem own_no {a : Addr} {x y z : Int32} {f : Nat → Int32} {i j t : Nat} (h : own_m a x y z f i = 0) (hx : x.toInt = (i : Int)) (hy : y.toInt = (j : Int)) (hz : z.toInt = (t : Int)) (hi : i < 20) (hj : j ≤ i) : ¬ own_P f t i :=
  fun q => (own_m_iff a x y z f i j t hx hy hz hi).mpr ⟨hj, q⟩ h
theorem own_found0 (a : Addr) (p1 : Int32) (p2 : Int64) (p4 p5 : Int32) (h0 : ¬ own_m a (0 : Int32) (own_from p4) (own_to p5) (own_b p1 p2) 0 = (0 : Int32)) : own_scan (own_b p1 p2) (own_to p5).toInt.toNat 9 (own_from p4).toInt.toNat = (4 : Int32) := by
  have hy := (own_from_nat p4).1; have hz := (own_to_nat p5).1; have ht := (own_to_nat p5).2
  obtain ⟨c1, c2⟩ := (own_m_iff a _ _ _ _ 0 _ _ rfl hy hz (by decide)).mp h0
  refine own_scan_first _ _ c2 9 _ c1 (by omega) (fun j q1 q2 => ?_)
  omega
theorem own_found1 (a : Addr) (p1 : Int32) (p2 : Int64) (p4 p5 : Int32) (h0 : own_m a (0 : Int32) (own_from p4) (own_to p5) (own_b p1 p2) 0 = (0 : Int32)) (h1 : ¬ own_m a (1 : Int32) (own_from p4) (own_to p5) (own_b p1 p2) 1 = (0 : Int32)) : own_scan (own_b p1 p2) (own_to p5).toInt.toNat 9 (own_from p4).toInt.toNat = (5 : Int32) := by
  have hy := (own_from_nat p4).1; have hz := (own_to_nat p5).1; have ht := (own_to_nat p5).2
  obtain ⟨c1, c2⟩ := (own_m_iff a _ _ _ _ 1 _ _ rfl hy hz (by decide)).mp h1
  refine own_scan_first _ _ c2 9 _ c1 (by omega) (fun j q1 q2 => ?_)
  have : j = 0 := by omega
  rcases this with rfl
  · exact own_no h0 rfl hy hz (by decide) q1
theorem own_found2 (a : Addr) (p1 : Int32) (p2 : Int64) (p4 p5 : Int32) (h0 : own_m a (0 : Int32) (own_from p4) (own_to p5) (own_b p1 p2) 0 = (0 : Int32)) (h1 : own_m a (1 : Int32) (own_from p4) (own_to p5) (own_b p1 p2) 1 = (0 : Int32)) (h2 : ¬ own_m a (2 : Int32) (own_from p4) (own_to p5) (own_b p1 p2) 2 = (0 : Int32)) : own_scan (own_b p1 p2) (own_to p5).toInt.toNat 9 (own_from p4).toInt.toNat = (6 : Int32) := by
  have hy := (own_from_nat p4).1; have hz := (own_to_nat p5).1; have ht := (own_to_nat p5).2
  obtain ⟨c1, c2⟩ := (own_m_iff a _ _ _ _ 2 _ _ rfl hy hz (by decide)).mp h2
  refine own_scan_first _ _ c2 9 _ c1 (by omega) (fun j q1 q2 => ?_)
  have : j = 0 ∨ j = 1 := by omega
  rcases this with rfl | rfl
  · exact own_no h0 rfl hy hz (by decide) q1
  · exact own_no h1 rfl hy hz (by decide) q1
theorem own_found3 (a : Addr) (p1 : Int32) (p2 : Int64) (p4 p5 : Int32) (h0 : own_m a (0 : Int32) (own_from p4) (own_to p5) (own_b p1 p2) 0 = (0 : Int32)) (h1 : own_m a (1 : Int32) (own_from p4) (own_to p5) (own_b p1 p2) 1 = (0 : Int32)) (h2 : own_m a (2 : Int32) (own_from p4) (own_to p5) (own_b p1 p2) 2 = (0 : Int32)) (h3 : ¬ own_m a (3 : Int32) (own_from p4) (own_to p5) (own_b p1 p2) 3 = (0 : Int32)) : own_scan (own_b p1 p2) (own_to p5).toInt.toNat 9 (own_from p4).toInt.toNat = (7 : Int32) := by
  have hy := (own_from_nat p4).1; have hz := (own_to_nat p5).1; have ht := (own_to_nat p5).2
  obtain ⟨c1, c2⟩ := (own_m_iff a _ _ _ _ 3 _ _ rfl hy hz (by decide)).mp h3
  refine own_scan_first _ _ c2 9 _ c1 (by omega) (fun j q1 q2 => ?_)
  have : j = 0 ∨ j = 1 ∨ j = 2 := by omega
  rcases this with rfl | rfl | rfl
  · exact own_no h0 rfl hy hz (by decide) q1
  · exact own_no h1 rfl hy hz (by decide) q1
  · exact own_no h2 rfl hy hz (by decide) q1
theorem own_found4 (a : Addr) (p1 : Int32) (p2 : Int64) (p4 p5 : Int32) (h0 : own_m a (0 : Int32) (own_from p4) (own_to p5) (own_b p1 p2) 0 = (0 : Int32)) (h1 : own_m a (1 : Int32) (own_from p4) (own_to p5) (own_b p1 p2) 1 = (0 : Int32)) (h2 : own_m a (2 : Int32) (own_from p4) (own_to p5) (own_b p1 p2) 2 = (0 : Int32)) (h3 : own_m a (3 : Int32) (own_from p4) (own_to p5) (own_b p1 p2) 3 = (0 : Int32)) (h4 : ¬ own_m a (4 : Int32) (own_from p4) (own_to p5) (own_b p1 p2) 4 = (0 : Int32)) : own_scan (own_b p1 p2) (own_to p5).toInt.toNat 9 (own_from p4).toInt.toNat = (8 : Int32) := by
  have hy := (own_from_nat p4).1; have hz := (own_to_nat p5).1; have ht := (own_to_nat p5).2
  obtain ⟨c1, c2⟩ := (own_m_iff a _ _ _ _ 4 _ _ rfl hy hz (by decide)).mp h4
  refine own_scan_first _ _ c2 9 _ c1 (by omega) (fun j q1 q2 => ?_)
  have : j = 0 ∨ j = 1 ∨ j = 2 ∨ j = 3 := by omega
  rcases this with rfl | rfl | rfl | rfl
  · exact own_no h0 rfl hy hz (by decide) q1
  · exact own_no h1 rfl hy hz (by decide) q1
  · exact own_no h2 rfl hy hz (by decide) q1
  · exact own_no h3 rfl hy hz (by decide) q1
theorem own_none (a : Addr) (p1 : Int32) (p2 : Int64) (p4 p5 : Int32) (h0 : own_m a (0 : Int32) (own_from p4) (own_to p5) (own_b p1 p2) 0 = (0 : Int32)) (h1 : own_m a (1 : Int32) (own_from p4) (own_to p5) (own_b p1 p2) 1 = (0 : Int32)) (h2 : own_m a (2 : Int32) (own_from p4) (own_to p5) (own_b p1 p2) 2 = (0 : Int32)) (h3 : own_m a (3 : Int32) (own_from p4) (own_to p5) (own_b p1 p2) 3 = (0 : Int32)) (h4 : own_m a (4 : Int32) (own_from p4) (own_to p5) (own_b p1 p2) 4 = (0 : Int32)) : own_scan (own_b p1 p2) (own_to p5).toInt.toNat 9 (own_from p4).toInt.toNat = (-1 : Int32) := by
  have hy := (own_from_nat p4).1; have hz := (own_to_nat p5).1; have ht := (own_to_nat p5).2
  refine own_scan_none _ _ 9 _ (fun j q1 => ?_)
  by_cases h : j < 5
  · have : j = 0 ∨ j = 1 ∨ j = 2 ∨ j = 3 ∨ j = 4 := by omega
    rcases this with rfl | rfl | rfl | rfl | rfl
    · exact own_no h0 rfl hy hz (by decide) q1
    · exact own_no h1 rfl hy hz (by decide) q1
    · exact own_no h2 rfl hy hz (by decide) q1
    · exact own_no h3 rfl hy hz (by decide) q1
    · exact own_no h4 rfl hy hz (by decide) q1
  · exact fun q => by have := q.1; omega

theorem own_ef0 (m : MethodId) (x0 : Int32) (x1 : Int64) (x2 : Int32) (x3 : Int32) : entryFrame m #[(.int x0), (.long x1), (.int x2), (.int x3)] maxLocals = mkF m 0 #[.val (.int x0), .val (.long x1), .second, .val (.int x2), .val (.int x3), .unset, .unset, .unset, .unset] [] := by first | (simp [entryFrame, mkF, argsToLocals, Value.category, maxLocals]; done) | rfl
theorem own_pd0 : parseMethodDescriptor "(IJI)B" = some ⟨[.int, .long, .int], some .byte⟩ := by decide +kernel
theorem own_pd1 : parseMethodDescriptor "([BIII)Z" = some ⟨[(.array .byte), .int, .int, .int], some .boolean⟩ := by decide +kernel
theorem own_pd2 : parseMethodDescriptor "([BII)I" = some ⟨[(.array .byte), .int, .int], some .int⟩ := by decide +kernel
set_option maxRecDepth 65536 in
set_option maxHeartbeats 40000000 in
theorem own_law (l : Launch) (Z : State) (a0 : Array Value) (hw : ∀ d ∈ tables_1, d.before a0 Z = true) (p1 : Int32) (p2 : Int64) (p3 : Int32) (p4 : Int32) (h0 : Heap) (n0 : Nat) (Z0 : n0 ≤ h0.size) : own_Con l Z tables_1 x code maxLocals ret room_1 #[(.int p1), (.long p2), (.int p3), (.int p4)] h0 (fun v _ L => v = some (.int (1 : Int32)) ∧ Fr n0 L) := by
  refine own_body (plainFor_of_name own_pn_RequestHeadEndPinLaw) ?_
  intro p e s m below meth c s₁ X0 hx hby hml hret hlk hown hnm hZ e0
  have N0 := Fr.nil n0
  refine oS (u' := s₁.setTop (mkF m 0 #[.val (.int p1), .val (.long p2), .second, .val (.int p3), .val (.int p4), .unset, .unset, .unset, .unset] [])) (fun _ kst => castTop (own_ef0 m p1 p2 p3 p4) kst) ?_
  refine oS (u' := s₁.setTop (mkF m 1 #[.val (.int p1), .val (.long p2), .second, .val (.int p3), .val (.int p4), .unset, .unset, .unset, .unset] [(.int p3)])) (fun _ kst => XS.iloadN X0.here hx rfl (hb hby at_0) rfl kst) ?_
  refine oS (u' := s₁.setTop (mkF m 3 #[.val (.int p1), .val (.long p2), .second, .val (.int p3), .val (.int p4), .unset, .unset, .unset, .unset] [(.int (2147483647 : Int32)), (.int p3)])) (fun _ kst => X0.ldcInt hx hown (mvT hZ (hw _ (List.mem_of_getElem? (i := 0) rfl))) (g := (mkF m 1 #[.val (.int p1), .val (.long p2), .second, .val (.int p3), .val (.int p4), .unset, .unset, .unset, .unset] [(.int p3)])) rfl (hb hby at_1) _ kst) ?_
  refine oS (u' := s₁.setTop (mkF m 4 #[.val (.int p1), .val (.long p2), .second, .val (.int p3), .val (.int p4), .unset, .unset, .unset, .unset] [(.int (p3 &&& (2147483647 : Int32)))])) (fun _ kst => XS.iand X0.here hx rfl (hb hby at_3) rfl kst) ?_
  refine oS (u' := s₁.setTop (mkF m 6 #[.val (.int p1), .val (.long p2), .second, .val (.int p3), .val (.int p4), .unset, .unset, .unset, .unset] [(.int (10 : Int32)), (.int (p3 &&& (2147483647 : Int32)))])) (fun _ kst => XS.bipush X0.here hx rfl (hb hby at_4) kst) ?_
  refine oS (u' := s₁.setTop (mkF m 7 #[.val (.int p1), .val (.long p2), .second, .val (.int p3), .val (.int p4), .unset, .unset, .unset, .unset] [(.int (own_from p3))])) (fun _ kst => iremM X0 hx rfl (hb hby at_6) rfl (by decide) kst) ?_
  refine oS (u' := s₁.setTop (mkF m 9 #[.val (.int p1), .val (.long p2), .second, .val (.int p3), .val (.int p4), .val (.int (own_from p3)), .unset, .unset, .unset] [])) (fun _ kst => XS.istore X0.here hx rfl (hb hby at_7) rfl (l' := #[.val (.int p1), .val (.long p2), .second, .val (.int p3), .val (.int p4), .val (.int (own_from p3)), .unset, .unset, .unset]) rfl kst) ?_
  refine oS (u' := s₁.setTop (mkF m 11 #[.val (.int p1), .val (.long p2), .second, .val (.int p3), .val (.int p4), .val (.int (own_from p3)), .unset, .unset, .unset] [(.int p4)])) (fun _ kst => XS.iload X0.here hx rfl (hb hby at_9) rfl kst) ?_
  refine oS (u' := s₁.setTop (mkF m 13 #[.val (.int p1), .val (.long p2), .second, .val (.int p3), .val (.int p4), .val (.int (own_from p3)), .unset, .unset, .unset] [(.int (2147483647 : Int32)), (.int p4)])) (fun _ kst => X0.ldcInt hx hown (mvT hZ (hw _ (List.mem_of_getElem? (i := 0) rfl))) (g := (mkF m 11 #[.val (.int p1), .val (.long p2), .second, .val (.int p3), .val (.int p4), .val (.int (own_from p3)), .unset, .unset, .unset] [(.int p4)])) rfl (hb hby at_11) _ kst) ?_
  refine oS (u' := s₁.setTop (mkF m 14 #[.val (.int p1), .val (.long p2), .second, .val (.int p3), .val (.int p4), .val (.int (own_from p3)), .unset, .unset, .unset] [(.int (p4 &&& (2147483647 : Int32)))])) (fun _ kst => XS.iand X0.here hx rfl (hb hby at_13) rfl kst) ?_
  refine oS (u' := s₁.setTop (mkF m 16 #[.val (.int p1), .val (.long p2), .second, .val (.int p3), .val (.int p4), .val (.int (own_from p3)), .unset, .unset, .unset] [(.int (9 : Int32)), (.int (p4 &&& (2147483647 : Int32)))])) (fun _ kst => XS.bipush X0.here hx rfl (hb hby at_14) kst) ?_
  refine oS (u' := s₁.setTop (mkF m 17 #[.val (.int p1), .val (.long p2), .second, .val (.int p3), .val (.int p4), .val (.int (own_from p3)), .unset, .unset, .unset] [(.int (own_to p4))])) (fun _ kst => iremM X0 hx rfl (hb hby at_16) rfl (by decide) kst) ?_
  refine oS (u' := s₁.setTop (mkF m 19 #[.val (.int p1), .val (.long p2), .second, .val (.int p3), .val (.int p4), .val (.int (own_from p3)), .val (.int (own_to p4)), .unset, .unset] [])) (fun _ kst => XS.istore X0.here hx rfl (hb hby at_17) rfl (l' := #[.val (.int p1), .val (.long p2), .second, .val (.int p3), .val (.int p4), .val (.int (own_from p3)), .val (.int (own_to p4)), .unset, .unset]) rfl kst) ?_
  refine oS (u' := s₁.setTop (mkF m 21 #[.val (.int p1), .val (.long p2), .second, .val (.int p3), .val (.int p4), .val (.int (own_from p3)), .val (.int (own_to p4)), .unset, .unset] [(.int (8 : Int32))])) (fun _ kst => XS.bipush X0.here hx rfl (hb hby at_19) kst) ?_
  obtain ⟨T14, h14, X14, e14, E14, A14, st14⟩ := own_newP X0 hx hZ (hw _ (List.mem_of_getElem? (i := 1) rfl)) e0 (g := (mkF m 21 #[.val (.int p1), .val (.long p2), .second, .val (.int p3), .val (.int p4), .val (.int (own_from p3)), .val (.int (own_to p4)), .unset, .unset] [(.int (8 : Int32))])) rfl (hb hby at_21) rfl (k := 8) (by decide) (cap := 8) (by decide) (by decide) (by decide) (by decide)
  obtain ⟨b14, g14⟩ : ∃ z, z = h0.size := ⟨_, rfl⟩
  rw [← g14] at A14 st14
  have gb_b14 : n0 ≤ b14 := Nat.le_trans Z0 (Nat.le_of_eq g14.symm)
  have Z14 := Nat.le_trans Z0 E14.1
  have V14 : own_Ar Z h14 b14 .byte 8 (fun _ => .int (0 : Int32)) := A14
  refine oS (u' := T14.setTop (mkF m 23 #[.val (.int p1), .val (.long p2), .second, .val (.int p3), .val (.int p4), .val (.int (own_from p3)), .val (.int (own_to p4)), .unset, .unset] [(.ref b14)])) st14 ?_
  refine oS (u' := T14.setTop (mkF m 25 #[.val (.int p1), .val (.long p2), .second, .val (.int p3), .val (.int p4), .val (.int (own_from p3)), .val (.int (own_to p4)), .val (.ref b14), .unset] [])) (fun _ kst => XS.astore X14.here hx rfl (hb hby at_23) rfl rfl (l' := #[.val (.int p1), .val (.long p2), .second, .val (.int p3), .val (.int p4), .val (.int (own_from p3)), .val (.int (own_to p4)), .val (.ref b14), .unset]) rfl kst) ?_
  refine oS (u' := T14.setTop (mkF m 27 #[.val (.int p1), .val (.long p2), .second, .val (.int p3), .val (.int p4), .val (.int (own_from p3)), .val (.int (own_to p4)), .val (.ref b14), .unset] [(.ref b14)])) (fun _ kst => XS.aload X14.here hx rfl (hb hby at_25) rfl rfl kst) ?_
  refine oS (u' := T14.setTop (mkF m 28 #[.val (.int p1), .val (.long p2), .second, .val (.int p3), .val (.int p4), .val (.int (own_from p3)), .val (.int (own_to p4)), .val (.ref b14), .unset] [(.int (0 : Int32)), (.ref b14)])) (fun _ kst => XS.iconst X14.here hx rfl (hb hby at_27) kst) ?_
  refine oS (u' := T14.setTop (mkF m 29 #[.val (.int p1), .val (.long p2), .second, .val (.int p3), .val (.int p4), .val (.int (own_from p3)), .val (.int (own_to p4)), .val (.ref b14), .unset] [(.int p1), (.int (0 : Int32)), (.ref b14)])) (fun _ kst => XS.iloadN X14.here hx rfl (hb hby at_28) rfl kst) ?_
  refine oS (u' := T14.setTop (mkF m 30 #[.val (.int p1), .val (.long p2), .second, .val (.int p3), .val (.int p4), .val (.int (own_from p3)), .val (.int (own_to p4)), .val (.ref b14), .unset] [(.long p2), (.int p1), (.int (0 : Int32)), (.ref b14)])) (fun _ kst => XS.lloadN X14.here hx rfl (hb hby at_29) rfl kst) ?_
  refine oS (u' := T14.setTop (mkF m 31 #[.val (.int p1), .val (.long p2), .second, .val (.int p3), .val (.int p4), .val (.int (own_from p3)), .val (.int (own_to p4)), .val (.ref b14), .unset] [(.int (0 : Int32)), (.long p2), (.int p1), (.int (0 : Int32)), (.ref b14)])) (fun _ kst => XS.iconst X14.here hx rfl (hb hby at_30) kst) ?_
  obtain ⟨T15, X15, e15, st15⟩ := own_callSP X14 hx hZ (y := (⟨"com/example/verdict_across_domains/command/RequestHeadEndPinLaw", "pick", "(IJI)B"⟩ : MethodName)) hown (hw _ (List.mem_of_getElem? (i := 2) rfl)) (hw _ (List.mem_of_getElem? (i := 3) rfl)) (hw _ (List.mem_of_getElem? (i := 5) rfl)) (hw _ (List.mem_of_getElem? (i := 4) rfl)) (by decide) e14 (W := 2) (own_rm_pick l Z a0 hw p1 p2 (0 : Int32) h14 ) (by decide) (by decide) (g := (mkF m 31 #[.val (.int p1), .val (.long p2), .second, .val (.int p3), .val (.int p4), .val (.int (own_from p3)), .val (.int (own_to p4)), .val (.ref b14), .unset] [(.int (0 : Int32)), (.long p2), (.int p1), (.int (0 : Int32)), (.ref b14)])) rfl (by rw [hml]; rfl) (argsL := [(.int p1), (.long p2), (.int (0 : Int32))]) (rest := [(.int (0 : Int32)), (.ref b14)]) (lenOf own_pd0 rfl) rfl (by show 2 * 0 + _ ≤ _; exact Nat.le_of_eq rfl) (hb hby at_31) (by decide) (by decide)
  refine oS (u' := T15.setTop (mkF m 34 #[.val (.int p1), .val (.long p2), .second, .val (.int p3), .val (.int p4), .val (.int (own_from p3)), .val (.int (own_to p4)), .val (.ref b14), .unset] [(.int (own_pick p1 p2 (0 : Int32))), (.int (0 : Int32)), (.ref b14)])) st15 ?_
  obtain ⟨T16, h16, X16, e16, W16, st16⟩ := own_stB X15 hx hZ e15 V14 (k := 0) (by decide) (by decide) (g := (mkF m 34 #[.val (.int p1), .val (.long p2), .second, .val (.int p3), .val (.int p4), .val (.int (own_from p3)), .val (.int (own_to p4)), .val (.ref b14), .unset] [(.int (own_pick p1 p2 (0 : Int32))), (.int (0 : Int32)), (.ref b14)])) rfl rfl (hb hby at_34)
  have f16_A_b14 := V14.set W16 (by decide)
  have Z16 := Nat.le_trans Z14 (Keep.of_wr W16).1
  have N16 := Fr.snoc X16 N0 gb_b14
  refine oS (u' := T16.setTop (mkF m 35 #[.val (.int p1), .val (.long p2), .second, .val (.int p3), .val (.int p4), .val (.int (own_from p3)), .val (.int (own_to p4)), .val (.ref b14), .unset] [])) st16 ?_
  refine oS (u' := T16.setTop (mkF m 37 #[.val (.int p1), .val (.long p2), .second, .val (.int p3), .val (.int p4), .val (.int (own_from p3)), .val (.int (own_to p4)), .val (.ref b14), .unset] [(.ref b14)])) (fun _ kst => XS.aload X16.here hx rfl (hb hby at_35) rfl rfl kst) ?_
  refine oS (u' := T16.setTop (mkF m 38 #[.val (.int p1), .val (.long p2), .second, .val (.int p3), .val (.int p4), .val (.int (own_from p3)), .val (.int (own_to p4)), .val (.ref b14), .unset] [(.int (1 : Int32)), (.ref b14)])) (fun _ kst => XS.iconst X16.here hx rfl (hb hby at_37) kst) ?_
  refine oS (u' := T16.setTop (mkF m 39 #[.val (.int p1), .val (.long p2), .second, .val (.int p3), .val (.int p4), .val (.int (own_from p3)), .val (.int (own_to p4)), .val (.ref b14), .unset] [(.int p1), (.int (1 : Int32)), (.ref b14)])) (fun _ kst => XS.iloadN X16.here hx rfl (hb hby at_38) rfl kst) ?_
  refine oS (u' := T16.setTop (mkF m 40 #[.val (.int p1), .val (.long p2), .second, .val (.int p3), .val (.int p4), .val (.int (own_from p3)), .val (.int (own_to p4)), .val (.ref b14), .unset] [(.long p2), (.int p1), (.int (1 : Int32)), (.ref b14)])) (fun _ kst => XS.lloadN X16.here hx rfl (hb hby at_39) rfl kst) ?_
  refine oS (u' := T16.setTop (mkF m 41 #[.val (.int p1), .val (.long p2), .second, .val (.int p3), .val (.int p4), .val (.int (own_from p3)), .val (.int (own_to p4)), .val (.ref b14), .unset] [(.int (1 : Int32)), (.long p2), (.int p1), (.int (1 : Int32)), (.ref b14)])) (fun _ kst => XS.iconst X16.here hx rfl (hb hby at_40) kst) ?_
  obtain ⟨T17, X17, e17, st17⟩ := own_callSP X16 hx hZ (y := (⟨"com/example/verdict_across_domains/command/RequestHeadEndPinLaw", "pick", "(IJI)B"⟩ : MethodName)) hown (hw _ (List.mem_of_getElem? (i := 2) rfl)) (hw _ (List.mem_of_getElem? (i := 3) rfl)) (hw _ (List.mem_of_getElem? (i := 5) rfl)) (hw _ (List.mem_of_getElem? (i := 4) rfl)) (by decide) e16 (W := 2) (own_rm_pick l Z a0 hw p1 p2 (1 : Int32) h16 ) (by decide) (by decide) (g := (mkF m 41 #[.val (.int p1), .val (.long p2), .second, .val (.int p3), .val (.int p4), .val (.int (own_from p3)), .val (.int (own_to p4)), .val (.ref b14), .unset] [(.int (1 : Int32)), (.long p2), (.int p1), (.int (1 : Int32)), (.ref b14)])) rfl (by rw [hml]; rfl) (argsL := [(.int p1), (.long p2), (.int (1 : Int32))]) (rest := [(.int (1 : Int32)), (.ref b14)]) (lenOf own_pd0 rfl) rfl (by show 2 * 0 + _ ≤ _; exact Nat.le_of_eq rfl) (hb hby at_41) (by decide) (by decide)
  refine oS (u' := T17.setTop (mkF m 44 #[.val (.int p1), .val (.long p2), .second, .val (.int p3), .val (.int p4), .val (.int (own_from p3)), .val (.int (own_to p4)), .val (.ref b14), .unset] [(.int (own_pick p1 p2 (1 : Int32))), (.int (1 : Int32)), (.ref b14)])) st17 ?_
  obtain ⟨T18, h18, X18, e18, W18, st18⟩ := own_stB X17 hx hZ e17 f16_A_b14 (k := 1) (by decide) (by decide) (g := (mkF m 44 #[.val (.int p1), .val (.long p2), .second, .val (.int p3), .val (.int p4), .val (.int (own_from p3)), .val (.int (own_to p4)), .val (.ref b14), .unset] [(.int (own_pick p1 p2 (1 : Int32))), (.int (1 : Int32)), (.ref b14)])) rfl rfl (hb hby at_44)
  have f18_A_b14 := f16_A_b14.set W18 (by decide)
  have Z18 := Nat.le_trans Z16 (Keep.of_wr W18).1
  have N18 := Fr.snoc X18 N16 gb_b14
  refine oS (u' := T18.setTop (mkF m 45 #[.val (.int p1), .val (.long p2), .second, .val (.int p3), .val (.int p4), .val (.int (own_from p3)), .val (.int (own_to p4)), .val (.ref b14), .unset] [])) st18 ?_
  refine oS (u' := T18.setTop (mkF m 47 #[.val (.int p1), .val (.long p2), .second, .val (.int p3), .val (.int p4), .val (.int (own_from p3)), .val (.int (own_to p4)), .val (.ref b14), .unset] [(.ref b14)])) (fun _ kst => XS.aload X18.here hx rfl (hb hby at_45) rfl rfl kst) ?_
  refine oS (u' := T18.setTop (mkF m 48 #[.val (.int p1), .val (.long p2), .second, .val (.int p3), .val (.int p4), .val (.int (own_from p3)), .val (.int (own_to p4)), .val (.ref b14), .unset] [(.int (2 : Int32)), (.ref b14)])) (fun _ kst => XS.iconst X18.here hx rfl (hb hby at_47) kst) ?_
  refine oS (u' := T18.setTop (mkF m 49 #[.val (.int p1), .val (.long p2), .second, .val (.int p3), .val (.int p4), .val (.int (own_from p3)), .val (.int (own_to p4)), .val (.ref b14), .unset] [(.int p1), (.int (2 : Int32)), (.ref b14)])) (fun _ kst => XS.iloadN X18.here hx rfl (hb hby at_48) rfl kst) ?_
  refine oS (u' := T18.setTop (mkF m 50 #[.val (.int p1), .val (.long p2), .second, .val (.int p3), .val (.int p4), .val (.int (own_from p3)), .val (.int (own_to p4)), .val (.ref b14), .unset] [(.long p2), (.int p1), (.int (2 : Int32)), (.ref b14)])) (fun _ kst => XS.lloadN X18.here hx rfl (hb hby at_49) rfl kst) ?_
  refine oS (u' := T18.setTop (mkF m 51 #[.val (.int p1), .val (.long p2), .second, .val (.int p3), .val (.int p4), .val (.int (own_from p3)), .val (.int (own_to p4)), .val (.ref b14), .unset] [(.int (2 : Int32)), (.long p2), (.int p1), (.int (2 : Int32)), (.ref b14)])) (fun _ kst => XS.iconst X18.here hx rfl (hb hby at_50) kst) ?_
  obtain ⟨T19, X19, e19, st19⟩ := own_callSP X18 hx hZ (y := (⟨"com/example/verdict_across_domains/command/RequestHeadEndPinLaw", "pick", "(IJI)B"⟩ : MethodName)) hown (hw _ (List.mem_of_getElem? (i := 2) rfl)) (hw _ (List.mem_of_getElem? (i := 3) rfl)) (hw _ (List.mem_of_getElem? (i := 5) rfl)) (hw _ (List.mem_of_getElem? (i := 4) rfl)) (by decide) e18 (W := 2) (own_rm_pick l Z a0 hw p1 p2 (2 : Int32) h18 ) (by decide) (by decide) (g := (mkF m 51 #[.val (.int p1), .val (.long p2), .second, .val (.int p3), .val (.int p4), .val (.int (own_from p3)), .val (.int (own_to p4)), .val (.ref b14), .unset] [(.int (2 : Int32)), (.long p2), (.int p1), (.int (2 : Int32)), (.ref b14)])) rfl (by rw [hml]; rfl) (argsL := [(.int p1), (.long p2), (.int (2 : Int32))]) (rest := [(.int (2 : Int32)), (.ref b14)]) (lenOf own_pd0 rfl) rfl (by show 2 * 0 + _ ≤ _; exact Nat.le_of_eq rfl) (hb hby at_51) (by decide) (by decide)
  refine oS (u' := T19.setTop (mkF m 54 #[.val (.int p1), .val (.long p2), .second, .val (.int p3), .val (.int p4), .val (.int (own_from p3)), .val (.int (own_to p4)), .val (.ref b14), .unset] [(.int (own_pick p1 p2 (2 : Int32))), (.int (2 : Int32)), (.ref b14)])) st19 ?_
  obtain ⟨T20, h20, X20, e20, W20, st20⟩ := own_stB X19 hx hZ e19 f18_A_b14 (k := 2) (by decide) (by decide) (g := (mkF m 54 #[.val (.int p1), .val (.long p2), .second, .val (.int p3), .val (.int p4), .val (.int (own_from p3)), .val (.int (own_to p4)), .val (.ref b14), .unset] [(.int (own_pick p1 p2 (2 : Int32))), (.int (2 : Int32)), (.ref b14)])) rfl rfl (hb hby at_54)
  have f20_A_b14 := f18_A_b14.set W20 (by decide)
  have Z20 := Nat.le_trans Z18 (Keep.of_wr W20).1
  have N20 := Fr.snoc X20 N18 gb_b14
  refine oS (u' := T20.setTop (mkF m 55 #[.val (.int p1), .val (.long p2), .second, .val (.int p3), .val (.int p4), .val (.int (own_from p3)), .val (.int (own_to p4)), .val (.ref b14), .unset] [])) st20 ?_
  refine oS (u' := T20.setTop (mkF m 57 #[.val (.int p1), .val (.long p2), .second, .val (.int p3), .val (.int p4), .val (.int (own_from p3)), .val (.int (own_to p4)), .val (.ref b14), .unset] [(.ref b14)])) (fun _ kst => XS.aload X20.here hx rfl (hb hby at_55) rfl rfl kst) ?_
  refine oS (u' := T20.setTop (mkF m 58 #[.val (.int p1), .val (.long p2), .second, .val (.int p3), .val (.int p4), .val (.int (own_from p3)), .val (.int (own_to p4)), .val (.ref b14), .unset] [(.int (3 : Int32)), (.ref b14)])) (fun _ kst => XS.iconst X20.here hx rfl (hb hby at_57) kst) ?_
  refine oS (u' := T20.setTop (mkF m 59 #[.val (.int p1), .val (.long p2), .second, .val (.int p3), .val (.int p4), .val (.int (own_from p3)), .val (.int (own_to p4)), .val (.ref b14), .unset] [(.int p1), (.int (3 : Int32)), (.ref b14)])) (fun _ kst => XS.iloadN X20.here hx rfl (hb hby at_58) rfl kst) ?_
  refine oS (u' := T20.setTop (mkF m 60 #[.val (.int p1), .val (.long p2), .second, .val (.int p3), .val (.int p4), .val (.int (own_from p3)), .val (.int (own_to p4)), .val (.ref b14), .unset] [(.long p2), (.int p1), (.int (3 : Int32)), (.ref b14)])) (fun _ kst => XS.lloadN X20.here hx rfl (hb hby at_59) rfl kst) ?_
  refine oS (u' := T20.setTop (mkF m 61 #[.val (.int p1), .val (.long p2), .second, .val (.int p3), .val (.int p4), .val (.int (own_from p3)), .val (.int (own_to p4)), .val (.ref b14), .unset] [(.int (3 : Int32)), (.long p2), (.int p1), (.int (3 : Int32)), (.ref b14)])) (fun _ kst => XS.iconst X20.here hx rfl (hb hby at_60) kst) ?_
  obtain ⟨T21, X21, e21, st21⟩ := own_callSP X20 hx hZ (y := (⟨"com/example/verdict_across_domains/command/RequestHeadEndPinLaw", "pick", "(IJI)B"⟩ : MethodName)) hown (hw _ (List.mem_of_getElem? (i := 2) rfl)) (hw _ (List.mem_of_getElem? (i := 3) rfl)) (hw _ (List.mem_of_getElem? (i := 5) rfl)) (hw _ (List.mem_of_getElem? (i := 4) rfl)) (by decide) e20 (W := 2) (own_rm_pick l Z a0 hw p1 p2 (3 : Int32) h20 ) (by decide) (by decide) (g := (mkF m 61 #[.val (.int p1), .val (.long p2), .second, .val (.int p3), .val (.int p4), .val (.int (own_from p3)), .val (.int (own_to p4)), .val (.ref b14), .unset] [(.int (3 : Int32)), (.long p2), (.int p1), (.int (3 : Int32)), (.ref b14)])) rfl (by rw [hml]; rfl) (argsL := [(.int p1), (.long p2), (.int (3 : Int32))]) (rest := [(.int (3 : Int32)), (.ref b14)]) (lenOf own_pd0 rfl) rfl (by show 2 * 0 + _ ≤ _; exact Nat.le_of_eq rfl) (hb hby at_61) (by decide) (by decide)
  refine oS (u' := T21.setTop (mkF m 64 #[.val (.int p1), .val (.long p2), .second, .val (.int p3), .val (.int p4), .val (.int (own_from p3)), .val (.int (own_to p4)), .val (.ref b14), .unset] [(.int (own_pick p1 p2 (3 : Int32))), (.int (3 : Int32)), (.ref b14)])) st21 ?_
  obtain ⟨T22, h22, X22, e22, W22, st22⟩ := own_stB X21 hx hZ e21 f20_A_b14 (k := 3) (by decide) (by decide) (g := (mkF m 64 #[.val (.int p1), .val (.long p2), .second, .val (.int p3), .val (.int p4), .val (.int (own_from p3)), .val (.int (own_to p4)), .val (.ref b14), .unset] [(.int (own_pick p1 p2 (3 : Int32))), (.int (3 : Int32)), (.ref b14)])) rfl rfl (hb hby at_64)
  have f22_A_b14 := f20_A_b14.set W22 (by decide)
  have Z22 := Nat.le_trans Z20 (Keep.of_wr W22).1
  have N22 := Fr.snoc X22 N20 gb_b14
  refine oS (u' := T22.setTop (mkF m 65 #[.val (.int p1), .val (.long p2), .second, .val (.int p3), .val (.int p4), .val (.int (own_from p3)), .val (.int (own_to p4)), .val (.ref b14), .unset] [])) st22 ?_
  refine oS (u' := T22.setTop (mkF m 67 #[.val (.int p1), .val (.long p2), .second, .val (.int p3), .val (.int p4), .val (.int (own_from p3)), .val (.int (own_to p4)), .val (.ref b14), .unset] [(.ref b14)])) (fun _ kst => XS.aload X22.here hx rfl (hb hby at_65) rfl rfl kst) ?_
  refine oS (u' := T22.setTop (mkF m 68 #[.val (.int p1), .val (.long p2), .second, .val (.int p3), .val (.int p4), .val (.int (own_from p3)), .val (.int (own_to p4)), .val (.ref b14), .unset] [(.int (4 : Int32)), (.ref b14)])) (fun _ kst => XS.iconst X22.here hx rfl (hb hby at_67) kst) ?_
  refine oS (u' := T22.setTop (mkF m 69 #[.val (.int p1), .val (.long p2), .second, .val (.int p3), .val (.int p4), .val (.int (own_from p3)), .val (.int (own_to p4)), .val (.ref b14), .unset] [(.int p1), (.int (4 : Int32)), (.ref b14)])) (fun _ kst => XS.iloadN X22.here hx rfl (hb hby at_68) rfl kst) ?_
  refine oS (u' := T22.setTop (mkF m 70 #[.val (.int p1), .val (.long p2), .second, .val (.int p3), .val (.int p4), .val (.int (own_from p3)), .val (.int (own_to p4)), .val (.ref b14), .unset] [(.long p2), (.int p1), (.int (4 : Int32)), (.ref b14)])) (fun _ kst => XS.lloadN X22.here hx rfl (hb hby at_69) rfl kst) ?_
  refine oS (u' := T22.setTop (mkF m 71 #[.val (.int p1), .val (.long p2), .second, .val (.int p3), .val (.int p4), .val (.int (own_from p3)), .val (.int (own_to p4)), .val (.ref b14), .unset] [(.int (4 : Int32)), (.long p2), (.int p1), (.int (4 : Int32)), (.ref b14)])) (fun _ kst => XS.iconst X22.here hx rfl (hb hby at_70) kst) ?_
  obtain ⟨T23, X23, e23, st23⟩ := own_callSP X22 hx hZ (y := (⟨"com/example/verdict_across_domains/command/RequestHeadEndPinLaw", "pick", "(IJI)B"⟩ : MethodName)) hown (hw _ (List.mem_of_getElem? (i := 2) rfl)) (hw _ (List.mem_of_getElem? (i := 3) rfl)) (hw _ (List.mem_of_getElem? (i := 5) rfl)) (hw _ (List.mem_of_getElem? (i := 4) rfl)) (by decide) e22 (W := 2) (own_rm_pick l Z a0 hw p1 p2 (4 : Int32) h22 ) (by decide) (by decide) (g := (mkF m 71 #[.val (.int p1), .val (.long p2), .second, .val (.int p3), .val (.int p4), .val (.int (own_from p3)), .val (.int (own_to p4)), .val (.ref b14), .unset] [(.int (4 : Int32)), (.long p2), (.int p1), (.int (4 : Int32)), (.ref b14)])) rfl (by rw [hml]; rfl) (argsL := [(.int p1), (.long p2), (.int (4 : Int32))]) (rest := [(.int (4 : Int32)), (.ref b14)]) (lenOf own_pd0 rfl) rfl (by show 2 * 0 + _ ≤ _; exact Nat.le_of_eq rfl) (hb hby at_71) (by decide) (by decide)
  refine oS (u' := T23.setTop (mkF m 74 #[.val (.int p1), .val (.long p2), .second, .val (.int p3), .val (.int p4), .val (.int (own_from p3)), .val (.int (own_to p4)), .val (.ref b14), .unset] [(.int (own_pick p1 p2 (4 : Int32))), (.int (4 : Int32)), (.ref b14)])) st23 ?_
  obtain ⟨T24, h24, X24, e24, W24, st24⟩ := own_stB X23 hx hZ e23 f22_A_b14 (k := 4) (by decide) (by decide) (g := (mkF m 74 #[.val (.int p1), .val (.long p2), .second, .val (.int p3), .val (.int p4), .val (.int (own_from p3)), .val (.int (own_to p4)), .val (.ref b14), .unset] [(.int (own_pick p1 p2 (4 : Int32))), (.int (4 : Int32)), (.ref b14)])) rfl rfl (hb hby at_74)
  have f24_A_b14 := f22_A_b14.set W24 (by decide)
  have Z24 := Nat.le_trans Z22 (Keep.of_wr W24).1
  have N24 := Fr.snoc X24 N22 gb_b14
  refine oS (u' := T24.setTop (mkF m 75 #[.val (.int p1), .val (.long p2), .second, .val (.int p3), .val (.int p4), .val (.int (own_from p3)), .val (.int (own_to p4)), .val (.ref b14), .unset] [])) st24 ?_
  refine oS (u' := T24.setTop (mkF m 77 #[.val (.int p1), .val (.long p2), .second, .val (.int p3), .val (.int p4), .val (.int (own_from p3)), .val (.int (own_to p4)), .val (.ref b14), .unset] [(.ref b14)])) (fun _ kst => XS.aload X24.here hx rfl (hb hby at_75) rfl rfl kst) ?_
  refine oS (u' := T24.setTop (mkF m 78 #[.val (.int p1), .val (.long p2), .second, .val (.int p3), .val (.int p4), .val (.int (own_from p3)), .val (.int (own_to p4)), .val (.ref b14), .unset] [(.int (5 : Int32)), (.ref b14)])) (fun _ kst => XS.iconst X24.here hx rfl (hb hby at_77) kst) ?_
  refine oS (u' := T24.setTop (mkF m 79 #[.val (.int p1), .val (.long p2), .second, .val (.int p3), .val (.int p4), .val (.int (own_from p3)), .val (.int (own_to p4)), .val (.ref b14), .unset] [(.int p1), (.int (5 : Int32)), (.ref b14)])) (fun _ kst => XS.iloadN X24.here hx rfl (hb hby at_78) rfl kst) ?_
  refine oS (u' := T24.setTop (mkF m 80 #[.val (.int p1), .val (.long p2), .second, .val (.int p3), .val (.int p4), .val (.int (own_from p3)), .val (.int (own_to p4)), .val (.ref b14), .unset] [(.long p2), (.int p1), (.int (5 : Int32)), (.ref b14)])) (fun _ kst => XS.lloadN X24.here hx rfl (hb hby at_79) rfl kst) ?_
  refine oS (u' := T24.setTop (mkF m 81 #[.val (.int p1), .val (.long p2), .second, .val (.int p3), .val (.int p4), .val (.int (own_from p3)), .val (.int (own_to p4)), .val (.ref b14), .unset] [(.int (5 : Int32)), (.long p2), (.int p1), (.int (5 : Int32)), (.ref b14)])) (fun _ kst => XS.iconst X24.here hx rfl (hb hby at_80) kst) ?_
  obtain ⟨T25, X25, e25, st25⟩ := own_callSP X24 hx hZ (y := (⟨"com/example/verdict_across_domains/command/RequestHeadEndPinLaw", "pick", "(IJI)B"⟩ : MethodName)) hown (hw _ (List.mem_of_getElem? (i := 2) rfl)) (hw _ (List.mem_of_getElem? (i := 3) rfl)) (hw _ (List.mem_of_getElem? (i := 5) rfl)) (hw _ (List.mem_of_getElem? (i := 4) rfl)) (by decide) e24 (W := 2) (own_rm_pick l Z a0 hw p1 p2 (5 : Int32) h24 ) (by decide) (by decide) (g := (mkF m 81 #[.val (.int p1), .val (.long p2), .second, .val (.int p3), .val (.int p4), .val (.int (own_from p3)), .val (.int (own_to p4)), .val (.ref b14), .unset] [(.int (5 : Int32)), (.long p2), (.int p1), (.int (5 : Int32)), (.ref b14)])) rfl (by rw [hml]; rfl) (argsL := [(.int p1), (.long p2), (.int (5 : Int32))]) (rest := [(.int (5 : Int32)), (.ref b14)]) (lenOf own_pd0 rfl) rfl (by show 2 * 0 + _ ≤ _; exact Nat.le_of_eq rfl) (hb hby at_81) (by decide) (by decide)
  refine oS (u' := T25.setTop (mkF m 84 #[.val (.int p1), .val (.long p2), .second, .val (.int p3), .val (.int p4), .val (.int (own_from p3)), .val (.int (own_to p4)), .val (.ref b14), .unset] [(.int (own_pick p1 p2 (5 : Int32))), (.int (5 : Int32)), (.ref b14)])) st25 ?_
  obtain ⟨T26, h26, X26, e26, W26, st26⟩ := own_stB X25 hx hZ e25 f24_A_b14 (k := 5) (by decide) (by decide) (g := (mkF m 84 #[.val (.int p1), .val (.long p2), .second, .val (.int p3), .val (.int p4), .val (.int (own_from p3)), .val (.int (own_to p4)), .val (.ref b14), .unset] [(.int (own_pick p1 p2 (5 : Int32))), (.int (5 : Int32)), (.ref b14)])) rfl rfl (hb hby at_84)
  have f26_A_b14 := f24_A_b14.set W26 (by decide)
  have Z26 := Nat.le_trans Z24 (Keep.of_wr W26).1
  have N26 := Fr.snoc X26 N24 gb_b14
  refine oS (u' := T26.setTop (mkF m 85 #[.val (.int p1), .val (.long p2), .second, .val (.int p3), .val (.int p4), .val (.int (own_from p3)), .val (.int (own_to p4)), .val (.ref b14), .unset] [])) st26 ?_
  refine oS (u' := T26.setTop (mkF m 87 #[.val (.int p1), .val (.long p2), .second, .val (.int p3), .val (.int p4), .val (.int (own_from p3)), .val (.int (own_to p4)), .val (.ref b14), .unset] [(.ref b14)])) (fun _ kst => XS.aload X26.here hx rfl (hb hby at_85) rfl rfl kst) ?_
  refine oS (u' := T26.setTop (mkF m 89 #[.val (.int p1), .val (.long p2), .second, .val (.int p3), .val (.int p4), .val (.int (own_from p3)), .val (.int (own_to p4)), .val (.ref b14), .unset] [(.int (6 : Int32)), (.ref b14)])) (fun _ kst => XS.bipush X26.here hx rfl (hb hby at_87) kst) ?_
  refine oS (u' := T26.setTop (mkF m 90 #[.val (.int p1), .val (.long p2), .second, .val (.int p3), .val (.int p4), .val (.int (own_from p3)), .val (.int (own_to p4)), .val (.ref b14), .unset] [(.int p1), (.int (6 : Int32)), (.ref b14)])) (fun _ kst => XS.iloadN X26.here hx rfl (hb hby at_89) rfl kst) ?_
  refine oS (u' := T26.setTop (mkF m 91 #[.val (.int p1), .val (.long p2), .second, .val (.int p3), .val (.int p4), .val (.int (own_from p3)), .val (.int (own_to p4)), .val (.ref b14), .unset] [(.long p2), (.int p1), (.int (6 : Int32)), (.ref b14)])) (fun _ kst => XS.lloadN X26.here hx rfl (hb hby at_90) rfl kst) ?_
  refine oS (u' := T26.setTop (mkF m 93 #[.val (.int p1), .val (.long p2), .second, .val (.int p3), .val (.int p4), .val (.int (own_from p3)), .val (.int (own_to p4)), .val (.ref b14), .unset] [(.int (6 : Int32)), (.long p2), (.int p1), (.int (6 : Int32)), (.ref b14)])) (fun _ kst => XS.bipush X26.here hx rfl (hb hby at_91) kst) ?_
  obtain ⟨T27, X27, e27, st27⟩ := own_callSP X26 hx hZ (y := (⟨"com/example/verdict_across_domains/command/RequestHeadEndPinLaw", "pick", "(IJI)B"⟩ : MethodName)) hown (hw _ (List.mem_of_getElem? (i := 2) rfl)) (hw _ (List.mem_of_getElem? (i := 3) rfl)) (hw _ (List.mem_of_getElem? (i := 5) rfl)) (hw _ (List.mem_of_getElem? (i := 4) rfl)) (by decide) e26 (W := 2) (own_rm_pick l Z a0 hw p1 p2 (6 : Int32) h26 ) (by decide) (by decide) (g := (mkF m 93 #[.val (.int p1), .val (.long p2), .second, .val (.int p3), .val (.int p4), .val (.int (own_from p3)), .val (.int (own_to p4)), .val (.ref b14), .unset] [(.int (6 : Int32)), (.long p2), (.int p1), (.int (6 : Int32)), (.ref b14)])) rfl (by rw [hml]; rfl) (argsL := [(.int p1), (.long p2), (.int (6 : Int32))]) (rest := [(.int (6 : Int32)), (.ref b14)]) (lenOf own_pd0 rfl) rfl (by show 2 * 0 + _ ≤ _; exact Nat.le_of_eq rfl) (hb hby at_93) (by decide) (by decide)
  refine oS (u' := T27.setTop (mkF m 96 #[.val (.int p1), .val (.long p2), .second, .val (.int p3), .val (.int p4), .val (.int (own_from p3)), .val (.int (own_to p4)), .val (.ref b14), .unset] [(.int (own_pick p1 p2 (6 : Int32))), (.int (6 : Int32)), (.ref b14)])) st27 ?_
  obtain ⟨T28, h28, X28, e28, W28, st28⟩ := own_stB X27 hx hZ e27 f26_A_b14 (k := 6) (by decide) (by decide) (g := (mkF m 96 #[.val (.int p1), .val (.long p2), .second, .val (.int p3), .val (.int p4), .val (.int (own_from p3)), .val (.int (own_to p4)), .val (.ref b14), .unset] [(.int (own_pick p1 p2 (6 : Int32))), (.int (6 : Int32)), (.ref b14)])) rfl rfl (hb hby at_96)
  have f28_A_b14 := f26_A_b14.set W28 (by decide)
  have Z28 := Nat.le_trans Z26 (Keep.of_wr W28).1
  have N28 := Fr.snoc X28 N26 gb_b14
  refine oS (u' := T28.setTop (mkF m 97 #[.val (.int p1), .val (.long p2), .second, .val (.int p3), .val (.int p4), .val (.int (own_from p3)), .val (.int (own_to p4)), .val (.ref b14), .unset] [])) st28 ?_
  refine oS (u' := T28.setTop (mkF m 99 #[.val (.int p1), .val (.long p2), .second, .val (.int p3), .val (.int p4), .val (.int (own_from p3)), .val (.int (own_to p4)), .val (.ref b14), .unset] [(.ref b14)])) (fun _ kst => XS.aload X28.here hx rfl (hb hby at_97) rfl rfl kst) ?_
  refine oS (u' := T28.setTop (mkF m 101 #[.val (.int p1), .val (.long p2), .second, .val (.int p3), .val (.int p4), .val (.int (own_from p3)), .val (.int (own_to p4)), .val (.ref b14), .unset] [(.int (7 : Int32)), (.ref b14)])) (fun _ kst => XS.bipush X28.here hx rfl (hb hby at_99) kst) ?_
  refine oS (u' := T28.setTop (mkF m 102 #[.val (.int p1), .val (.long p2), .second, .val (.int p3), .val (.int p4), .val (.int (own_from p3)), .val (.int (own_to p4)), .val (.ref b14), .unset] [(.int p1), (.int (7 : Int32)), (.ref b14)])) (fun _ kst => XS.iloadN X28.here hx rfl (hb hby at_101) rfl kst) ?_
  refine oS (u' := T28.setTop (mkF m 103 #[.val (.int p1), .val (.long p2), .second, .val (.int p3), .val (.int p4), .val (.int (own_from p3)), .val (.int (own_to p4)), .val (.ref b14), .unset] [(.long p2), (.int p1), (.int (7 : Int32)), (.ref b14)])) (fun _ kst => XS.lloadN X28.here hx rfl (hb hby at_102) rfl kst) ?_
  refine oS (u' := T28.setTop (mkF m 105 #[.val (.int p1), .val (.long p2), .second, .val (.int p3), .val (.int p4), .val (.int (own_from p3)), .val (.int (own_to p4)), .val (.ref b14), .unset] [(.int (7 : Int32)), (.long p2), (.int p1), (.int (7 : Int32)), (.ref b14)])) (fun _ kst => XS.bipush X28.here hx rfl (hb hby at_103) kst) ?_
  obtain ⟨T29, X29, e29, st29⟩ := own_callSP X28 hx hZ (y := (⟨"com/example/verdict_across_domains/command/RequestHeadEndPinLaw", "pick", "(IJI)B"⟩ : MethodName)) hown (hw _ (List.mem_of_getElem? (i := 2) rfl)) (hw _ (List.mem_of_getElem? (i := 3) rfl)) (hw _ (List.mem_of_getElem? (i := 5) rfl)) (hw _ (List.mem_of_getElem? (i := 4) rfl)) (by decide) e28 (W := 2) (own_rm_pick l Z a0 hw p1 p2 (7 : Int32) h28 ) (by decide) (by decide) (g := (mkF m 105 #[.val (.int p1), .val (.long p2), .second, .val (.int p3), .val (.int p4), .val (.int (own_from p3)), .val (.int (own_to p4)), .val (.ref b14), .unset] [(.int (7 : Int32)), (.long p2), (.int p1), (.int (7 : Int32)), (.ref b14)])) rfl (by rw [hml]; rfl) (argsL := [(.int p1), (.long p2), (.int (7 : Int32))]) (rest := [(.int (7 : Int32)), (.ref b14)]) (lenOf own_pd0 rfl) rfl (by show 2 * 0 + _ ≤ _; exact Nat.le_of_eq rfl) (hb hby at_105) (by decide) (by decide)
  refine oS (u' := T29.setTop (mkF m 108 #[.val (.int p1), .val (.long p2), .second, .val (.int p3), .val (.int p4), .val (.int (own_from p3)), .val (.int (own_to p4)), .val (.ref b14), .unset] [(.int (own_pick p1 p2 (7 : Int32))), (.int (7 : Int32)), (.ref b14)])) st29 ?_
  obtain ⟨T30, h30, X30, e30, W30, st30⟩ := own_stB X29 hx hZ e29 f28_A_b14 (k := 7) (by decide) (by decide) (g := (mkF m 108 #[.val (.int p1), .val (.long p2), .second, .val (.int p3), .val (.int p4), .val (.int (own_from p3)), .val (.int (own_to p4)), .val (.ref b14), .unset] [(.int (own_pick p1 p2 (7 : Int32))), (.int (7 : Int32)), (.ref b14)])) rfl rfl (hb hby at_108)
  have f30_A_b14 := f28_A_b14.set W30 (by decide)
  have Z30 := Nat.le_trans Z28 (Keep.of_wr W30).1
  have N30 := Fr.snoc X30 N28 gb_b14
  refine oS (u' := T30.setTop (mkF m 109 #[.val (.int p1), .val (.long p2), .second, .val (.int p3), .val (.int p4), .val (.int (own_from p3)), .val (.int (own_to p4)), .val (.ref b14), .unset] [])) st30 ?_
  have V31 : own_Ar Z h30 b14 .byte 8 (fun i => .int (own_b p1 p2 i)) := (f30_A_b14).congr (own_filled p1 p2)
  refine oS (u' := T30.setTop (mkF m 111 #[.val (.int p1), .val (.long p2), .second, .val (.int p3), .val (.int p4), .val (.int (own_from p3)), .val (.int (own_to p4)), .val (.ref b14), .unset] [(.ref b14)])) (fun _ kst => XS.aload X30.here hx rfl (hb hby at_109) rfl rfl kst) ?_
  refine oS (u' := T30.setTop (mkF m 112 #[.val (.int p1), .val (.long p2), .second, .val (.int p3), .val (.int p4), .val (.int (own_from p3)), .val (.int (own_to p4)), .val (.ref b14), .unset] [(.int (0 : Int32)), (.ref b14)])) (fun _ kst => XS.iconst X30.here hx rfl (hb hby at_111) kst) ?_
  refine oS (u' := T30.setTop (mkF m 114 #[.val (.int p1), .val (.long p2), .second, .val (.int p3), .val (.int p4), .val (.int (own_from p3)), .val (.int (own_to p4)), .val (.ref b14), .unset] [(.int (own_from p3)), (.int (0 : Int32)), (.ref b14)])) (fun _ kst => XS.iload X30.here hx rfl (hb hby at_112) rfl kst) ?_
  refine oS (u' := T30.setTop (mkF m 116 #[.val (.int p1), .val (.long p2), .second, .val (.int p3), .val (.int p4), .val (.int (own_from p3)), .val (.int (own_to p4)), .val (.ref b14), .unset] [(.int (own_to p4)), (.int (own_from p3)), (.int (0 : Int32)), (.ref b14)])) (fun _ kst => XS.iload X30.here hx rfl (hb hby at_114) rfl kst) ?_
  obtain ⟨T32, X32, e32, st32⟩ := own_callSP X30 hx hZ (y := (⟨"com/example/verdict_across_domains/command/RequestHeadEndPinLaw", "m", "([BIII)Z"⟩ : MethodName)) hown (hw _ (List.mem_of_getElem? (i := 6) rfl)) (hw _ (List.mem_of_getElem? (i := 7) rfl)) (hw _ (List.mem_of_getElem? (i := 8) rfl)) (hw _ (List.mem_of_getElem? (i := 4) rfl)) (by decide) e30 (W := 0) (own_rm_m l Z a0 hw b14 (0 : Int32) (own_from p3) (own_to p4) (own_b p1 p2) 0 h30 V31 (by decide) (by decide)) (by decide) (by decide) (g := (mkF m 116 #[.val (.int p1), .val (.long p2), .second, .val (.int p3), .val (.int p4), .val (.int (own_from p3)), .val (.int (own_to p4)), .val (.ref b14), .unset] [(.int (own_to p4)), (.int (own_from p3)), (.int (0 : Int32)), (.ref b14)])) rfl (by rw [hml]; rfl) (argsL := [(.ref b14), (.int (0 : Int32)), (.int (own_from p3)), (.int (own_to p4))]) (rest := []) (lenOf own_pd1 rfl) rfl (by show 2 * 0 + _ ≤ _; exact Nat.le_of_eq rfl) (hb hby at_116) (by decide) (by decide)
  refine oS (u' := T32.setTop (mkF m 119 #[.val (.int p1), .val (.long p2), .second, .val (.int p3), .val (.int p4), .val (.int (own_from p3)), .val (.int (own_to p4)), .val (.ref b14), .unset] [(.int (own_m b14 (0 : Int32) (own_from p3) (own_to p4) (own_b p1 p2) 0))])) st32 ?_
  by_cases hc33 : (own_m b14 (0 : Int32) (own_from p3) (own_to p4) (own_b p1 p2) 0) = (0 : Int32)
  · refine oS (u' := T32.setTop (mkF m 128 #[.val (.int p1), .val (.long p2), .second, .val (.int p3), .val (.int p4), .val (.int (own_from p3)), .val (.int (own_to p4)), .val (.ref b14), .unset] [])) (fun _ kst => XS.ifYes X32.here hx rfl (pc0 := 119) (pc' := 128) rfl (hb hby at_119) rfl ((if0 _ _).trans (teq hc33).1) (by decide) (by decide) kst) ?_
    refine oS (u' := T32.setTop (mkF m 130 #[.val (.int p1), .val (.long p2), .second, .val (.int p3), .val (.int p4), .val (.int (own_from p3)), .val (.int (own_to p4)), .val (.ref b14), .unset] [(.ref b14)])) (fun _ kst => XS.aload X32.here hx rfl (hb hby at_128) rfl rfl kst) ?_
    refine oS (u' := T32.setTop (mkF m 131 #[.val (.int p1), .val (.long p2), .second, .val (.int p3), .val (.int p4), .val (.int (own_from p3)), .val (.int (own_to p4)), .val (.ref b14), .unset] [(.int (1 : Int32)), (.ref b14)])) (fun _ kst => XS.iconst X32.here hx rfl (hb hby at_130) kst) ?_
    refine oS (u' := T32.setTop (mkF m 133 #[.val (.int p1), .val (.long p2), .second, .val (.int p3), .val (.int p4), .val (.int (own_from p3)), .val (.int (own_to p4)), .val (.ref b14), .unset] [(.int (own_from p3)), (.int (1 : Int32)), (.ref b14)])) (fun _ kst => XS.iload X32.here hx rfl (hb hby at_131) rfl kst) ?_
    refine oS (u' := T32.setTop (mkF m 135 #[.val (.int p1), .val (.long p2), .second, .val (.int p3), .val (.int p4), .val (.int (own_from p3)), .val (.int (own_to p4)), .val (.ref b14), .unset] [(.int (own_to p4)), (.int (own_from p3)), (.int (1 : Int32)), (.ref b14)])) (fun _ kst => XS.iload X32.here hx rfl (hb hby at_133) rfl kst) ?_
    obtain ⟨T34, X34, e34, st34⟩ := own_callSP X32 hx hZ (y := (⟨"com/example/verdict_across_domains/command/RequestHeadEndPinLaw", "m", "([BIII)Z"⟩ : MethodName)) hown (hw _ (List.mem_of_getElem? (i := 6) rfl)) (hw _ (List.mem_of_getElem? (i := 7) rfl)) (hw _ (List.mem_of_getElem? (i := 8) rfl)) (hw _ (List.mem_of_getElem? (i := 4) rfl)) (by decide) e32 (W := 0) (own_rm_m l Z a0 hw b14 (1 : Int32) (own_from p3) (own_to p4) (own_b p1 p2) 1 h30 V31 (by decide) (by decide)) (by decide) (by decide) (g := (mkF m 135 #[.val (.int p1), .val (.long p2), .second, .val (.int p3), .val (.int p4), .val (.int (own_from p3)), .val (.int (own_to p4)), .val (.ref b14), .unset] [(.int (own_to p4)), (.int (own_from p3)), (.int (1 : Int32)), (.ref b14)])) rfl (by rw [hml]; rfl) (argsL := [(.ref b14), (.int (1 : Int32)), (.int (own_from p3)), (.int (own_to p4))]) (rest := []) (lenOf own_pd1 rfl) rfl (by show 2 * 0 + _ ≤ _; exact Nat.le_of_eq rfl) (hb hby at_135) (by decide) (by decide)
    refine oS (u' := T34.setTop (mkF m 138 #[.val (.int p1), .val (.long p2), .second, .val (.int p3), .val (.int p4), .val (.int (own_from p3)), .val (.int (own_to p4)), .val (.ref b14), .unset] [(.int (own_m b14 (1 : Int32) (own_from p3) (own_to p4) (own_b p1 p2) 1))])) st34 ?_
    by_cases hc35 : (own_m b14 (1 : Int32) (own_from p3) (own_to p4) (own_b p1 p2) 1) = (0 : Int32)
    · refine oS (u' := T34.setTop (mkF m 147 #[.val (.int p1), .val (.long p2), .second, .val (.int p3), .val (.int p4), .val (.int (own_from p3)), .val (.int (own_to p4)), .val (.ref b14), .unset] [])) (fun _ kst => XS.ifYes X34.here hx rfl (pc0 := 138) (pc' := 147) rfl (hb hby at_138) rfl ((if0 _ _).trans (teq hc35).1) (by decide) (by decide) kst) ?_
      refine oS (u' := T34.setTop (mkF m 149 #[.val (.int p1), .val (.long p2), .second, .val (.int p3), .val (.int p4), .val (.int (own_from p3)), .val (.int (own_to p4)), .val (.ref b14), .unset] [(.ref b14)])) (fun _ kst => XS.aload X34.here hx rfl (hb hby at_147) rfl rfl kst) ?_
      refine oS (u' := T34.setTop (mkF m 150 #[.val (.int p1), .val (.long p2), .second, .val (.int p3), .val (.int p4), .val (.int (own_from p3)), .val (.int (own_to p4)), .val (.ref b14), .unset] [(.int (2 : Int32)), (.ref b14)])) (fun _ kst => XS.iconst X34.here hx rfl (hb hby at_149) kst) ?_
      refine oS (u' := T34.setTop (mkF m 152 #[.val (.int p1), .val (.long p2), .second, .val (.int p3), .val (.int p4), .val (.int (own_from p3)), .val (.int (own_to p4)), .val (.ref b14), .unset] [(.int (own_from p3)), (.int (2 : Int32)), (.ref b14)])) (fun _ kst => XS.iload X34.here hx rfl (hb hby at_150) rfl kst) ?_
      refine oS (u' := T34.setTop (mkF m 154 #[.val (.int p1), .val (.long p2), .second, .val (.int p3), .val (.int p4), .val (.int (own_from p3)), .val (.int (own_to p4)), .val (.ref b14), .unset] [(.int (own_to p4)), (.int (own_from p3)), (.int (2 : Int32)), (.ref b14)])) (fun _ kst => XS.iload X34.here hx rfl (hb hby at_152) rfl kst) ?_
      obtain ⟨T36, X36, e36, st36⟩ := own_callSP X34 hx hZ (y := (⟨"com/example/verdict_across_domains/command/RequestHeadEndPinLaw", "m", "([BIII)Z"⟩ : MethodName)) hown (hw _ (List.mem_of_getElem? (i := 6) rfl)) (hw _ (List.mem_of_getElem? (i := 7) rfl)) (hw _ (List.mem_of_getElem? (i := 8) rfl)) (hw _ (List.mem_of_getElem? (i := 4) rfl)) (by decide) e34 (W := 0) (own_rm_m l Z a0 hw b14 (2 : Int32) (own_from p3) (own_to p4) (own_b p1 p2) 2 h30 V31 (by decide) (by decide)) (by decide) (by decide) (g := (mkF m 154 #[.val (.int p1), .val (.long p2), .second, .val (.int p3), .val (.int p4), .val (.int (own_from p3)), .val (.int (own_to p4)), .val (.ref b14), .unset] [(.int (own_to p4)), (.int (own_from p3)), (.int (2 : Int32)), (.ref b14)])) rfl (by rw [hml]; rfl) (argsL := [(.ref b14), (.int (2 : Int32)), (.int (own_from p3)), (.int (own_to p4))]) (rest := []) (lenOf own_pd1 rfl) rfl (by show 2 * 0 + _ ≤ _; exact Nat.le_of_eq rfl) (hb hby at_154) (by decide) (by decide)
      refine oS (u' := T36.setTop (mkF m 157 #[.val (.int p1), .val (.long p2), .second, .val (.int p3), .val (.int p4), .val (.int (own_from p3)), .val (.int (own_to p4)), .val (.ref b14), .unset] [(.int (own_m b14 (2 : Int32) (own_from p3) (own_to p4) (own_b p1 p2) 2))])) st36 ?_
      by_cases hc37 : (own_m b14 (2 : Int32) (own_from p3) (own_to p4) (own_b p1 p2) 2) = (0 : Int32)
      · refine oS (u' := T36.setTop (mkF m 167 #[.val (.int p1), .val (.long p2), .second, .val (.int p3), .val (.int p4), .val (.int (own_from p3)), .val (.int (own_to p4)), .val (.ref b14), .unset] [])) (fun _ kst => XS.ifYes X36.here hx rfl (pc0 := 157) (pc' := 167) rfl (hb hby at_157) rfl ((if0 _ _).trans (teq hc37).1) (by decide) (by decide) kst) ?_
        refine oS (u' := T36.setTop (mkF m 169 #[.val (.int p1), .val (.long p2), .second, .val (.int p3), .val (.int p4), .val (.int (own_from p3)), .val (.int (own_to p4)), .val (.ref b14), .unset] [(.ref b14)])) (fun _ kst => XS.aload X36.here hx rfl (hb hby at_167) rfl rfl kst) ?_
        refine oS (u' := T36.setTop (mkF m 170 #[.val (.int p1), .val (.long p2), .second, .val (.int p3), .val (.int p4), .val (.int (own_from p3)), .val (.int (own_to p4)), .val (.ref b14), .unset] [(.int (3 : Int32)), (.ref b14)])) (fun _ kst => XS.iconst X36.here hx rfl (hb hby at_169) kst) ?_
        refine oS (u' := T36.setTop (mkF m 172 #[.val (.int p1), .val (.long p2), .second, .val (.int p3), .val (.int p4), .val (.int (own_from p3)), .val (.int (own_to p4)), .val (.ref b14), .unset] [(.int (own_from p3)), (.int (3 : Int32)), (.ref b14)])) (fun _ kst => XS.iload X36.here hx rfl (hb hby at_170) rfl kst) ?_
        refine oS (u' := T36.setTop (mkF m 174 #[.val (.int p1), .val (.long p2), .second, .val (.int p3), .val (.int p4), .val (.int (own_from p3)), .val (.int (own_to p4)), .val (.ref b14), .unset] [(.int (own_to p4)), (.int (own_from p3)), (.int (3 : Int32)), (.ref b14)])) (fun _ kst => XS.iload X36.here hx rfl (hb hby at_172) rfl kst) ?_
        obtain ⟨T38, X38, e38, st38⟩ := own_callSP X36 hx hZ (y := (⟨"com/example/verdict_across_domains/command/RequestHeadEndPinLaw", "m", "([BIII)Z"⟩ : MethodName)) hown (hw _ (List.mem_of_getElem? (i := 6) rfl)) (hw _ (List.mem_of_getElem? (i := 7) rfl)) (hw _ (List.mem_of_getElem? (i := 8) rfl)) (hw _ (List.mem_of_getElem? (i := 4) rfl)) (by decide) e36 (W := 0) (own_rm_m l Z a0 hw b14 (3 : Int32) (own_from p3) (own_to p4) (own_b p1 p2) 3 h30 V31 (by decide) (by decide)) (by decide) (by decide) (g := (mkF m 174 #[.val (.int p1), .val (.long p2), .second, .val (.int p3), .val (.int p4), .val (.int (own_from p3)), .val (.int (own_to p4)), .val (.ref b14), .unset] [(.int (own_to p4)), (.int (own_from p3)), (.int (3 : Int32)), (.ref b14)])) rfl (by rw [hml]; rfl) (argsL := [(.ref b14), (.int (3 : Int32)), (.int (own_from p3)), (.int (own_to p4))]) (rest := []) (lenOf own_pd1 rfl) rfl (by show 2 * 0 + _ ≤ _; exact Nat.le_of_eq rfl) (hb hby at_174) (by decide) (by decide)
        refine oS (u' := T38.setTop (mkF m 177 #[.val (.int p1), .val (.long p2), .second, .val (.int p3), .val (.int p4), .val (.int (own_from p3)), .val (.int (own_to p4)), .val (.ref b14), .unset] [(.int (own_m b14 (3 : Int32) (own_from p3) (own_to p4) (own_b p1 p2) 3))])) st38 ?_
        by_cases hc39 : (own_m b14 (3 : Int32) (own_from p3) (own_to p4) (own_b p1 p2) 3) = (0 : Int32)
        · refine oS (u' := T38.setTop (mkF m 187 #[.val (.int p1), .val (.long p2), .second, .val (.int p3), .val (.int p4), .val (.int (own_from p3)), .val (.int (own_to p4)), .val (.ref b14), .unset] [])) (fun _ kst => XS.ifYes X38.here hx rfl (pc0 := 177) (pc' := 187) rfl (hb hby at_177) rfl ((if0 _ _).trans (teq hc39).1) (by decide) (by decide) kst) ?_
          refine oS (u' := T38.setTop (mkF m 189 #[.val (.int p1), .val (.long p2), .second, .val (.int p3), .val (.int p4), .val (.int (own_from p3)), .val (.int (own_to p4)), .val (.ref b14), .unset] [(.ref b14)])) (fun _ kst => XS.aload X38.here hx rfl (hb hby at_187) rfl rfl kst) ?_
          refine oS (u' := T38.setTop (mkF m 190 #[.val (.int p1), .val (.long p2), .second, .val (.int p3), .val (.int p4), .val (.int (own_from p3)), .val (.int (own_to p4)), .val (.ref b14), .unset] [(.int (4 : Int32)), (.ref b14)])) (fun _ kst => XS.iconst X38.here hx rfl (hb hby at_189) kst) ?_
          refine oS (u' := T38.setTop (mkF m 192 #[.val (.int p1), .val (.long p2), .second, .val (.int p3), .val (.int p4), .val (.int (own_from p3)), .val (.int (own_to p4)), .val (.ref b14), .unset] [(.int (own_from p3)), (.int (4 : Int32)), (.ref b14)])) (fun _ kst => XS.iload X38.here hx rfl (hb hby at_190) rfl kst) ?_
          refine oS (u' := T38.setTop (mkF m 194 #[.val (.int p1), .val (.long p2), .second, .val (.int p3), .val (.int p4), .val (.int (own_from p3)), .val (.int (own_to p4)), .val (.ref b14), .unset] [(.int (own_to p4)), (.int (own_from p3)), (.int (4 : Int32)), (.ref b14)])) (fun _ kst => XS.iload X38.here hx rfl (hb hby at_192) rfl kst) ?_
          obtain ⟨T40, X40, e40, st40⟩ := own_callSP X38 hx hZ (y := (⟨"com/example/verdict_across_domains/command/RequestHeadEndPinLaw", "m", "([BIII)Z"⟩ : MethodName)) hown (hw _ (List.mem_of_getElem? (i := 6) rfl)) (hw _ (List.mem_of_getElem? (i := 7) rfl)) (hw _ (List.mem_of_getElem? (i := 8) rfl)) (hw _ (List.mem_of_getElem? (i := 4) rfl)) (by decide) e38 (W := 0) (own_rm_m l Z a0 hw b14 (4 : Int32) (own_from p3) (own_to p4) (own_b p1 p2) 4 h30 V31 (by decide) (by decide)) (by decide) (by decide) (g := (mkF m 194 #[.val (.int p1), .val (.long p2), .second, .val (.int p3), .val (.int p4), .val (.int (own_from p3)), .val (.int (own_to p4)), .val (.ref b14), .unset] [(.int (own_to p4)), (.int (own_from p3)), (.int (4 : Int32)), (.ref b14)])) rfl (by rw [hml]; rfl) (argsL := [(.ref b14), (.int (4 : Int32)), (.int (own_from p3)), (.int (own_to p4))]) (rest := []) (lenOf own_pd1 rfl) rfl (by show 2 * 0 + _ ≤ _; exact Nat.le_of_eq rfl) (hb hby at_194) (by decide) (by decide)
          refine oS (u' := T40.setTop (mkF m 197 #[.val (.int p1), .val (.long p2), .second, .val (.int p3), .val (.int p4), .val (.int (own_from p3)), .val (.int (own_to p4)), .val (.ref b14), .unset] [(.int (own_m b14 (4 : Int32) (own_from p3) (own_to p4) (own_b p1 p2) 4))])) st40 ?_
          by_cases hc41 : (own_m b14 (4 : Int32) (own_from p3) (own_to p4) (own_b p1 p2) 4) = (0 : Int32)
          · refine oS (u' := T40.setTop (mkF m 207 #[.val (.int p1), .val (.long p2), .second, .val (.int p3), .val (.int p4), .val (.int (own_from p3)), .val (.int (own_to p4)), .val (.ref b14), .unset] [])) (fun _ kst => XS.ifYes X40.here hx rfl (pc0 := 197) (pc' := 207) rfl (hb hby at_197) rfl ((if0 _ _).trans (teq hc41).1) (by decide) (by decide) kst) ?_
            refine oS (u' := T40.setTop (mkF m 208 #[.val (.int p1), .val (.long p2), .second, .val (.int p3), .val (.int p4), .val (.int (own_from p3)), .val (.int (own_to p4)), .val (.ref b14), .unset] [(.int (-1 : Int32))])) (fun _ kst => XS.iconst X40.here hx rfl (hb hby at_207) kst) ?_
            refine oS (u' := T40.setTop (mkF m 210 #[.val (.int p1), .val (.long p2), .second, .val (.int p3), .val (.int p4), .val (.int (own_from p3)), .val (.int (own_to p4)), .val (.ref b14), .val (.int (-1 : Int32))] [])) (fun _ kst => XS.istore X40.here hx rfl (hb hby at_208) rfl (l' := #[.val (.int p1), .val (.long p2), .second, .val (.int p3), .val (.int p4), .val (.int (own_from p3)), .val (.int (own_to p4)), .val (.ref b14), .val (.int (-1 : Int32))]) rfl kst) ?_
            refine oS (u' := T40.setTop (mkF m 212 #[.val (.int p1), .val (.long p2), .second, .val (.int p3), .val (.int p4), .val (.int (own_from p3)), .val (.int (own_to p4)), .val (.ref b14), .val (.int (-1 : Int32))] [(.ref b14)])) (fun _ kst => XS.aload X40.here hx rfl (hb hby at_210) rfl rfl kst) ?_
            refine oS (u' := T40.setTop (mkF m 214 #[.val (.int p1), .val (.long p2), .second, .val (.int p3), .val (.int p4), .val (.int (own_from p3)), .val (.int (own_to p4)), .val (.ref b14), .val (.int (-1 : Int32))] [(.int (own_from p3)), (.ref b14)])) (fun _ kst => XS.iload X40.here hx rfl (hb hby at_212) rfl kst) ?_
            refine oS (u' := T40.setTop (mkF m 216 #[.val (.int p1), .val (.long p2), .second, .val (.int p3), .val (.int p4), .val (.int (own_from p3)), .val (.int (own_to p4)), .val (.ref b14), .val (.int (-1 : Int32))] [(.int (own_to p4)), (.int (own_from p3)), (.ref b14)])) (fun _ kst => XS.iload X40.here hx rfl (hb hby at_214) rfl kst) ?_
            obtain ⟨T42, X42, e42, st42⟩ := own_callSP X40 hx hZ (y := (⟨"com/example/verdict_across_domains/command/RequestHead", "end", "([BII)I"⟩ : MethodName)) hown (hw _ (List.mem_of_getElem? (i := 9) rfl)) (hw _ (List.mem_of_getElem? (i := 10) rfl)) (hw _ (List.mem_of_getElem? (i := 12) rfl)) (hw _ (List.mem_of_getElem? (i := 11) rfl)) (by decide) e40 (W := 0) (own_rm_end l Z a0 hw b14 (own_from p3) (own_to p4) (own_b p1 p2) (own_from p3).toInt.toNat (own_to p4).toInt.toNat h30 V31 (own_from_nat p3).1 (own_from_nat p3).2 (own_to_nat p4).1 (own_to_nat p4).2) (by decide) (by decide) (g := (mkF m 216 #[.val (.int p1), .val (.long p2), .second, .val (.int p3), .val (.int p4), .val (.int (own_from p3)), .val (.int (own_to p4)), .val (.ref b14), .val (.int (-1 : Int32))] [(.int (own_to p4)), (.int (own_from p3)), (.ref b14)])) rfl (by rw [hml]; rfl) (argsL := [(.ref b14), (.int (own_from p3)), (.int (own_to p4))]) (rest := []) (lenOf own_pd2 rfl) rfl (by show 2 * 0 + _ ≤ _; exact Nat.le_of_eq rfl) (hb hby at_216) (by decide) (by decide)
            refine oS (u' := T42.setTop (mkF m 219 #[.val (.int p1), .val (.long p2), .second, .val (.int p3), .val (.int p4), .val (.int (own_from p3)), .val (.int (own_to p4)), .val (.ref b14), .val (.int (-1 : Int32))] [(.int (own_scan (own_b p1 p2) (own_to p4).toInt.toNat 9 (own_from p3).toInt.toNat))])) st42 ?_
            refine oS (u' := T42.setTop (mkF m 221 #[.val (.int p1), .val (.long p2), .second, .val (.int p3), .val (.int p4), .val (.int (own_from p3)), .val (.int (own_to p4)), .val (.ref b14), .val (.int (-1 : Int32))] [(.int (-1 : Int32)), (.int (own_scan (own_b p1 p2) (own_to p4).toInt.toNat 9 (own_from p3).toInt.toNat))])) (fun _ kst => XS.iload X42.here hx rfl (hb hby at_219) rfl kst) ?_
            refine oS (u' := T42.setTop (mkF m 224 #[.val (.int p1), .val (.long p2), .second, .val (.int p3), .val (.int p4), .val (.int (own_from p3)), .val (.int (own_to p4)), .val (.ref b14), .val (.int (-1 : Int32))] [])) (fun _ kst => XS.icmpNo X42.here hx rfl (hb hby at_221) rfl (teq (own_none b14 p1 p2 p3 p4 hc33 hc35 hc37 hc39 hc41)).2 kst) ?_
            refine oS (u' := T42.setTop (mkF m 225 #[.val (.int p1), .val (.long p2), .second, .val (.int p3), .val (.int p4), .val (.int (own_from p3)), .val (.int (own_to p4)), .val (.ref b14), .val (.int (-1 : Int32))] [(.int (1 : Int32))])) (fun _ kst => XS.iconst X42.here hx rfl (hb hby at_224) kst) ?_
            refine oS (u' := T42.setTop (mkF m 229 #[.val (.int p1), .val (.long p2), .second, .val (.int p3), .val (.int p4), .val (.int (own_from p3)), .val (.int (own_to p4)), .val (.ref b14), .val (.int (-1 : Int32))] [(.int (1 : Int32))])) (fun _ kst => XS.goto X42.here hx rfl (pc0 := 225) (pc' := 229) rfl (hb hby at_225) (by decide) (by decide) kst) ?_
            refine own_retN X42 hx hlk (t := .boolean) hret (by simp) (hb hby at_229) ?_ (by decide) (by decide)
            exact ⟨rfl, N30⟩
          · refine oS (u' := T40.setTop (mkF m 200 #[.val (.int p1), .val (.long p2), .second, .val (.int p3), .val (.int p4), .val (.int (own_from p3)), .val (.int (own_to p4)), .val (.ref b14), .unset] [])) (fun _ kst => XS.ifNo X40.here hx rfl (hb hby at_197) rfl ((if0 _ _).trans (feq hc41).1) kst) ?_
            refine oS (u' := T40.setTop (mkF m 202 #[.val (.int p1), .val (.long p2), .second, .val (.int p3), .val (.int p4), .val (.int (own_from p3)), .val (.int (own_to p4)), .val (.ref b14), .unset] [(.int (8 : Int32))])) (fun _ kst => XS.bipush X40.here hx rfl (hb hby at_200) kst) ?_
            refine oS (u' := T40.setTop (mkF m 204 #[.val (.int p1), .val (.long p2), .second, .val (.int p3), .val (.int p4), .val (.int (own_from p3)), .val (.int (own_to p4)), .val (.ref b14), .val (.int (8 : Int32))] [])) (fun _ kst => XS.istore X40.here hx rfl (hb hby at_202) rfl (l' := #[.val (.int p1), .val (.long p2), .second, .val (.int p3), .val (.int p4), .val (.int (own_from p3)), .val (.int (own_to p4)), .val (.ref b14), .val (.int (8 : Int32))]) rfl kst) ?_
            refine oS (u' := T40.setTop (mkF m 210 #[.val (.int p1), .val (.long p2), .second, .val (.int p3), .val (.int p4), .val (.int (own_from p3)), .val (.int (own_to p4)), .val (.ref b14), .val (.int (8 : Int32))] [])) (fun _ kst => XS.goto X40.here hx rfl (pc0 := 204) (pc' := 210) rfl (hb hby at_204) (by decide) (by decide) kst) ?_
            refine oS (u' := T40.setTop (mkF m 212 #[.val (.int p1), .val (.long p2), .second, .val (.int p3), .val (.int p4), .val (.int (own_from p3)), .val (.int (own_to p4)), .val (.ref b14), .val (.int (8 : Int32))] [(.ref b14)])) (fun _ kst => XS.aload X40.here hx rfl (hb hby at_210) rfl rfl kst) ?_
            refine oS (u' := T40.setTop (mkF m 214 #[.val (.int p1), .val (.long p2), .second, .val (.int p3), .val (.int p4), .val (.int (own_from p3)), .val (.int (own_to p4)), .val (.ref b14), .val (.int (8 : Int32))] [(.int (own_from p3)), (.ref b14)])) (fun _ kst => XS.iload X40.here hx rfl (hb hby at_212) rfl kst) ?_
            refine oS (u' := T40.setTop (mkF m 216 #[.val (.int p1), .val (.long p2), .second, .val (.int p3), .val (.int p4), .val (.int (own_from p3)), .val (.int (own_to p4)), .val (.ref b14), .val (.int (8 : Int32))] [(.int (own_to p4)), (.int (own_from p3)), (.ref b14)])) (fun _ kst => XS.iload X40.here hx rfl (hb hby at_214) rfl kst) ?_
            obtain ⟨T43, X43, e43, st43⟩ := own_callSP X40 hx hZ (y := (⟨"com/example/verdict_across_domains/command/RequestHead", "end", "([BII)I"⟩ : MethodName)) hown (hw _ (List.mem_of_getElem? (i := 9) rfl)) (hw _ (List.mem_of_getElem? (i := 10) rfl)) (hw _ (List.mem_of_getElem? (i := 12) rfl)) (hw _ (List.mem_of_getElem? (i := 11) rfl)) (by decide) e40 (W := 0) (own_rm_end l Z a0 hw b14 (own_from p3) (own_to p4) (own_b p1 p2) (own_from p3).toInt.toNat (own_to p4).toInt.toNat h30 V31 (own_from_nat p3).1 (own_from_nat p3).2 (own_to_nat p4).1 (own_to_nat p4).2) (by decide) (by decide) (g := (mkF m 216 #[.val (.int p1), .val (.long p2), .second, .val (.int p3), .val (.int p4), .val (.int (own_from p3)), .val (.int (own_to p4)), .val (.ref b14), .val (.int (8 : Int32))] [(.int (own_to p4)), (.int (own_from p3)), (.ref b14)])) rfl (by rw [hml]; rfl) (argsL := [(.ref b14), (.int (own_from p3)), (.int (own_to p4))]) (rest := []) (lenOf own_pd2 rfl) rfl (by show 2 * 0 + _ ≤ _; exact Nat.le_of_eq rfl) (hb hby at_216) (by decide) (by decide)
            refine oS (u' := T43.setTop (mkF m 219 #[.val (.int p1), .val (.long p2), .second, .val (.int p3), .val (.int p4), .val (.int (own_from p3)), .val (.int (own_to p4)), .val (.ref b14), .val (.int (8 : Int32))] [(.int (own_scan (own_b p1 p2) (own_to p4).toInt.toNat 9 (own_from p3).toInt.toNat))])) st43 ?_
            refine oS (u' := T43.setTop (mkF m 221 #[.val (.int p1), .val (.long p2), .second, .val (.int p3), .val (.int p4), .val (.int (own_from p3)), .val (.int (own_to p4)), .val (.ref b14), .val (.int (8 : Int32))] [(.int (8 : Int32)), (.int (own_scan (own_b p1 p2) (own_to p4).toInt.toNat 9 (own_from p3).toInt.toNat))])) (fun _ kst => XS.iload X43.here hx rfl (hb hby at_219) rfl kst) ?_
            refine oS (u' := T43.setTop (mkF m 224 #[.val (.int p1), .val (.long p2), .second, .val (.int p3), .val (.int p4), .val (.int (own_from p3)), .val (.int (own_to p4)), .val (.ref b14), .val (.int (8 : Int32))] [])) (fun _ kst => XS.icmpNo X43.here hx rfl (hb hby at_221) rfl (teq (own_found4 b14 p1 p2 p3 p4 hc33 hc35 hc37 hc39 hc41)).2 kst) ?_
            refine oS (u' := T43.setTop (mkF m 225 #[.val (.int p1), .val (.long p2), .second, .val (.int p3), .val (.int p4), .val (.int (own_from p3)), .val (.int (own_to p4)), .val (.ref b14), .val (.int (8 : Int32))] [(.int (1 : Int32))])) (fun _ kst => XS.iconst X43.here hx rfl (hb hby at_224) kst) ?_
            refine oS (u' := T43.setTop (mkF m 229 #[.val (.int p1), .val (.long p2), .second, .val (.int p3), .val (.int p4), .val (.int (own_from p3)), .val (.int (own_to p4)), .val (.ref b14), .val (.int (8 : Int32))] [(.int (1 : Int32))])) (fun _ kst => XS.goto X43.here hx rfl (pc0 := 225) (pc' := 229) rfl (hb hby at_225) (by decide) (by decide) kst) ?_
            refine own_retN X43 hx hlk (t := .boolean) hret (by simp) (hb hby at_229) ?_ (by decide) (by decide)
            exact ⟨rfl, N30⟩
        · refine oS (u' := T38.setTop (mkF m 180 #[.val (.int p1), .val (.long p2), .second, .val (.int p3), .val (.int p4), .val (.int (own_from p3)), .val (.int (own_to p4)), .val (.ref b14), .unset] [])) (fun _ kst => XS.ifNo X38.here hx rfl (hb hby at_177) rfl ((if0 _ _).trans (feq hc39).1) kst) ?_
          refine oS (u' := T38.setTop (mkF m 182 #[.val (.int p1), .val (.long p2), .second, .val (.int p3), .val (.int p4), .val (.int (own_from p3)), .val (.int (own_to p4)), .val (.ref b14), .unset] [(.int (7 : Int32))])) (fun _ kst => XS.bipush X38.here hx rfl (hb hby at_180) kst) ?_
          refine oS (u' := T38.setTop (mkF m 184 #[.val (.int p1), .val (.long p2), .second, .val (.int p3), .val (.int p4), .val (.int (own_from p3)), .val (.int (own_to p4)), .val (.ref b14), .val (.int (7 : Int32))] [])) (fun _ kst => XS.istore X38.here hx rfl (hb hby at_182) rfl (l' := #[.val (.int p1), .val (.long p2), .second, .val (.int p3), .val (.int p4), .val (.int (own_from p3)), .val (.int (own_to p4)), .val (.ref b14), .val (.int (7 : Int32))]) rfl kst) ?_
          refine oS (u' := T38.setTop (mkF m 210 #[.val (.int p1), .val (.long p2), .second, .val (.int p3), .val (.int p4), .val (.int (own_from p3)), .val (.int (own_to p4)), .val (.ref b14), .val (.int (7 : Int32))] [])) (fun _ kst => XS.goto X38.here hx rfl (pc0 := 184) (pc' := 210) rfl (hb hby at_184) (by decide) (by decide) kst) ?_
          refine oS (u' := T38.setTop (mkF m 212 #[.val (.int p1), .val (.long p2), .second, .val (.int p3), .val (.int p4), .val (.int (own_from p3)), .val (.int (own_to p4)), .val (.ref b14), .val (.int (7 : Int32))] [(.ref b14)])) (fun _ kst => XS.aload X38.here hx rfl (hb hby at_210) rfl rfl kst) ?_
          refine oS (u' := T38.setTop (mkF m 214 #[.val (.int p1), .val (.long p2), .second, .val (.int p3), .val (.int p4), .val (.int (own_from p3)), .val (.int (own_to p4)), .val (.ref b14), .val (.int (7 : Int32))] [(.int (own_from p3)), (.ref b14)])) (fun _ kst => XS.iload X38.here hx rfl (hb hby at_212) rfl kst) ?_
          refine oS (u' := T38.setTop (mkF m 216 #[.val (.int p1), .val (.long p2), .second, .val (.int p3), .val (.int p4), .val (.int (own_from p3)), .val (.int (own_to p4)), .val (.ref b14), .val (.int (7 : Int32))] [(.int (own_to p4)), (.int (own_from p3)), (.ref b14)])) (fun _ kst => XS.iload X38.here hx rfl (hb hby at_214) rfl kst) ?_
          obtain ⟨T44, X44, e44, st44⟩ := own_callSP X38 hx hZ (y := (⟨"com/example/verdict_across_domains/command/RequestHead", "end", "([BII)I"⟩ : MethodName)) hown (hw _ (List.mem_of_getElem? (i := 9) rfl)) (hw _ (List.mem_of_getElem? (i := 10) rfl)) (hw _ (List.mem_of_getElem? (i := 12) rfl)) (hw _ (List.mem_of_getElem? (i := 11) rfl)) (by decide) e38 (W := 0) (own_rm_end l Z a0 hw b14 (own_from p3) (own_to p4) (own_b p1 p2) (own_from p3).toInt.toNat (own_to p4).toInt.toNat h30 V31 (own_from_nat p3).1 (own_from_nat p3).2 (own_to_nat p4).1 (own_to_nat p4).2) (by decide) (by decide) (g := (mkF m 216 #[.val (.int p1), .val (.long p2), .second, .val (.int p3), .val (.int p4), .val (.int (own_from p3)), .val (.int (own_to p4)), .val (.ref b14), .val (.int (7 : Int32))] [(.int (own_to p4)), (.int (own_from p3)), (.ref b14)])) rfl (by rw [hml]; rfl) (argsL := [(.ref b14), (.int (own_from p3)), (.int (own_to p4))]) (rest := []) (lenOf own_pd2 rfl) rfl (by show 2 * 0 + _ ≤ _; exact Nat.le_of_eq rfl) (hb hby at_216) (by decide) (by decide)
          refine oS (u' := T44.setTop (mkF m 219 #[.val (.int p1), .val (.long p2), .second, .val (.int p3), .val (.int p4), .val (.int (own_from p3)), .val (.int (own_to p4)), .val (.ref b14), .val (.int (7 : Int32))] [(.int (own_scan (own_b p1 p2) (own_to p4).toInt.toNat 9 (own_from p3).toInt.toNat))])) st44 ?_
          refine oS (u' := T44.setTop (mkF m 221 #[.val (.int p1), .val (.long p2), .second, .val (.int p3), .val (.int p4), .val (.int (own_from p3)), .val (.int (own_to p4)), .val (.ref b14), .val (.int (7 : Int32))] [(.int (7 : Int32)), (.int (own_scan (own_b p1 p2) (own_to p4).toInt.toNat 9 (own_from p3).toInt.toNat))])) (fun _ kst => XS.iload X44.here hx rfl (hb hby at_219) rfl kst) ?_
          refine oS (u' := T44.setTop (mkF m 224 #[.val (.int p1), .val (.long p2), .second, .val (.int p3), .val (.int p4), .val (.int (own_from p3)), .val (.int (own_to p4)), .val (.ref b14), .val (.int (7 : Int32))] [])) (fun _ kst => XS.icmpNo X44.here hx rfl (hb hby at_221) rfl (teq (own_found3 b14 p1 p2 p3 p4 hc33 hc35 hc37 hc39)).2 kst) ?_
          refine oS (u' := T44.setTop (mkF m 225 #[.val (.int p1), .val (.long p2), .second, .val (.int p3), .val (.int p4), .val (.int (own_from p3)), .val (.int (own_to p4)), .val (.ref b14), .val (.int (7 : Int32))] [(.int (1 : Int32))])) (fun _ kst => XS.iconst X44.here hx rfl (hb hby at_224) kst) ?_
          refine oS (u' := T44.setTop (mkF m 229 #[.val (.int p1), .val (.long p2), .second, .val (.int p3), .val (.int p4), .val (.int (own_from p3)), .val (.int (own_to p4)), .val (.ref b14), .val (.int (7 : Int32))] [(.int (1 : Int32))])) (fun _ kst => XS.goto X44.here hx rfl (pc0 := 225) (pc' := 229) rfl (hb hby at_225) (by decide) (by decide) kst) ?_
          refine own_retN X44 hx hlk (t := .boolean) hret (by simp) (hb hby at_229) ?_ (by decide) (by decide)
          exact ⟨rfl, N30⟩
      · refine oS (u' := T36.setTop (mkF m 160 #[.val (.int p1), .val (.long p2), .second, .val (.int p3), .val (.int p4), .val (.int (own_from p3)), .val (.int (own_to p4)), .val (.ref b14), .unset] [])) (fun _ kst => XS.ifNo X36.here hx rfl (hb hby at_157) rfl ((if0 _ _).trans (feq hc37).1) kst) ?_
        refine oS (u' := T36.setTop (mkF m 162 #[.val (.int p1), .val (.long p2), .second, .val (.int p3), .val (.int p4), .val (.int (own_from p3)), .val (.int (own_to p4)), .val (.ref b14), .unset] [(.int (6 : Int32))])) (fun _ kst => XS.bipush X36.here hx rfl (hb hby at_160) kst) ?_
        refine oS (u' := T36.setTop (mkF m 164 #[.val (.int p1), .val (.long p2), .second, .val (.int p3), .val (.int p4), .val (.int (own_from p3)), .val (.int (own_to p4)), .val (.ref b14), .val (.int (6 : Int32))] [])) (fun _ kst => XS.istore X36.here hx rfl (hb hby at_162) rfl (l' := #[.val (.int p1), .val (.long p2), .second, .val (.int p3), .val (.int p4), .val (.int (own_from p3)), .val (.int (own_to p4)), .val (.ref b14), .val (.int (6 : Int32))]) rfl kst) ?_
        refine oS (u' := T36.setTop (mkF m 210 #[.val (.int p1), .val (.long p2), .second, .val (.int p3), .val (.int p4), .val (.int (own_from p3)), .val (.int (own_to p4)), .val (.ref b14), .val (.int (6 : Int32))] [])) (fun _ kst => XS.goto X36.here hx rfl (pc0 := 164) (pc' := 210) rfl (hb hby at_164) (by decide) (by decide) kst) ?_
        refine oS (u' := T36.setTop (mkF m 212 #[.val (.int p1), .val (.long p2), .second, .val (.int p3), .val (.int p4), .val (.int (own_from p3)), .val (.int (own_to p4)), .val (.ref b14), .val (.int (6 : Int32))] [(.ref b14)])) (fun _ kst => XS.aload X36.here hx rfl (hb hby at_210) rfl rfl kst) ?_
        refine oS (u' := T36.setTop (mkF m 214 #[.val (.int p1), .val (.long p2), .second, .val (.int p3), .val (.int p4), .val (.int (own_from p3)), .val (.int (own_to p4)), .val (.ref b14), .val (.int (6 : Int32))] [(.int (own_from p3)), (.ref b14)])) (fun _ kst => XS.iload X36.here hx rfl (hb hby at_212) rfl kst) ?_
        refine oS (u' := T36.setTop (mkF m 216 #[.val (.int p1), .val (.long p2), .second, .val (.int p3), .val (.int p4), .val (.int (own_from p3)), .val (.int (own_to p4)), .val (.ref b14), .val (.int (6 : Int32))] [(.int (own_to p4)), (.int (own_from p3)), (.ref b14)])) (fun _ kst => XS.iload X36.here hx rfl (hb hby at_214) rfl kst) ?_
        obtain ⟨T45, X45, e45, st45⟩ := own_callSP X36 hx hZ (y := (⟨"com/example/verdict_across_domains/command/RequestHead", "end", "([BII)I"⟩ : MethodName)) hown (hw _ (List.mem_of_getElem? (i := 9) rfl)) (hw _ (List.mem_of_getElem? (i := 10) rfl)) (hw _ (List.mem_of_getElem? (i := 12) rfl)) (hw _ (List.mem_of_getElem? (i := 11) rfl)) (by decide) e36 (W := 0) (own_rm_end l Z a0 hw b14 (own_from p3) (own_to p4) (own_b p1 p2) (own_from p3).toInt.toNat (own_to p4).toInt.toNat h30 V31 (own_from_nat p3).1 (own_from_nat p3).2 (own_to_nat p4).1 (own_to_nat p4).2) (by decide) (by decide) (g := (mkF m 216 #[.val (.int p1), .val (.long p2), .second, .val (.int p3), .val (.int p4), .val (.int (own_from p3)), .val (.int (own_to p4)), .val (.ref b14), .val (.int (6 : Int32))] [(.int (own_to p4)), (.int (own_from p3)), (.ref b14)])) rfl (by rw [hml]; rfl) (argsL := [(.ref b14), (.int (own_from p3)), (.int (own_to p4))]) (rest := []) (lenOf own_pd2 rfl) rfl (by show 2 * 0 + _ ≤ _; exact Nat.le_of_eq rfl) (hb hby at_216) (by decide) (by decide)
        refine oS (u' := T45.setTop (mkF m 219 #[.val (.int p1), .val (.long p2), .second, .val (.int p3), .val (.int p4), .val (.int (own_from p3)), .val (.int (own_to p4)), .val (.ref b14), .val (.int (6 : Int32))] [(.int (own_scan (own_b p1 p2) (own_to p4).toInt.toNat 9 (own_from p3).toInt.toNat))])) st45 ?_
        refine oS (u' := T45.setTop (mkF m 221 #[.val (.int p1), .val (.long p2), .second, .val (.int p3), .val (.int p4), .val (.int (own_from p3)), .val (.int (own_to p4)), .val (.ref b14), .val (.int (6 : Int32))] [(.int (6 : Int32)), (.int (own_scan (own_b p1 p2) (own_to p4).toInt.toNat 9 (own_from p3).toInt.toNat))])) (fun _ kst => XS.iload X45.here hx rfl (hb hby at_219) rfl kst) ?_
        refine oS (u' := T45.setTop (mkF m 224 #[.val (.int p1), .val (.long p2), .second, .val (.int p3), .val (.int p4), .val (.int (own_from p3)), .val (.int (own_to p4)), .val (.ref b14), .val (.int (6 : Int32))] [])) (fun _ kst => XS.icmpNo X45.here hx rfl (hb hby at_221) rfl (teq (own_found2 b14 p1 p2 p3 p4 hc33 hc35 hc37)).2 kst) ?_
        refine oS (u' := T45.setTop (mkF m 225 #[.val (.int p1), .val (.long p2), .second, .val (.int p3), .val (.int p4), .val (.int (own_from p3)), .val (.int (own_to p4)), .val (.ref b14), .val (.int (6 : Int32))] [(.int (1 : Int32))])) (fun _ kst => XS.iconst X45.here hx rfl (hb hby at_224) kst) ?_
        refine oS (u' := T45.setTop (mkF m 229 #[.val (.int p1), .val (.long p2), .second, .val (.int p3), .val (.int p4), .val (.int (own_from p3)), .val (.int (own_to p4)), .val (.ref b14), .val (.int (6 : Int32))] [(.int (1 : Int32))])) (fun _ kst => XS.goto X45.here hx rfl (pc0 := 225) (pc' := 229) rfl (hb hby at_225) (by decide) (by decide) kst) ?_
        refine own_retN X45 hx hlk (t := .boolean) hret (by simp) (hb hby at_229) ?_ (by decide) (by decide)
        exact ⟨rfl, N30⟩
    · refine oS (u' := T34.setTop (mkF m 141 #[.val (.int p1), .val (.long p2), .second, .val (.int p3), .val (.int p4), .val (.int (own_from p3)), .val (.int (own_to p4)), .val (.ref b14), .unset] [])) (fun _ kst => XS.ifNo X34.here hx rfl (hb hby at_138) rfl ((if0 _ _).trans (feq hc35).1) kst) ?_
      refine oS (u' := T34.setTop (mkF m 142 #[.val (.int p1), .val (.long p2), .second, .val (.int p3), .val (.int p4), .val (.int (own_from p3)), .val (.int (own_to p4)), .val (.ref b14), .unset] [(.int (5 : Int32))])) (fun _ kst => XS.iconst X34.here hx rfl (hb hby at_141) kst) ?_
      refine oS (u' := T34.setTop (mkF m 144 #[.val (.int p1), .val (.long p2), .second, .val (.int p3), .val (.int p4), .val (.int (own_from p3)), .val (.int (own_to p4)), .val (.ref b14), .val (.int (5 : Int32))] [])) (fun _ kst => XS.istore X34.here hx rfl (hb hby at_142) rfl (l' := #[.val (.int p1), .val (.long p2), .second, .val (.int p3), .val (.int p4), .val (.int (own_from p3)), .val (.int (own_to p4)), .val (.ref b14), .val (.int (5 : Int32))]) rfl kst) ?_
      refine oS (u' := T34.setTop (mkF m 210 #[.val (.int p1), .val (.long p2), .second, .val (.int p3), .val (.int p4), .val (.int (own_from p3)), .val (.int (own_to p4)), .val (.ref b14), .val (.int (5 : Int32))] [])) (fun _ kst => XS.goto X34.here hx rfl (pc0 := 144) (pc' := 210) rfl (hb hby at_144) (by decide) (by decide) kst) ?_
      refine oS (u' := T34.setTop (mkF m 212 #[.val (.int p1), .val (.long p2), .second, .val (.int p3), .val (.int p4), .val (.int (own_from p3)), .val (.int (own_to p4)), .val (.ref b14), .val (.int (5 : Int32))] [(.ref b14)])) (fun _ kst => XS.aload X34.here hx rfl (hb hby at_210) rfl rfl kst) ?_
      refine oS (u' := T34.setTop (mkF m 214 #[.val (.int p1), .val (.long p2), .second, .val (.int p3), .val (.int p4), .val (.int (own_from p3)), .val (.int (own_to p4)), .val (.ref b14), .val (.int (5 : Int32))] [(.int (own_from p3)), (.ref b14)])) (fun _ kst => XS.iload X34.here hx rfl (hb hby at_212) rfl kst) ?_
      refine oS (u' := T34.setTop (mkF m 216 #[.val (.int p1), .val (.long p2), .second, .val (.int p3), .val (.int p4), .val (.int (own_from p3)), .val (.int (own_to p4)), .val (.ref b14), .val (.int (5 : Int32))] [(.int (own_to p4)), (.int (own_from p3)), (.ref b14)])) (fun _ kst => XS.iload X34.here hx rfl (hb hby at_214) rfl kst) ?_
      obtain ⟨T46, X46, e46, st46⟩ := own_callSP X34 hx hZ (y := (⟨"com/example/verdict_across_domains/command/RequestHead", "end", "([BII)I"⟩ : MethodName)) hown (hw _ (List.mem_of_getElem? (i := 9) rfl)) (hw _ (List.mem_of_getElem? (i := 10) rfl)) (hw _ (List.mem_of_getElem? (i := 12) rfl)) (hw _ (List.mem_of_getElem? (i := 11) rfl)) (by decide) e34 (W := 0) (own_rm_end l Z a0 hw b14 (own_from p3) (own_to p4) (own_b p1 p2) (own_from p3).toInt.toNat (own_to p4).toInt.toNat h30 V31 (own_from_nat p3).1 (own_from_nat p3).2 (own_to_nat p4).1 (own_to_nat p4).2) (by decide) (by decide) (g := (mkF m 216 #[.val (.int p1), .val (.long p2), .second, .val (.int p3), .val (.int p4), .val (.int (own_from p3)), .val (.int (own_to p4)), .val (.ref b14), .val (.int (5 : Int32))] [(.int (own_to p4)), (.int (own_from p3)), (.ref b14)])) rfl (by rw [hml]; rfl) (argsL := [(.ref b14), (.int (own_from p3)), (.int (own_to p4))]) (rest := []) (lenOf own_pd2 rfl) rfl (by show 2 * 0 + _ ≤ _; exact Nat.le_of_eq rfl) (hb hby at_216) (by decide) (by decide)
      refine oS (u' := T46.setTop (mkF m 219 #[.val (.int p1), .val (.long p2), .second, .val (.int p3), .val (.int p4), .val (.int (own_from p3)), .val (.int (own_to p4)), .val (.ref b14), .val (.int (5 : Int32))] [(.int (own_scan (own_b p1 p2) (own_to p4).toInt.toNat 9 (own_from p3).toInt.toNat))])) st46 ?_
      refine oS (u' := T46.setTop (mkF m 221 #[.val (.int p1), .val (.long p2), .second, .val (.int p3), .val (.int p4), .val (.int (own_from p3)), .val (.int (own_to p4)), .val (.ref b14), .val (.int (5 : Int32))] [(.int (5 : Int32)), (.int (own_scan (own_b p1 p2) (own_to p4).toInt.toNat 9 (own_from p3).toInt.toNat))])) (fun _ kst => XS.iload X46.here hx rfl (hb hby at_219) rfl kst) ?_
      refine oS (u' := T46.setTop (mkF m 224 #[.val (.int p1), .val (.long p2), .second, .val (.int p3), .val (.int p4), .val (.int (own_from p3)), .val (.int (own_to p4)), .val (.ref b14), .val (.int (5 : Int32))] [])) (fun _ kst => XS.icmpNo X46.here hx rfl (hb hby at_221) rfl (teq (own_found1 b14 p1 p2 p3 p4 hc33 hc35)).2 kst) ?_
      refine oS (u' := T46.setTop (mkF m 225 #[.val (.int p1), .val (.long p2), .second, .val (.int p3), .val (.int p4), .val (.int (own_from p3)), .val (.int (own_to p4)), .val (.ref b14), .val (.int (5 : Int32))] [(.int (1 : Int32))])) (fun _ kst => XS.iconst X46.here hx rfl (hb hby at_224) kst) ?_
      refine oS (u' := T46.setTop (mkF m 229 #[.val (.int p1), .val (.long p2), .second, .val (.int p3), .val (.int p4), .val (.int (own_from p3)), .val (.int (own_to p4)), .val (.ref b14), .val (.int (5 : Int32))] [(.int (1 : Int32))])) (fun _ kst => XS.goto X46.here hx rfl (pc0 := 225) (pc' := 229) rfl (hb hby at_225) (by decide) (by decide) kst) ?_
      refine own_retN X46 hx hlk (t := .boolean) hret (by simp) (hb hby at_229) ?_ (by decide) (by decide)
      exact ⟨rfl, N30⟩
  · refine oS (u' := T32.setTop (mkF m 122 #[.val (.int p1), .val (.long p2), .second, .val (.int p3), .val (.int p4), .val (.int (own_from p3)), .val (.int (own_to p4)), .val (.ref b14), .unset] [])) (fun _ kst => XS.ifNo X32.here hx rfl (hb hby at_119) rfl ((if0 _ _).trans (feq hc33).1) kst) ?_
    refine oS (u' := T32.setTop (mkF m 123 #[.val (.int p1), .val (.long p2), .second, .val (.int p3), .val (.int p4), .val (.int (own_from p3)), .val (.int (own_to p4)), .val (.ref b14), .unset] [(.int (4 : Int32))])) (fun _ kst => XS.iconst X32.here hx rfl (hb hby at_122) kst) ?_
    refine oS (u' := T32.setTop (mkF m 125 #[.val (.int p1), .val (.long p2), .second, .val (.int p3), .val (.int p4), .val (.int (own_from p3)), .val (.int (own_to p4)), .val (.ref b14), .val (.int (4 : Int32))] [])) (fun _ kst => XS.istore X32.here hx rfl (hb hby at_123) rfl (l' := #[.val (.int p1), .val (.long p2), .second, .val (.int p3), .val (.int p4), .val (.int (own_from p3)), .val (.int (own_to p4)), .val (.ref b14), .val (.int (4 : Int32))]) rfl kst) ?_
    refine oS (u' := T32.setTop (mkF m 210 #[.val (.int p1), .val (.long p2), .second, .val (.int p3), .val (.int p4), .val (.int (own_from p3)), .val (.int (own_to p4)), .val (.ref b14), .val (.int (4 : Int32))] [])) (fun _ kst => XS.goto X32.here hx rfl (pc0 := 125) (pc' := 210) rfl (hb hby at_125) (by decide) (by decide) kst) ?_
    refine oS (u' := T32.setTop (mkF m 212 #[.val (.int p1), .val (.long p2), .second, .val (.int p3), .val (.int p4), .val (.int (own_from p3)), .val (.int (own_to p4)), .val (.ref b14), .val (.int (4 : Int32))] [(.ref b14)])) (fun _ kst => XS.aload X32.here hx rfl (hb hby at_210) rfl rfl kst) ?_
    refine oS (u' := T32.setTop (mkF m 214 #[.val (.int p1), .val (.long p2), .second, .val (.int p3), .val (.int p4), .val (.int (own_from p3)), .val (.int (own_to p4)), .val (.ref b14), .val (.int (4 : Int32))] [(.int (own_from p3)), (.ref b14)])) (fun _ kst => XS.iload X32.here hx rfl (hb hby at_212) rfl kst) ?_
    refine oS (u' := T32.setTop (mkF m 216 #[.val (.int p1), .val (.long p2), .second, .val (.int p3), .val (.int p4), .val (.int (own_from p3)), .val (.int (own_to p4)), .val (.ref b14), .val (.int (4 : Int32))] [(.int (own_to p4)), (.int (own_from p3)), (.ref b14)])) (fun _ kst => XS.iload X32.here hx rfl (hb hby at_214) rfl kst) ?_
    obtain ⟨T47, X47, e47, st47⟩ := own_callSP X32 hx hZ (y := (⟨"com/example/verdict_across_domains/command/RequestHead", "end", "([BII)I"⟩ : MethodName)) hown (hw _ (List.mem_of_getElem? (i := 9) rfl)) (hw _ (List.mem_of_getElem? (i := 10) rfl)) (hw _ (List.mem_of_getElem? (i := 12) rfl)) (hw _ (List.mem_of_getElem? (i := 11) rfl)) (by decide) e32 (W := 0) (own_rm_end l Z a0 hw b14 (own_from p3) (own_to p4) (own_b p1 p2) (own_from p3).toInt.toNat (own_to p4).toInt.toNat h30 V31 (own_from_nat p3).1 (own_from_nat p3).2 (own_to_nat p4).1 (own_to_nat p4).2) (by decide) (by decide) (g := (mkF m 216 #[.val (.int p1), .val (.long p2), .second, .val (.int p3), .val (.int p4), .val (.int (own_from p3)), .val (.int (own_to p4)), .val (.ref b14), .val (.int (4 : Int32))] [(.int (own_to p4)), (.int (own_from p3)), (.ref b14)])) rfl (by rw [hml]; rfl) (argsL := [(.ref b14), (.int (own_from p3)), (.int (own_to p4))]) (rest := []) (lenOf own_pd2 rfl) rfl (by show 2 * 0 + _ ≤ _; exact Nat.le_of_eq rfl) (hb hby at_216) (by decide) (by decide)
    refine oS (u' := T47.setTop (mkF m 219 #[.val (.int p1), .val (.long p2), .second, .val (.int p3), .val (.int p4), .val (.int (own_from p3)), .val (.int (own_to p4)), .val (.ref b14), .val (.int (4 : Int32))] [(.int (own_scan (own_b p1 p2) (own_to p4).toInt.toNat 9 (own_from p3).toInt.toNat))])) st47 ?_
    refine oS (u' := T47.setTop (mkF m 221 #[.val (.int p1), .val (.long p2), .second, .val (.int p3), .val (.int p4), .val (.int (own_from p3)), .val (.int (own_to p4)), .val (.ref b14), .val (.int (4 : Int32))] [(.int (4 : Int32)), (.int (own_scan (own_b p1 p2) (own_to p4).toInt.toNat 9 (own_from p3).toInt.toNat))])) (fun _ kst => XS.iload X47.here hx rfl (hb hby at_219) rfl kst) ?_
    refine oS (u' := T47.setTop (mkF m 224 #[.val (.int p1), .val (.long p2), .second, .val (.int p3), .val (.int p4), .val (.int (own_from p3)), .val (.int (own_to p4)), .val (.ref b14), .val (.int (4 : Int32))] [])) (fun _ kst => XS.icmpNo X47.here hx rfl (hb hby at_221) rfl (teq (own_found0 b14 p1 p2 p3 p4 hc33)).2 kst) ?_
    refine oS (u' := T47.setTop (mkF m 225 #[.val (.int p1), .val (.long p2), .second, .val (.int p3), .val (.int p4), .val (.int (own_from p3)), .val (.int (own_to p4)), .val (.ref b14), .val (.int (4 : Int32))] [(.int (1 : Int32))])) (fun _ kst => XS.iconst X47.here hx rfl (hb hby at_224) kst) ?_
    refine oS (u' := T47.setTop (mkF m 229 #[.val (.int p1), .val (.long p2), .second, .val (.int p3), .val (.int p4), .val (.int (own_from p3)), .val (.int (own_to p4)), .val (.ref b14), .val (.int (4 : Int32))] [(.int (1 : Int32))])) (fun _ kst => XS.goto X47.here hx rfl (pc0 := 225) (pc' := 229) rfl (hb hby at_225) (by decide) (by decide) kst) ?_
    refine own_retN X47 hx hlk (t := .boolean) hret (by simp) (hb hby at_229) ?_ (by decide) (by decide)
    exact ⟨rfl, N30⟩
set_option maxRecDepth 65536 in
set_option maxHeartbeats 40000000 in
theorem comes_1 {Post : Tables → Env → Array Value → State → Outcome → State → Prop} (hpost : ∀ tb e args s v u, (limb_1_1.after args s (.returned v) u = true ∧ limb_1_2.after args s (.returned v) u = true ∧ True) → FrameEnd s (.returned v) u (Jvm.fieldLocs frame_1_writes args s ++ Jvm.arrayLocs frame_1_arrays args s ++ Jvm.staticLocs frame_1_statics s) 16 128 → Post tb e args s (.returned v) u) :
    ArmFor flags0 classFile x code maxLocals ret World_1 tables_1 room_1 Calls_1 rest_1 Pre_1 Post := by
  intro l hfl _ _ p e ha hc hk s m args below hf hA hF happ hP
  obtain ⟨hcalls, hrest, hpre⟩ := hP
  obtain ⟨-, -, -, hnamed, -, -, -, hat⟩ := (Spec.applies_iff hf).mp happ
  obtain ⟨hg, hn⟩ := and_e (Cond.before_iff.mp (show (Jvm.Cond.and given_1 narrow_1).before args s = true from hpre))
  obtain ⟨g0, gg0⟩ := and_e hg
  obtain ⟨g1, gg1⟩ := and_e gg0
  obtain ⟨g2, gg2⟩ := and_e gg1
  obtain ⟨g3, gg3⟩ := and_e gg2
  obtain ⟨w0, w1, w2, w3, rfl⟩ : ∃ w0 w1 w2 w3 : Value, args = #[w0, w1, w2, w3] := by
    have hs : args.size = 4 := by simpa [Cond.value, given_1] using g0
    obtain ⟨L⟩ := args
    match L, hs with
    | [w0, w1, w2, w3], _ => exact ⟨w0, w1, w2, w3, rfl⟩
  have hw := fun d (hd : d ∈ tables_1) => atoms_spec (ws := Jvm.Cond.code x code maxLocals ret :: tables_1) hat d (List.mem_cons_of_mem _ hd)
  have hfit : Fit s := fun {y c} hc i hi => by
    obtain ⟨ha, rfl⟩ := Array.getElem?_eq_some_iff.mp hc
    have q := List.all_eq_true.mp ((Array.all_eq_true_iff_forall_mem.mp hF) _ (Array.getElem_mem ha)) i (List.mem_range.mpr hi)
    simpa [Array.getElem?_eq_getElem hi] using q
  obtain ⟨i0, ei0⟩ := is_v g1
  obtain rfl : w0 = (.int i0) := Option.some.inj ei0
  obtain ⟨i1, ei1⟩ := isL_v g2
  obtain rfl : w1 = (.long i1) := Option.some.inj ei1
  obtain ⟨i2, ei2⟩ := is_v g3
  obtain rfl : w2 = (.int i2) := Option.some.inj ei2
  obtain ⟨i3, ei3⟩ := is_v gg3
  obtain rfl : w3 = (.int i3) := Option.some.inj ei3
  obtain ⟨n, o, h1, h2, h3, _, L, rfl, ⟨rfl, N⟩, hq⟩ := own_law l s _ hw i0 i1 i2 i3 s.heap s.heap.size (Nat.le_refl _) p e ha hc hk s m _ below hf ((Spec.applies_iff_loose hf).mp happ).1 ⟨rfl, State.Warmed39.refl s, rfl⟩ trivial
  refine ⟨n, _, h1, h2, h3, hpost _ _ _ _ _ _ ⟨Cond.after_iff.mpr rfl, Cond.after_iff.mpr (eq_i res_at (Term.int_eval (1)) rfl), trivial⟩ ⟨hq.1, hq.2.1, (hq.2.2.sift fun y hy => Or.inr (N y hy)).mono (by decide) (by decide)⟩⟩
theorem main_1_1 : Claimed_1_1 := comes_1 fun _ _ _ _ _ _ h hF => ⟨h.1, hF⟩
theorem main_1_2 : Claimed_1_2 := comes_1 fun _ _ _ _ _ _ h hF => ⟨h.2.1, hF⟩
end Jvm.Pilot.@@N@@
namespace Jvm.Pilot.@@N@@
open Jvm Jvm.ClassFile Sem Op Lib Jvm.Free Jvm.Stand Jvm.Pilot.@@N@@.Jvm.D
/-! MADE BY PROGRAM (witnessworld.py) out of the Statement's table words and the real class files: 9 classes; the members and pool entries that the words name. The judged class is class 1, her method 3. -/
namespace start1
open Jvm.ClassFile
def u (s : String) : CpInfo := .utf8 (stringToUtf16 s)
/-- a pool by its gaps: so many unusable entries, then the entry; so many at the end -/
def gap : Nat → List CpInfo → List CpInfo
  | 0, r => r
  | n + 1, r => .unusable :: gap n r
def poolList (es : List (Nat × CpInfo)) (last : Nat) : List CpInfo := es.foldr (fun e r => gap e.1 (e.2 :: r)) (gap last [])
def pool (es : List (Nat × CpInfo)) (last : Nat) : Array CpInfo := ⟨poolList es last⟩
def fileOf (pool : Array CpInfo) (this : Nat) (attrs : Array Attribute := #[]) (ms : Array MethodInfo := #[]) (fl : Nat := 33) (sup : Nat := 0) (ifs : Array Nat := #[]) (fds : Array FieldInfo := #[]) : ClassFile where
  minorVersion := 0
  majorVersion := 65
  constantPool := pool
  accessFlags := fl
  thisClass := this
  superClass := sup
  interfaces := ifs
  fields := fds
  methods := ms
  attributes := attrs
def plain (name : String) (sup : Option ClassId) : Class where
  name := name
  kind := .ordinary
  loader := none
  accessFlags := 33
  super := sup
  interfaces := #[]
  cf := none
  fields := #[]
  methods := #[]
  instanceTypes := #[]
  staticTypes := #[]
  resolved := #[]
  callSites := []
  init := .initialized
  statics := none
  mirror := none

def pool0 : Array CpInfo := pool [(5, u "<init>"), (0, u "()V"), (1, .class_ 10), (1, u "java/lang/Object")] 113

def k0m0 : Method := { name := "<init>", desc := "()V", sig := { parameters := [], returnType := none }, accessFlags := 1, code := none }
/-- java/lang/Object -/
def k0 : Class := { plain "java/lang/Object" none with
  accessFlags := 33
  interfaces := #[]
  cf := some (fileOf pool0 8 #[] #[{ accessFlags := 1, nameIndex := 5, descriptorIndex := 6, attributes := #[] }] 33 0 #[] #[])
  fields := #[]
  methods := #[k0m0]
  instanceTypes := #[]
  staticTypes := #[]
  resolved := Array.replicate 124 none
  statics := none }

def pool1 : Array CpInfo := pool [(2, .class_ 4), (1, u "java/lang/Object"), (0, u "<init>"), (0, u "()V"), (0, .integer 2147483647), (0, .methodref 9 10), (0, .class_ 11), (0, .nameAndType 12 13), (0, u "com/example/verdict_across_domains/command/RequestHeadEndPinLaw"), (0, u "pick"), (0, u "(IJI)B"), (0, .methodref 9 15), (0, .nameAndType 16 17), (0, u "m"), (0, u "([BIII)Z"), (0, .methodref 19 20), (0, .class_ 21), (0, .nameAndType 22 23), (0, u "com/example/verdict_across_domains/command/RequestHead"), (0, u "end"), (0, u "([BII)I"), (3, u "law"), (0, u "(IJII)Z")] 4

def k1m0 : Method := { name := "<init>", desc := "()V", sig := { parameters := [], returnType := none }, accessFlags := 1, code := none }
def k1c1 : Code := { maxStack := 4, maxLocals := 5, code := method_2_code, exceptionTable := #[], attributes := #[] }
def k1m1 : Method := { name := "pick", desc := "(IJI)B", sig := { parameters := [.int, .long, .int], returnType := some .byte }, accessFlags := 10, code := some k1c1 }
def k1c2 : Code := { maxStack := 3, maxLocals := 4, code := method_3_code, exceptionTable := #[], attributes := #[] }
def k1m2 : Method := { name := "m", desc := "([BIII)Z", sig := { parameters := [(.array .byte), .int, .int, .int], returnType := some .boolean }, accessFlags := 10, code := some k1c2 }
def k1c3 : Code := { maxStack := 6, maxLocals := 9, code := code, exceptionTable := #[], attributes := #[] }
def k1m3 : Method := { name := "law", desc := "(IJII)Z", sig := { parameters := [.int, .long, .int, .int], returnType := some .boolean }, accessFlags := 9, code := some k1c3 }
/-- com/example/verdict_across_domains/command/RequestHeadEndPinLaw -/
def k1 : Class := { plain "com/example/verdict_across_domains/command/RequestHeadEndPinLaw" (some 0) with
  accessFlags := 49
  interfaces := #[]
  cf := some (fileOf pool1 9 #[] #[{ accessFlags := 1, nameIndex := 5, descriptorIndex := 6, attributes := #[] }, { accessFlags := 10, nameIndex := 12, descriptorIndex := 13, attributes := #[] }, { accessFlags := 10, nameIndex := 16, descriptorIndex := 17, attributes := #[] }, { accessFlags := 9, nameIndex := 27, descriptorIndex := 28, attributes := #[] }] 49 2 #[] #[])
  fields := #[]
  methods := #[k1m0, k1m1, k1m2, k1m3]
  instanceTypes := #[]
  staticTypes := #[]
  resolved := Array.replicate 33 none
  statics := none }

def pool2 : Array CpInfo := pool [(2, .class_ 4), (1, u "java/lang/Object"), (3, .class_ 10), (1, u "com/example/verdict_across_domains/command/RequestHead"), (0, u "line"), (0, u "Ljava/lang/String;"), (12, u "method"), (9, u "target"), (3, u "Ljava/net/URI;"), (2, u "head"), (0, u "[B"), (2, u "fields"), (0, u "[I"), (2, u "bodyLength"), (0, u "J"), (2, u "http10"), (0, u "Z"), (2, u "keepsConnection"), (19, u "([BII)I"), (13, .class_ 93), (0, u "com/example/verdict_across_domains/command/RequestHead$Connection"), (171, u "MOST_LENGTH"), (0, u "I"), (2, u "MOST_LOGGED"), (1, u "CR"), (0, u "B"), (1, u "LF"), (4, u "end")] 41

def k2c0 : Code := { maxStack := 3, maxLocals := 4, code := prog_18_method_2_code, exceptionTable := #[], attributes := #[] }
def k2m0 : Method := { name := "end", desc := "([BII)I", sig := { parameters := [(.array .byte), .int, .int], returnType := some .int }, accessFlags := 8, code := some k2c0 }
/-- com/example/verdict_across_domains/command/RequestHead -/
def k2 : Class := { plain "com/example/verdict_across_domains/command/RequestHead" (some 0) with
  accessFlags := 32
  interfaces := #[]
  cf := some (fileOf pool2 8 #[.nestMembers #[92]] #[{ accessFlags := 8, nameIndex := 279, descriptorIndex := 78, attributes := #[] }] 32 2 #[] #[{ accessFlags := 24, nameIndex := 265, descriptorIndex := 266, attributes := #[] }, { accessFlags := 26, nameIndex := 269, descriptorIndex := 266, attributes := #[] }, { accessFlags := 26, nameIndex := 271, descriptorIndex := 272, attributes := #[] }, { accessFlags := 26, nameIndex := 274, descriptorIndex := 272, attributes := #[] }, { accessFlags := 18, nameIndex := 25, descriptorIndex := 12, attributes := #[] }, { accessFlags := 18, nameIndex := 35, descriptorIndex := 39, attributes := #[] }, { accessFlags := 18, nameIndex := 11, descriptorIndex := 12, attributes := #[] }, { accessFlags := 18, nameIndex := 42, descriptorIndex := 43, attributes := #[] }, { accessFlags := 18, nameIndex := 46, descriptorIndex := 47, attributes := #[] }, { accessFlags := 18, nameIndex := 50, descriptorIndex := 51, attributes := #[] }, { accessFlags := 18, nameIndex := 54, descriptorIndex := 55, attributes := #[] }, { accessFlags := 18, nameIndex := 58, descriptorIndex := 55, attributes := #[] }])
  fields := #[{ name := "MOST_LENGTH", type := .int, accessFlags := 24, slot := 0, constantValue := 0 }, { name := "MOST_LOGGED", type := .int, accessFlags := 26, slot := 1, constantValue := 0 }, { name := "CR", type := .byte, accessFlags := 26, slot := 2, constantValue := 0 }, { name := "LF", type := .byte, accessFlags := 26, slot := 3, constantValue := 0 }, { name := "method", type := (.object "java/lang/String"), accessFlags := 18, slot := 0, constantValue := 0 }, { name := "target", type := (.object "java/net/URI"), accessFlags := 18, slot := 1, constantValue := 0 }, { name := "line", type := (.object "java/lang/String"), accessFlags := 18, slot := 2, constantValue := 0 }, { name := "head", type := (.array .byte), accessFlags := 18, slot := 3, constantValue := 0 }, { name := "fields", type := (.array .int), accessFlags := 18, slot := 4, constantValue := 0 }, { name := "bodyLength", type := .long, accessFlags := 18, slot := 5, constantValue := 0 }, { name := "http10", type := .boolean, accessFlags := 18, slot := 6, constantValue := 0 }, { name := "keepsConnection", type := .boolean, accessFlags := 18, slot := 7, constantValue := 0 }]
  methods := #[k2m0]
  instanceTypes := #[(.object "java/lang/String"), (.object "java/net/URI"), (.object "java/lang/String"), (.array .byte), (.array .int), .long, .boolean, .boolean]
  staticTypes := #[.int, .int, .byte, .byte]
  resolved := Array.replicate 321 none
  statics := none }

def pool3 : Array CpInfo := pool [(1, u "java/lang/Cloneable"), (0, .class_ 1), (0, u "java/lang/Object"), (0, .class_ 3)] 3

/-- java/lang/Cloneable -/
def k3 : Class := { plain "java/lang/Cloneable" (some 0) with
  accessFlags := 1537
  interfaces := #[]
  cf := some (fileOf pool3 2 #[] #[] 1537 4 #[] #[])
  fields := #[]
  methods := #[]
  instanceTypes := #[]
  staticTypes := #[]
  resolved := Array.replicate 8 none
  statics := none }

def pool4 : Array CpInfo := pool [(1, u "java/io/Serializable"), (0, .class_ 1), (0, u "java/lang/Object"), (0, .class_ 3)] 3

/-- java/io/Serializable -/
def k4 : Class := { plain "java/io/Serializable" (some 0) with
  accessFlags := 1537
  interfaces := #[]
  cf := some (fileOf pool4 2 #[] #[] 1537 4 #[] #[])
  fields := #[]
  methods := #[]
  instanceTypes := #[]
  staticTypes := #[]
  resolved := Array.replicate 8 none
  statics := none }

/-- the primitive byte -/
def k5 : Class := { plain "byte" none with kind := .primitive 'B', accessFlags := 0x411 }
/-- [B -/
def k6 : Class := { plain "[B" (some 0) with kind := .array 5 .byte, interfaces := #[3, 4], accessFlags := 1041 }

/-- the primitive int -/
def k7 : Class := { plain "int" none with kind := .primitive 'I', accessFlags := 0x411 }
/-- [I -/
def k8 : Class := { plain "[I" (some 0) with kind := .array 7 .int, interfaces := #[3, 4], accessFlags := 1041 }

def heap : Heap := #[]
def classes : Array Class := #[k0, k1, k2, k3, k4, k5, k6, k7, k8]
def interned : List (Array UInt16 × Addr) := []
def slotsUsed : Nat := 0
def theMethod : MethodId := ⟨1, 3⟩
def args0 : Array Value := #[.int 5, .long 7, .int 0, .int 8]
def aboutOver (below : List Frame) : State where
  vm := { classes := classes, interned := interned.toArray }
  heap := heap
  slotsUsed := slotsUsed
  threads := #[{ frames := .invoking theMethod args0 :: below }]
def below0 : List Frame := [.native { method := ⟨0, 0⟩, args := #[] }]
def about1 : State := aboutOver below0
def p0 : Program := .bare "" "" ""
def e0 : Env := launch0.env 0 0 0
theorem w_frames : about1.frames = Frame.invoking theMethod args0 :: below0 := rfl
set_option maxRecDepth 65536 in
theorem w_args : argsFit about1.vm theMethod args0 = true := by decide +kernel
set_option maxRecDepth 65536 in
theorem w_heap : heapFits about1 = true := by decide +kernel
set_option maxRecDepth 65536 in
theorem w_runnable : about1.curStatus? = some .runnable := by decide +kernel
set_option maxRecDepth 65536 in
theorem w_alone : about1.alone = true := by decide +kernel
set_option maxRecDepth 65536 in
theorem w_named : about1.methodNamed? x = some theMethod := by decide +kernel
set_option maxRecDepth 65536 in
theorem w_hears : about1.hears theMethod below0 = true := by decide +kernel
set_option maxRecDepth 65536 in
theorem w_ripe : about1.ripe theMethod args0 below0 = true := by decide +kernel
theorem w_running : about1.status = .running := rfl
set_option maxRecDepth 65536 in
theorem w_room : about1.hasRoom e0.platform room_1 = true :=
  launch0.hasRoom_least _ room_1 (by decide +kernel) (by decide +kernel) (by decide +kernel) (by decide +kernel) (by decide +kernel) (by decide +kernel)
theorem allAtoms_all (ts : List Jvm.Cond) (a : Array Jvm.Value) (st : Jvm.State) : (allAtoms ts).before a st = ts.all (fun c => c.before a st) := by
  induction ts with
  | nil => rfl
  | cons c t ih =>
    show (Jvm.Cond.and c (allAtoms t)).before a st = _
    rw [Jvm.Cond.before_and, ih, List.all_cons]
def words1 : List Jvm.Cond := Jvm.Cond.code x code maxLocals ret :: tables_1
/-- a 'code' word, met by the world's own term for the bytes: nothing is compared byte by byte -/
theorem code_word {y : MethodName} {bytes : ByteArray} {mx : Nat} {rt : Option FieldType} {a : Array Value} {s : State} {m : MethodId} {meth : Method} {c : Code} (h1 : s.methodNamed? y = some m) (h2 : s.vm.method? m = some meth) (h3 : meth.code = some c) (h4 : c.code = bytes)
    (h5 : (c.maxLocals == mx && c.exceptionTable.isEmpty && decide (c.maxStack ≤ mostOperands) && decide (meth.sig.returnType = rt) && !meth.locks && decide (parseMethodDescriptor y.desc = some meth.sig)) = true) : (Jvm.Cond.code y bytes mx rt).before a s = true := by
  simp only [Bool.and_eq_true, beq_iff_eq, Bool.not_eq_true', decide_eq_true_eq] at h5
  obtain ⟨⟨⟨⟨⟨g1, g2⟩, g3⟩, g4⟩, g5⟩, g6⟩ := h5
  simp [Cond.before, Cond.holds, Cond.value, h1, h2, h3, h4, g1, g2, g3, g4, g5, g6]
def isCode : Jvm.Cond → Bool
  | .code _ _ _ _ => true
  | _ => false
theorem all_split {L : List Jvm.Cond} {P : Jvm.Cond → Bool} (h1 : L.all (fun c => isCode c || P c) = true) (h2 : ∀ c ∈ L.filter isCode, P c = true) : L.all P = true := by
  refine List.all_eq_true.mpr fun c hc => ?_
  have h := List.all_eq_true.mp h1 c hc
  rcases Bool.eq_false_or_eq_true (isCode c) with hi | hi
  · exact h2 c (List.mem_filter.mpr ⟨hc, hi⟩)
  · simpa [hi] using h
set_option maxRecDepth 65536 in
theorem w_c0 : (Jvm.Cond.code x code maxLocals ret).before args0 about1 = true := code_word (m := ⟨1, 3⟩) (meth := k1m3) (c := k1c3) (by decide +kernel) rfl rfl rfl (by decide +kernel)
set_option maxRecDepth 65536 in
theorem w_c1 : (Jvm.Cond.code ({ cls := "com/example/verdict_across_domains/command/RequestHeadEndPinLaw", name := "pick", desc := "(IJI)B" } : Jvm.MethodName) method_2_code (5 : Nat) (Option.some Jvm.ClassFile.FieldType.byte)).before args0 about1 = true := code_word (m := ⟨1, 1⟩) (meth := k1m1) (c := k1c1) (by decide +kernel) rfl rfl rfl (by decide +kernel)
set_option maxRecDepth 65536 in
theorem w_c2 : (Jvm.Cond.code ({ cls := "com/example/verdict_across_domains/command/RequestHeadEndPinLaw", name := "m", desc := "([BIII)Z" } : Jvm.MethodName) method_3_code (4 : Nat) (Option.some Jvm.ClassFile.FieldType.boolean)).before args0 about1 = true := code_word (m := ⟨1, 2⟩) (meth := k1m2) (c := k1c2) (by decide +kernel) rfl rfl rfl (by decide +kernel)
set_option maxRecDepth 65536 in
theorem w_c3 : (Jvm.Cond.code ({ cls := "com/example/verdict_across_domains/command/RequestHead", name := "end", desc := "([BII)I" } : Jvm.MethodName) prog_18_method_2_code (4 : Nat) (Option.some Jvm.ClassFile.FieldType.int)).before args0 about1 = true := code_word (m := ⟨2, 0⟩) (meth := k2m0) (c := k2c0) (by decide +kernel) rfl rfl rfl (by decide +kernel)
def codes1 : List Jvm.Cond := [Jvm.Cond.code x code maxLocals ret, Jvm.Cond.code ({ cls := "com/example/verdict_across_domains/command/RequestHeadEndPinLaw", name := "pick", desc := "(IJI)B" } : Jvm.MethodName) method_2_code (5 : Nat) (Option.some Jvm.ClassFile.FieldType.byte), Jvm.Cond.code ({ cls := "com/example/verdict_across_domains/command/RequestHeadEndPinLaw", name := "m", desc := "([BIII)Z" } : Jvm.MethodName) method_3_code (4 : Nat) (Option.some Jvm.ClassFile.FieldType.boolean), Jvm.Cond.code ({ cls := "com/example/verdict_across_domains/command/RequestHead", name := "end", desc := "([BII)I" } : Jvm.MethodName) prog_18_method_2_code (4 : Nat) (Option.some Jvm.ClassFile.FieldType.int)]
set_option maxRecDepth 65536 in
theorem codes_eq : words1.filter isCode = codes1 := rfl
theorem w_codes : ∀ c ∈ words1.filter isCode, c.before args0 about1 = true := by
  rw [codes_eq]
  intro c hc
  simp only [codes1, List.mem_cons, List.not_mem_nil, or_false] at hc
  rcases hc with rfl | rfl | rfl | rfl
  · exact w_c0
  · exact w_c1
  · exact w_c2
  · exact w_c3
set_option maxRecDepth 65536 in
theorem w_t1 : words1.all (fun c => isCode c || c.before args0 about1) = true := by decide +kernel
theorem w_tables : (allAtoms (Jvm.Cond.code x code maxLocals ret :: tables_1)).before args0 about1 = true := by
  rw [allAtoms_all]
  show words1.all (fun c => c.before args0 about1) = true
  refine all_split ?_ w_codes
  rw [w_t1]
set_option maxRecDepth 65536 in
theorem w_case : (Jvm.Cond.and given_1 narrow_1).before args0 about1 = true := by decide +kernel
theorem w_applies : (headSpec (Jvm.Cond.code x code maxLocals ret :: tables_1) room_1).applies x e0.platform about1 = true :=
  (Spec.applies_iff w_frames).mpr ⟨w_running, w_runnable, w_alone, w_named, w_hears, w_ripe, w_room, w_tables⟩
theorem atStart : AtStart classFile x code maxLocals ret World_1 tables_1 room_1 Calls_1 rest_1 Pre_1 launch0 p0 e0 about1 theMethod args0 below0 :=
  ⟨lists_1, trivial, launch0.admits_env _ _ _, launch0.least_env, fairChoices_fair.cas, fairChoices_fair.clock, w_frames, w_args, w_heap, w_applies, trivial, trivial, w_case⟩
end start1
theorem witness_1 : WitnessClaimed_1 := ⟨start1.p0, start1.e0, start1.about1, start1.theMethod, start1.args0, start1.below0, start1.atStart⟩
end Jvm.Pilot.@@N@@
