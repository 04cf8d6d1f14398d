import JvmDerived
import JvmDerived.Pilot.@@N@@Statement
import JvmDerived.Pilot.@@N@@Code
set_option linter.unusedVariables false
set_option linter.unusedSimpArgs false
@@BLOCK:NumsL.lean.txt@@
namespace Jvm.Pilot.@@N@@
open Jvm Jvm.ClassFile Sem Op Lib Jvm.Free Jvm.Stand Jvm.LawKit Jvm.RoadKit Bundle Jvm.Pilot.@@N@@.Jvm.D
/-- Java's x >>> y on longs -/
def own_uL (x : Int64) (y : Int32) : Int64 := (x.toUInt64 >>> (y &&& 63).toInt64.toUInt64).toInt64
section Own
variable {p : Program} {l : Launch} {e : Env} {R : Room} {s : State} {m : MethodId} {args : Array Value} {below : List Frame} {meth : Method} {c : Code} {T : State} {locs : List Loc} {cells slots : Nat}
variable {ck sk : Nat} {Q : Option Value → Heap → List Loc → Prop}
/-- the run from u comes to the method's return, and Q holds there -/
def oF (p : Program) (e : Env) (below : List Frame) (s : State) (ck sk : Nat) (Q : Option Value → Heap → List Loc → Prop) (u : State) : Prop :=
  ∃ t o, Steps p.tables e below u t ∧ t.status = .running ∧ Ended t below o ∧ ∃ v L, o = .returned v ∧ Q v t.heap L ∧ FrameEnd s o t L ck sk
theorem oS {u u' : State} (h : ∀ t, Steps p.tables e below u' t → Steps p.tables e below u t) (k : oF p e below s ck sk Q u') : oF p e below s ck sk Q u := by
  obtain ⟨t, o, h1, r⟩ := k
  exact ⟨t, o, h t h1, r⟩
theorem oC {u : State} (X : Stand p l e R s m args below meth c T locs cells slots) {h : Heap} (E : T.heap = h) {f : JFrame}
    (rest : ∀ Tc, Stand p l e R s m args below meth c Tc locs cells slots → Tc.heap = h → oF p e below s ck sk Q (Tc.setTop f))
    (k : (∀ Tc, Stand p l e R s m args below meth c Tc locs cells slots → Tc.heap = h → oF p e below s ck sk Q (Tc.setTop f)) → oF p e below s ck sk Q u) : oF p e below s ck sk Q u := k rest
theorem oCA {u : State} (X : Stand p l e R s m args below meth c T locs cells slots) {h : Heap} (E : T.heap = h) {f : Addr → JFrame}
    (rest : ∀ z Tc, Stand p l e R s m args below meth c Tc locs cells slots → Tc.heap = h → oF p e below s ck sk Q (Tc.setTop (f z)))
    (k : (∀ z Tc, Stand p l e R s m args below meth c Tc locs cells slots → Tc.heap = h → oF p e below s ck sk Q (Tc.setTop (f z))) → oF p e below s ck sk Q u) : oF p e below s ck sk Q u := k rest
theorem own_ret (X : Stand p l e R s m args below meth c T locs cells slots) (hlk : meth.locks = false) {v : Option Value} (hv : meth.sig.returnType = none → v = none) {g : JFrame}
    (st : ∀ fs, (∀ (f : JFrame) (acts : List Action), f.method = m → f.locked = none → f.entered = [] → (doReturn e (T.setTop f) acts v).1 = T.setFrames fs) → Steps p.tables e below (T.setTop g) (T.setFrames fs))
    (hQ : Q v T.heap locs) (hc : cells ≤ ck) (hs : slots ≤ sk) : oF p e below s ck sk Q (T.setTop g) := by
  obtain ⟨fs, hr, hrun, hended, hW, hsame⟩ := X.leave (v := v) hv hlk
  exact ⟨_, _, st fs hr, hrun, hended, v, locs, rfl, hQ, ⟨_, rfl⟩, hW, hsame.mono hc hs⟩
theorem own_retI (X : Stand p l e R s m args below meth c T locs cells slots) (hx : p.tables.exec = Jvm.exec) (hlk : meth.locks = false) {pc : Nat} {Ls : Array Slot} {z : Int32} {rest : List Value} (hret : meth.sig.returnType = some .int)
    (hd : decode c.code pc = .ok (.ireturn, 1)) (hQ : Q (some (.int z)) T.heap locs) (hc : cells ≤ ck) (hs : slots ≤ sk) : oF p e below s ck sk Q (T.setTop (mkF m pc Ls (.int z :: rest))) :=
  own_ret X hlk (fun h => by rw [hret] at h; cases h) (fun fs hl => retOut X hx hret rfl (Or.inl ⟨rfl, Or.inl rfl, _, rfl⟩) hd hl) hQ hc hs
theorem own_retJ (X : Stand p l e R s m args below meth c T locs cells slots) (hx : p.tables.exec = Jvm.exec) (hlk : meth.locks = false) {pc : Nat} {Ls : Array Slot} {z : Int64} {rest : List Value} (hret : meth.sig.returnType = some .long)
    (hd : decode c.code pc = .ok (.lreturn, 1)) (hQ : Q (some (.long z)) T.heap locs) (hc : cells ≤ ck) (hs : slots ≤ sk) : oF p e below s ck sk Q (T.setTop (mkF m pc Ls (.long z :: rest))) :=
  own_ret X hlk (fun h => by rw [hret] at h; cases h) (fun fs hl => retOut X hx hret rfl (Or.inr (Or.inl ⟨rfl, rfl, _, rfl⟩)) hd hl) hQ hc hs
theorem own_retD (X : Stand p l e R s m args below meth c T locs cells slots) (hx : p.tables.exec = Jvm.exec) (hlk : meth.locks = false) {pc : Nat} {Ls : Array Slot} {z : UInt64} {rest : List Value} (hret : meth.sig.returnType = some .double)
    (hd : decode c.code pc = .ok (.dreturn, 1)) (hQ : Q (some (.double z)) T.heap locs) (hc : cells ≤ ck) (hs : slots ≤ sk) : oF p e below s ck sk Q (T.setTop (mkF m pc Ls (.double z :: rest))) :=
  own_ret X hlk (fun h => by rw [hret] at h; cases h) (fun fs hl => retOut X hx hret rfl (Or.inr (Or.inr (Or.inl ⟨rfl, rfl, _, rfl⟩))) hd hl) hQ hc hs
theorem own_retA (X : Stand p l e R s m args below meth c T locs cells slots) (hx : p.tables.exec = Jvm.exec) (hlk : meth.locks = false) {pc : Nat} {Ls : Array Slot} {w : Value} {t : FieldType} {rest : List Value} (hret : meth.sig.returnType = some t) (ht : t.isReference = true) (hr : w.isRef = true)
    (hd : decode c.code pc = .ok (.areturn, 1)) (hQ : Q (some w) T.heap locs) (hc : cells ≤ ck) (hs : slots ≤ sk) : oF p e below s ck sk Q (T.setTop (mkF m pc Ls (w :: rest))) :=
  own_ret X hlk (fun h => by rw [hret] at h; cases h) (fun fs hl => retOut X hx hret (by cases t <;> first | (cases ht; done) | (cases w <;> first | rfl | (cases hr; done))) (Or.inr (Or.inr (Or.inr (Or.inr ⟨rfl, ht, hr⟩)))) hd hl) hQ hc hs
theorem own_retN (X : Stand p l e R s m args below meth c T locs cells slots) (hx : p.tables.exec = Jvm.exec) (hlk : meth.locks = false) {pc : Nat} {Ls : Array Slot} {z : Int32} {t : FieldType} {rest : List Value} (hret : meth.sig.returnType = some t) (ht : t = .boolean ∨ t = .byte ∨ t = .char ∨ t = .short)
    (hd : decode c.code pc = .ok (.ireturn, 1)) (hQ : Q (some (.int (nar t z))) T.heap locs) (hc : cells ≤ ck) (hs : slots ≤ sk) : oF p e below s ck sk Q (T.setTop (mkF m pc Ls (.int z :: rest))) :=
  own_ret X hlk (fun h => by rw [hret] at h; cases h) (fun fs hl => retN X hx hret ht hd hl) hQ hc hs
theorem own_ret0 (X : Stand p l e R s m args below meth c T locs cells slots) (hx : p.tables.exec = Jvm.exec) (hlk : meth.locks = false) {pc : Nat} {Ls : Array Slot} (hret : meth.sig.returnType = none)
    (hd : decode c.code pc = .ok (.return_, 1)) (hQ : Q none T.heap locs) (hc : cells ≤ ck) (hs : slots ≤ sk) : oF p e below s ck sk Q (T.setTop (mkF m pc Ls [])) :=
  own_ret X hlk (fun _ => rfl) (fun fs hl => X.returnOut hx hret hd hl) hQ hc hs
/-- a body's contract: called with as' on the heap h it returns, and Q says what it leaves -/
def own_Con (l : Launch) (Z : State) (ws : List Jvm.Cond) (y : MethodName) (bytes : ByteArray) (maxL : Nat) (rt : Option FieldType) (rm : Room) (as' : Array Value) (h : Heap) (Q : Option Value → Heap → List Loc → Prop) : Prop :=
  MetFree l y (head1 (Jvm.Cond.code y bytes maxL rt :: ws) rm) (fun a U => a = as' ∧ Z.Warmed39 U.vm ∧ U.heap = h) (fun _ _ _ _ _ => True) (fun _ U o U' => ∃ v L, o = .returned v ∧ Q v U'.heap L ∧ FrameEnd U o U' L rm.cells rm.slots)
/-- it returns r, and the heap is as it was -/
def own_Q1 (r : Option Value) (h : Heap) : Option Value → Heap → List Loc → Prop := fun v h' L => v = r ∧ h' = h ∧ L = []
variable {Z : State} {a0 : Array Value} {h h' : Heap}
theorem own_body {ws : List Jvm.Cond} {y : MethodName} {bytes : ByteArray} {maxL : Nat} {rt : Option FieldType} {rm : Room} {as' : Array Value} (hpn : plainFor y = true)
    (H : ∀ (p : Program) (e : Env) (s : State) (m : MethodId) (below : List Frame) (meth : Method) (c : Code) (s₁ : State), Stand p l e rm s m as' below meth c s₁ [] 0 0 → p.tables.exec = Jvm.exec → c.code = bytes → c.maxLocals = maxL → meth.sig.returnType = rt → meth.locks = false → s.vm.findClass y.cls = some m.cls → meth.name = y.name → Z.Warmed39 s.vm → s₁.heap = h →
      oF p e below s rm.cells rm.slots Q (s₁.setTop (entryFrame m as' maxL))) : own_Con l Z ws y bytes maxL rt rm as' h Q := by
  refine MetFree.of_bodySF hpn hisR ?_
  intro p e s m args below meth c s₁ Bd hml0 hP hK
  obtain ⟨rfl, hZ, hh⟩ := hP
  exact H p e s m below meth c s₁ (Stand.of_body Bd) Bd.exec Bd.bytes hml0 Bd.returns (BodyLoose.notSynchronized Bd) (findClass_of_methodNamed Bd.named) (name_of_methodNamed Bd.named Bd.method).1 hZ (by rw [← hh, Bd.state]; rfl)
theorem own_callS (X : Stand p l e R s m args below meth c T locs cells slots) (hx : p.tables.exec = Jvm.exec) (hZ : Z.Warmed39 s.vm) {own : String} {index : Nat} {y : MethodName} {bytes : ByteArray} {maxL : Nat} {rt : Option FieldType} (hown : s.vm.findClass own = some m.cls)
    (w1 : (Jvm.Cond.methodLink own index y).before a0 Z = true) (w2 : (Jvm.Cond.static y).before a0 Z = true) (w4 : (Jvm.Cond.code y bytes maxL rt).before a0 Z = true) (w3 : (Jvm.Cond.initialized y.cls).before a0 Z = true) (hy : y.cls ≠ "java/lang/invoke/MethodHandle" ∧ y.cls ≠ "java/lang/invoke/VarHandle")
    (eT : T.heap = h) {rm : Room} {W : Nat} {argsL rest : List Value} (K : own_Con l Z [] y bytes maxL rt rm argsL.toArray h Q) (hf : rm.frames + 1 ≤ R.frames) (hl : W + (maxL + 11) + rm.locals ≤ R.locals)
    {g : JFrame} (hg : g.method = m) (hsize : g.locals.size = c.maxLocals) (hlen : ∀ sig, parseMethodDescriptor y.desc = some sig → argsL.length = sig.parameters.length)
    (hstack : g.stack = argsL.reverse ++ rest) (hW : 2 * g.monitorRoom + (rest.map fun v => v.category).sum ≤ W) (hdg : decode c.code g.pc = .ok (.invokestatic index, 3)) (hc : cells + rm.cells ≤ R.cells) (hs : slots + rm.slots ≤ R.slots) :
    ∃ (v : Option Value) (T' : State) (L : List Loc), Stand p l e R s m args below meth c T' (locs ++ L) (cells + rm.cells) (slots + rm.slots) ∧ Q v T'.heap L ∧
      ∀ target, Steps p.tables e below (T'.setTop { g with pc := g.pc + 3, stack := v.toList ++ rest }) target → Steps p.tables e below (T.setTop g) target := by
  obtain ⟨v, _, ⟨T', L', k', n'⟩, -, X', ⟨L, hQ, q1, q2, q3⟩, st⟩ := Jvm.LawKit.callS X hx hown (mvT hZ w1) (mvT hZ w2) (mvT hZ w3) (mvT hZ w4) hy (backOf (W := W) K hZ w4 w3 hf hl) hg hsize hlen hstack hW hdg (fun _ _ => ⟨rfl, eT, hc, hs⟩)
  dsimp only [Pt.U, Pt.locs, Pt.cells, Pt.slots] at X' q1 q2 q3 st hQ
  subst q1 q2 q3
  exact ⟨v, T', L, X', hQ, st⟩
theorem own_callSP (X : Stand p l e R s m args below meth c T locs cells slots) (hx : p.tables.exec = Jvm.exec) (hZ : Z.Warmed39 s.vm) {own : String} {index : Nat} {y : MethodName} {bytes : ByteArray} {maxL : Nat} {rt : Option FieldType} (hown : s.vm.findClass own = some m.cls)
    (w1 : (Jvm.Cond.methodLink own index y).before a0 Z = true) (w2 : (Jvm.Cond.static y).before a0 Z = true) (w4 : (Jvm.Cond.code y bytes maxL rt).before a0 Z = true) (w3 : (Jvm.Cond.initialized y.cls).before a0 Z = true) (hy : y.cls ≠ "java/lang/invoke/MethodHandle" ∧ y.cls ≠ "java/lang/invoke/VarHandle")
    (eT : T.heap = h) {rf rl : Nat} {W : Nat} {argsL rest : List Value} {r : Value} (K : own_Con l Z [] y bytes maxL rt { frames := rf, cells := 0, slots := 0, locals := rl } argsL.toArray h (own_Q1 (some r) h)) (hf : rf + 1 ≤ R.frames) (hl : W + (maxL + 11) + rl ≤ R.locals)
    {g : JFrame} (hg : g.method = m) (hsize : g.locals.size = c.maxLocals) (hlen : ∀ sig, parseMethodDescriptor y.desc = some sig → argsL.length = sig.parameters.length)
    (hstack : g.stack = argsL.reverse ++ rest) (hW : 2 * g.monitorRoom + (rest.map fun v => v.category).sum ≤ W) (hdg : decode c.code g.pc = .ok (.invokestatic index, 3)) (hc : cells ≤ R.cells) (hs : slots ≤ R.slots) :
    ∃ T' : State, Stand p l e R s m args below meth c T' locs cells slots ∧ T'.heap = h ∧
      ∀ target, Steps p.tables e below (T'.setTop { g with pc := g.pc + 3, stack := r :: rest }) target → Steps p.tables e below (T.setTop g) target := by
  obtain ⟨v, T', L, X', ⟨rfl, hh, rfl⟩, st⟩ := own_callS X hx hZ hown w1 w2 w4 w3 hy eT (W := W) K hf hl hg hsize hlen hstack hW hdg hc hs
  rw [List.append_nil] at X'
  exact ⟨T', X', hh, st⟩
theorem own_callI (X : Stand p l e R s m args below meth c T locs cells slots) (hx : p.tables.exec = Jvm.exec) (hZ : Z.Warmed39 s.vm) {own : String} {index : Nat} {y : MethodName} (hy1 : y.name = "<init>") {bytes : ByteArray} {maxL : Nat} (hown : s.vm.findClass own = some m.cls)
    (w1 : (Jvm.Cond.methodLink own index y).before a0 Z = true) (w2 : (Jvm.Cond.instanceMethod y).before a0 Z = true) (w4 : (Jvm.Cond.code y bytes maxL none).before a0 Z = true) (w3 : (Jvm.Cond.initialized y.cls).before a0 Z = true) (hy : y.cls ≠ "java/lang/invoke/MethodHandle" ∧ y.cls ≠ "java/lang/invoke/VarHandle")
    (eT : T.heap = h) {rm : Room} {W : Nat} {a : Addr} {argsL rest : List Value} (K : own_Con l Z [] y bytes maxL none rm (.ref a :: argsL).toArray h Q) (hf : rm.frames + 1 ≤ R.frames) (hl : W + (maxL + 11) + rm.locals ≤ R.locals)
    {g : JFrame} (hg : g.method = m) (hsize : g.locals.size = c.maxLocals) (hlen : ∀ sig, parseMethodDescriptor y.desc = some sig → argsL.length = sig.parameters.length)
    (hstack : g.stack = argsL.reverse ++ .ref a :: rest) (hW : 2 * g.monitorRoom + (rest.map fun v => v.category).sum ≤ W) (hdg : decode c.code g.pc = .ok (.invokespecial index, 3)) (hc : cells + rm.cells ≤ R.cells) (hs : slots + rm.slots ≤ R.slots) :
    ∃ (v : Option Value) (T' : State) (L : List Loc), Stand p l e R s m args below meth c T' (locs ++ L) (cells + rm.cells) (slots + rm.slots) ∧ Q v T'.heap L ∧
      ∀ target, Steps p.tables e below (T'.setTop { g with pc := g.pc + 3, stack := v.toList ++ rest }) target → Steps p.tables e below (T.setTop g) target := by
  obtain ⟨v, _, ⟨T', L', k', n'⟩, -, X', ⟨L, hQ, q1, q2, q3⟩, st⟩ := X.specialBack hx hy1 hown (mvT hZ w1) (mvT hZ w2) (mvT hZ w4) hy (backOf (W := W) K hZ w4 w3 hf hl) hg hsize (Steps.refl _) (a := a) hlen hstack hW hdg (fun _ _ => ⟨rfl, eT, hc, hs⟩)
  dsimp only [Pt.U, Pt.locs, Pt.cells, Pt.slots] at X' q1 q2 q3 st hQ
  subst q1 q2 q3
  exact ⟨v, T', L, X', hQ, fun t k => st.trans k⟩
theorem own_callIP (X : Stand p l e R s m args below meth c T locs cells slots) (hx : p.tables.exec = Jvm.exec) (hZ : Z.Warmed39 s.vm) {own : String} {index : Nat} {y : MethodName} (hy1 : y.name = "<init>") {bytes : ByteArray} {maxL : Nat} (hown : s.vm.findClass own = some m.cls)
    (w1 : (Jvm.Cond.methodLink own index y).before a0 Z = true) (w2 : (Jvm.Cond.instanceMethod y).before a0 Z = true) (w4 : (Jvm.Cond.code y bytes maxL none).before a0 Z = true) (w3 : (Jvm.Cond.initialized y.cls).before a0 Z = true) (hy : y.cls ≠ "java/lang/invoke/MethodHandle" ∧ y.cls ≠ "java/lang/invoke/VarHandle")
    (eT : T.heap = h) {rf rl : Nat} {W : Nat} {a : Addr} {argsL rest : List Value} (K : own_Con l Z [] y bytes maxL none { frames := rf, cells := 0, slots := 0, locals := rl } (.ref a :: argsL).toArray h (own_Q1 none h)) (hf : rf + 1 ≤ R.frames) (hl : W + (maxL + 11) + rl ≤ R.locals)
    {g : JFrame} (hg : g.method = m) (hsize : g.locals.size = c.maxLocals) (hlen : ∀ sig, parseMethodDescriptor y.desc = some sig → argsL.length = sig.parameters.length)
    (hstack : g.stack = argsL.reverse ++ .ref a :: rest) (hW : 2 * g.monitorRoom + (rest.map fun v => v.category).sum ≤ W) (hdg : decode c.code g.pc = .ok (.invokespecial index, 3)) (hc : cells ≤ R.cells) (hs : slots ≤ R.slots) :
    ∃ T' : State, Stand p l e R s m args below meth c T' locs cells slots ∧ T'.heap = h ∧
      ∀ target, Steps p.tables e below (T'.setTop { g with pc := g.pc + 3, stack := rest }) target → Steps p.tables e below (T.setTop g) target := by
  obtain ⟨v, T', L, X', ⟨rfl, hh, rfl⟩, st⟩ := own_callI X hx hZ hy1 hown w1 w2 w4 w3 hy eT (W := W) K hf hl hg hsize hlen hstack hW hdg hc hs
  rw [List.append_nil] at X'
  exact ⟨T', X', hh, st⟩
theorem own_callV (X : Stand p l e R s m args below meth c T locs cells slots) (hx : p.tables.exec = Jvm.exec) (hZ : Z.Warmed39 s.vm) {own C : String} {index : Nat} {y z : MethodName} {bytes : ByteArray} {maxL : Nat} {rt : Option FieldType} (hown : s.vm.findClass own = some m.cls)
    (w1 : (Jvm.Cond.methodLink own index y).before a0 Z = true) (w2 : (Jvm.Cond.declares y).before a0 Z = true) (hnf : NotFace s y) (ws : (Jvm.Cond.selects C y z).before a0 Z = true) (wi : (Jvm.Cond.instanceMethod z).before a0 Z = true) (hy : y.cls ≠ "java/lang/invoke/MethodHandle" ∧ y.cls ≠ "java/lang/invoke/VarHandle")
    (eT : T.heap = h) {b : Addr} (E : Exa Z h b C) {rm : Room} {W : Nat} {argsL rest : List Value} (K : own_Con l Z [] z bytes maxL rt rm (.ref b :: argsL).toArray h Q) (w4 : (Jvm.Cond.code z bytes maxL rt).before a0 Z = true) (w3 : (Jvm.Cond.initialized z.cls).before a0 Z = true) (hf : rm.frames + 1 ≤ R.frames) (hl : W + (maxL + 11) + rm.locals ≤ R.locals)
    {g : JFrame} (hg : g.method = m) (hsize : g.locals.size = c.maxLocals) (hlen : ∀ sig, parseMethodDescriptor y.desc = some sig → argsL.length = sig.parameters.length)
    (hstack : g.stack = argsL.reverse ++ .ref b :: rest) (hW : 2 * g.monitorRoom + (rest.map fun v => v.category).sum ≤ W) (hdg : decode c.code g.pc = .ok (.invokevirtual index, 3)) (hc : cells + rm.cells ≤ R.cells) (hs : slots + rm.slots ≤ R.slots) :
    ∃ (v : Option Value) (T' : State) (L : List Loc), Stand p l e R s m args below meth c T' (locs ++ L) (cells + rm.cells) (slots + rm.slots) ∧ Q v T'.heap L ∧
      ∀ target, Steps p.tables e below (T'.setTop { g with pc := g.pc + 3, stack := v.toList ++ rest }) target → Steps p.tables e below (T.setTop g) target := by
  obtain ⟨cq, kq, qa, qb, qc⟩ := isOf hZ eT E
  obtain ⟨v, _, ⟨T', L', k', n'⟩, -, X', ⟨L, hQ, q1, q2, q3⟩, st⟩ := X.virtualBack hx hown (mvT hZ w1) (mvT hZ w2) hnf (mvT hZ ws) (mvT hZ wi) hy (backOf (W := W) K hZ w4 w3 hf hl) qa qc hg hsize (Steps.refl _) hlen hstack hW hdg (fun _ _ => ⟨rfl, eT, hc, hs⟩)
  dsimp only [Pt.U, Pt.locs, Pt.cells, Pt.slots] at X' q1 q2 q3 st hQ
  subst q1 q2 q3
  exact ⟨v, T', L, X', hQ, fun t k => st.trans k⟩
theorem own_callVP (X : Stand p l e R s m args below meth c T locs cells slots) (hx : p.tables.exec = Jvm.exec) (hZ : Z.Warmed39 s.vm) {own C : String} {index : Nat} {y z : MethodName} {bytes : ByteArray} {maxL : Nat} {rt : Option FieldType} (hown : s.vm.findClass own = some m.cls)
    (w1 : (Jvm.Cond.methodLink own index y).before a0 Z = true) (w2 : (Jvm.Cond.declares y).before a0 Z = true) (hnf : NotFace s y) (ws : (Jvm.Cond.selects C y z).before a0 Z = true) (wi : (Jvm.Cond.instanceMethod z).before a0 Z = true) (hy : y.cls ≠ "java/lang/invoke/MethodHandle" ∧ y.cls ≠ "java/lang/invoke/VarHandle")
    (eT : T.heap = h) {b : Addr} (E : Exa Z h b C) {rf rl : Nat} {W : Nat} {argsL rest : List Value} {r : Value} (K : own_Con l Z [] z bytes maxL rt { frames := rf, cells := 0, slots := 0, locals := rl } (.ref b :: argsL).toArray h (own_Q1 (some r) h)) (w4 : (Jvm.Cond.code z bytes maxL rt).before a0 Z = true) (w3 : (Jvm.Cond.initialized z.cls).before a0 Z = true) (hf : rf + 1 ≤ R.frames) (hl : W + (maxL + 11) + rl ≤ R.locals)
    {g : JFrame} (hg : g.method = m) (hsize : g.locals.size = c.maxLocals) (hlen : ∀ sig, parseMethodDescriptor y.desc = some sig → argsL.length = sig.parameters.length)
    (hstack : g.stack = argsL.reverse ++ .ref b :: rest) (hW : 2 * g.monitorRoom + (rest.map fun v => v.category).sum ≤ W) (hdg : decode c.code g.pc = .ok (.invokevirtual index, 3)) (hc : cells ≤ R.cells) (hs : slots ≤ R.slots) :
    ∃ T' : State, Stand p l e R s m args below meth c T' locs cells slots ∧ T'.heap = h ∧
      ∀ target, Steps p.tables e below (T'.setTop { g with pc := g.pc + 3, stack := r :: rest }) target → Steps p.tables e below (T.setTop g) target := by
  obtain ⟨v, T', L, X', ⟨rfl, hh, rfl⟩, st⟩ := own_callV X hx hZ hown w1 w2 hnf ws wi hy eT E (W := W) K w4 w3 hf hl hg hsize hlen hstack hW hdg hc hs
  rw [List.append_nil] at X'
  exact ⟨T', X', hh, st⟩
theorem own_kext {h h' : Heap} (K : Keep h h' []) : Ext h h' := ⟨K.1, fun a c q => K.2.1 a c q nin0⟩
theorem own_callIB (X : Stand p l e R s m args below meth c T locs cells slots) (hx : p.tables.exec = Jvm.exec) (hZ : Z.Warmed39 s.vm) {own : String} {index : Nat} {y : MethodName} (hy1 : y.name = "<init>") {bytes : ByteArray} {maxL : Nat} (hown : s.vm.findClass own = some m.cls)
    (w1 : (Jvm.Cond.methodLink own index y).before a0 Z = true) (w2 : (Jvm.Cond.instanceMethod y).before a0 Z = true) (w4 : (Jvm.Cond.code y bytes maxL none).before a0 Z = true) (hy : y.cls ≠ "java/lang/invoke/MethodHandle" ∧ y.cls ≠ "java/lang/invoke/VarHandle")
    (eT : T.heap = h) {W kc ks : Nat} {a : Addr} {argsL rest : List Value} (K : Back l R p e below s args y 3 W (fun A a' => a' = (.ref a :: argsL).toArray ∧ A.U.heap = h ∧ A.cells + kc ≤ R.cells ∧ A.slots + ks ≤ R.slots) (fun A _ v B => ∃ L, Q v B.U.heap L ∧ B.locs = A.locs ++ L ∧ B.cells = A.cells + kc ∧ B.slots = A.slots + ks))
    {g : JFrame} (hg : g.method = m) (hsize : g.locals.size = c.maxLocals) (hlen : ∀ sig, parseMethodDescriptor y.desc = some sig → argsL.length = sig.parameters.length)
    (hstack : g.stack = argsL.reverse ++ .ref a :: rest) (hW : 2 * g.monitorRoom + (rest.map fun v => v.category).sum ≤ W) (hdg : decode c.code g.pc = .ok (.invokespecial index, 3)) (hc : cells + kc ≤ R.cells) (hs : slots + ks ≤ R.slots) :
    ∃ (v : Option Value) (T' : State) (L : List Loc), Stand p l e R s m args below meth c T' (locs ++ L) (cells + kc) (slots + ks) ∧ Q v T'.heap L ∧
      ∀ target, Steps p.tables e below (T'.setTop { g with pc := g.pc + 3, stack := v.toList ++ rest }) target → Steps p.tables e below (T.setTop g) target := by
  obtain ⟨v, _, ⟨T', L', k', n'⟩, -, X', ⟨L, hQ, q1, q2, q3⟩, st⟩ := X.specialBack hx hy1 hown (mvT hZ w1) (mvT hZ w2) (mvT hZ w4) hy K hg hsize (Steps.refl _) (a := a) hlen hstack hW hdg (fun _ _ => ⟨rfl, eT, hc, hs⟩)
  dsimp only [Pt.U, Pt.locs, Pt.cells, Pt.slots] at X' q1 q2 q3 st hQ
  subst q1 q2 q3
  exact ⟨v, T', L, X', hQ, fun t k => st.trans k⟩
theorem own_callVB (X : Stand p l e R s m args below meth c T locs cells slots) (hx : p.tables.exec = Jvm.exec) (hZ : Z.Warmed39 s.vm) {own C : String} {index : Nat} {y z : MethodName} (hown : s.vm.findClass own = some m.cls)
    (w1 : (Jvm.Cond.methodLink own index y).before a0 Z = true) (w2 : (Jvm.Cond.declares y).before a0 Z = true) (hnf : NotFace s y) (ws : (Jvm.Cond.selects C y z).before a0 Z = true) (wi : (Jvm.Cond.instanceMethod z).before a0 Z = true) (hy : y.cls ≠ "java/lang/invoke/MethodHandle" ∧ y.cls ≠ "java/lang/invoke/VarHandle")
    (eT : T.heap = h) {b : Addr} (E : Exa Z h b C) {W kc ks : Nat} {argsL rest : List Value} (K : Back l R p e below s args z 3 W (fun A a' => a' = (.ref b :: argsL).toArray ∧ A.U.heap = h ∧ A.cells + kc ≤ R.cells ∧ A.slots + ks ≤ R.slots) (fun A _ v B => ∃ L, Q v B.U.heap L ∧ B.locs = A.locs ++ L ∧ B.cells = A.cells + kc ∧ B.slots = A.slots + ks))
    {g : JFrame} (hg : g.method = m) (hsize : g.locals.size = c.maxLocals) (hlen : ∀ sig, parseMethodDescriptor y.desc = some sig → argsL.length = sig.parameters.length)
    (hstack : g.stack = argsL.reverse ++ .ref b :: rest) (hW : 2 * g.monitorRoom + (rest.map fun v => v.category).sum ≤ W) (hdg : decode c.code g.pc = .ok (.invokevirtual index, 3)) (hc : cells + kc ≤ R.cells) (hs : slots + ks ≤ R.slots) :
    ∃ (v : Option Value) (T' : State) (L : List Loc), Stand p l e R s m args below meth c T' (locs ++ L) (cells + kc) (slots + ks) ∧ Q v T'.heap L ∧
      ∀ target, Steps p.tables e below (T'.setTop { g with pc := g.pc + 3, stack := v.toList ++ rest }) target → Steps p.tables e below (T.setTop g) target := by
  obtain ⟨cq, kq, qa, qb, qc⟩ := isOf hZ eT E
  obtain ⟨v, _, ⟨T', L', k', n'⟩, -, X', ⟨L, hQ, q1, q2, q3⟩, st⟩ := X.virtualBack hx hown (mvT hZ w1) (mvT hZ w2) hnf (mvT hZ ws) (mvT hZ wi) hy K qa qc hg hsize (Steps.refl _) hlen hstack hW hdg (fun _ _ => ⟨rfl, eT, hc, hs⟩)
  dsimp only [Pt.U, Pt.locs, Pt.cells, Pt.slots] at X' q1 q2 q3 st hQ
  subst q1 q2 q3
  exact ⟨v, T', L, X', hQ, fun t k => st.trans k⟩
theorem own_cl_eq {x y : Int64} (h : x = y) : Jvm.Free.XT.cmpL x y = 0 := by
  subst h; unfold Jvm.Free.XT.cmpL
  rw [if_neg (by rw [Int64.lt_iff_toInt_lt]; omega), if_pos rfl]
theorem own_cl_eq_n {x y : Int64} (h : ¬ x = y) : ¬ Jvm.Free.XT.cmpL x y = 0 := by
  unfold Jvm.Free.XT.cmpL
  by_cases h1 : y < x
  · rw [if_pos h1]; decide
  · rw [if_neg h1, if_neg h]; decide
theorem own_cl_gt {x y : Int64} (h : y < x) : (0 : Int32) < Jvm.Free.XT.cmpL x y := by
  unfold Jvm.Free.XT.cmpL; rw [if_pos h]; decide
theorem own_cl_gt_n {x y : Int64} (h : ¬ y < x) : ¬ (0 : Int32) < Jvm.Free.XT.cmpL x y := by
  unfold Jvm.Free.XT.cmpL; rw [if_neg h]
  by_cases h1 : x = y
  · rw [if_pos h1]; decide
  · rw [if_neg h1]; decide
theorem own_cl_lt {x y : Int64} (h : x < y) : Jvm.Free.XT.cmpL x y < (0 : Int32) := by
  unfold Jvm.Free.XT.cmpL
  rw [if_neg (by rw [Int64.lt_iff_toInt_lt] at h ⊢; omega), if_neg (by intro q; subst q; rw [Int64.lt_iff_toInt_lt] at h; omega)]; decide
theorem own_cl_lt_n {x y : Int64} (h : ¬ x < y) : ¬ Jvm.Free.XT.cmpL x y < (0 : Int32) := by
  unfold Jvm.Free.XT.cmpL
  by_cases h1 : y < x
  · rw [if_pos h1]; decide
  · rw [if_neg h1]
    have h2 : x = y := by
      rw [Int64.lt_iff_toInt_lt] at h h1
      exact Int64.toInt_inj.mp (by omega)
    rw [if_pos h2]; decide
theorem own_eq_int {a : Array Value} {s : State} {t : Term} {k : Int32} (h : (Jvm.Cond.eq t (Term.int k)).value a s none s [] = some true) : t.eval a s none [] s = some (.int k) := by
  obtain ⟨x, y, hx, hy, k1, k2⟩ := cmp_v (Or.inl h)
  obtain rfl : y = .int k := Option.some.inj (hy.symm.trans (Term.int_eval k))
  obtain ⟨z, rfl⟩ := k2
  rw [hx, gotT (Cond.eq_ints hx hy) h]
end Own
section OwnFloat
open Jvm.FP.Core
/-- a finite double whose value is n / 2 ^ k -/
def own_V (x : UInt64) (n : Int) (k : Nat) : Prop := ∃ s c q, val64 x = .fin s c q ∧ signed s c * ((2 ^ (q + (k : Int)).toNat : Nat) : Int) = n * ((2 ^ (-(q + (k : Int))).toNat : Nat) : Int)
theorem own_canc {z a : Int} {p m : Nat} {E : Int} (hE : (p : Int) - m = E) (h : z * ((2 ^ p : Nat) : Int) = a * ((2 ^ m : Nat) : Int)) : z * ((2 ^ E.toNat : Nat) : Int) = a * ((2 ^ (-E).toNat : Nat) : Int) := by
  obtain ⟨t, e1, e2⟩ : ∃ t : Nat, p = E.toNat + t ∧ m = (-E).toNat + t := ⟨p - E.toNat, by omega, by omega⟩
  rw [e1, e2, Nat.pow_add, Nat.pow_add, Int.natCast_mul, Int.natCast_mul, ← Int.mul_assoc, ← Int.mul_assoc] at h
  exact Int.eq_of_mul_eq_mul_right (by have := Nat.two_pow_pos t; omega) h
theorem own_cancN {z a : Nat} {p m : Nat} {E : Int} (hE : (p : Int) - m = E) (h : z * 2 ^ p = a * 2 ^ m) : z * 2 ^ E.toNat = a * 2 ^ (-E).toNat := by
  have := own_canc (z := (z : Int)) (a := (a : Int)) hE (by exact_mod_cast h)
  exact_mod_cast this
theorem own_sgn {s : Bool} {A P M : Nat} {n : Int} (hM : 0 < M) (h : signed s A * (P : Int) = n * (M : Int)) : ∃ N : Nat, n = signed s N ∧ A * P = N * M := by
  have hM' : (0 : Int) < (M : Int) := by omega
  cases s with
  | false =>
    have h' : ((A * P : Nat) : Int) = n * (M : Int) := by rw [Int.natCast_mul]; exact h
    have hn : 0 ≤ n := by
      refine Int.le_of_not_gt fun q => ?_
      have := Int.mul_neg_of_neg_of_pos q hM'
      omega
    refine ⟨n.toNat, ?_, ?_⟩
    · show n = ((n.toNat : Nat) : Int); omega
    · have e : n = ((n.toNat : Nat) : Int) := by omega
      rw [e] at h'; exact_mod_cast h'
  | true =>
    have h0 : (-(A : Int)) * (P : Int) = n * (M : Int) := h
    have h' : ((A * P : Nat) : Int) = (-n) * (M : Int) := by rw [Int.natCast_mul, Int.neg_mul, ← h0, Int.neg_mul, Int.neg_neg]
    have hn : 0 ≤ -n := by
      refine Int.le_of_not_gt fun q => ?_
      have := Int.mul_neg_of_neg_of_pos q hM'
      omega
    refine ⟨(-n).toNat, ?_, ?_⟩
    · show n = -(((-n).toNat : Nat) : Int); omega
    · have e : -n = (((-n).toNat : Nat) : Int) := by omega
      rw [e] at h'; exact_mod_cast h'
theorem own_rr {s : Bool} {A B N k : Nat} {e : Int} (hN : N < 2 ^ 53) (hk : k ≤ 1000) (hB : 0 < B) (h : A * 2 ^ (e + (k : Int)).toNat = N * B * 2 ^ (-(e + (k : Int))).toNat) :
    ∃ c q, roundRatio b64 s A B e = .fin s c q ∧ c * 2 ^ (q + (k : Int)).toNat = N * 2 ^ (-(q + (k : Int))).toNat := by
  have hqmin : b64.qmin = -1074 := by decide
  have hqmax : b64.qmax = 971 := by decide
  by_cases h0 : N = 0
  · refine ⟨0, b64.qmin, ?_, by rw [h0, Nat.zero_mul, Nat.zero_mul]⟩
    rw [h0, Nat.zero_mul, Nat.zero_mul] at h
    have := Nat.two_pow_pos (e + (k : Int)).toNat
    rcases Nat.mul_eq_zero.mp h with q | q
    · unfold roundRatio; rw [if_pos q]
    · omega
  · have l1 : 2 ^ N.log2 ≤ N := Nat.log2_self_le h0
    have l2 : N < 2 ^ (N.log2 + 1) := Nat.lt_log2_self
    have l3 : N.log2 < 53 := by
      refine Nat.lt_of_not_le fun q => ?_
      have := Nat.pow_le_pow_right (show 0 < 2 by decide) q
      omega
    generalize N.log2 = L at l1 l2 l3
    obtain ⟨t, ht⟩ : ∃ t, L + t = 52 := ⟨52 - L, by omega⟩
    have c1 : 2 ^ 52 ≤ N * 2 ^ t := by
      have := Nat.mul_le_mul_right (2 ^ t) l1
      rwa [← Nat.pow_add, ht] at this
    have c2 : N * 2 ^ t < 2 ^ 53 := by
      have := Nat.mul_lt_mul_of_pos_right l2 (Nat.two_pow_pos t)
      rwa [← Nat.pow_add, show L + 1 + t = 53 by omega] at this
    refine ⟨N * 2 ^ t, -(k : Int) - t, ?_, ?_⟩
    · refine roundRatio_exact good_b64 hB ⟨c2, by omega, by omega, Or.inr c1⟩ ?_
      have := own_cancN (z := A) (a := N * 2 ^ t * B) (p := (e + (k : Int)).toNat + t) (m := (-(e + (k : Int))).toNat) (E := e - (-(k : Int) - t)) (by omega) (by
        rw [Nat.pow_add, ← Nat.mul_assoc, h]; ac_rfl)
      rw [show -(e - (-(k : Int) - t)) = -(k : Int) - t - e by omega] at this
      exact this
    · rw [show (-(k : Int) - t + (k : Int)).toNat = 0 by omega, show (-(-(k : Int) - t + (k : Int))).toNat = t by omega, Nat.pow_zero, Nat.mul_one]
theorem own_abs_signed (s : Bool) (N : Nat) : (signed s N).natAbs = N := by cases s <;> simp [signed]
theorem own_V_rr {x : UInt64} {s : Bool} {A B k : Nat} {e n : Int} (hx : val64 x = roundRatio b64 s A B e) (hB : 0 < B) (hk : k ≤ 1000) (hn : n.natAbs < 2 ^ 53)
    (h : signed s A * ((2 ^ (e + (k : Int)).toNat : Nat) : Int) = n * ((B * 2 ^ (-(e + (k : Int))).toNat : Nat) : Int)) : own_V x n k := by
  obtain ⟨N, rfl, hN⟩ := own_sgn (Nat.mul_pos hB (Nat.two_pow_pos _)) h
  rw [own_abs_signed] at hn
  obtain ⟨c, q, h1, h2⟩ := own_rr (s := s) hn hk hB (by rw [hN]; ac_rfl)
  refine ⟨s, c, q, hx.trans h1, ?_⟩
  cases s
  · show ((c : Nat) : Int) * _ = ((N : Nat) : Int) * _; exact_mod_cast h2
  · show (-((c : Nat) : Int)) * _ = (-((N : Nat) : Int)) * _
    rw [Int.neg_mul, Int.neg_mul]; congr 1; exact_mod_cast h2
theorem own_V_round {x : UInt64} {s : Bool} {A k : Nat} {e n : Int} (hx : val64 x = round b64 (.fin s A e)) (hk : k ≤ 1000) (hn : n.natAbs < 2 ^ 53)
    (h : signed s A * ((2 ^ (e + (k : Int)).toNat : Nat) : Int) = n * ((2 ^ (-(e + (k : Int))).toNat : Nat) : Int)) : own_V x n k :=
  own_V_rr (B := 1) hx (by decide) hk hn (by rw [Nat.one_mul]; exact h)
theorem own_V_int {x : UInt64} {n : Int} (hx : val64 x = round b64 (ofInt n)) (hn : n.natAbs < 2 ^ 53) : own_V x n 0 := by
  refine own_V_round (s := decide (n < 0)) (A := n.natAbs) (e := 0) hx (by decide) hn ?_
  simp only [Int.natCast_zero, Int.add_zero, Int.toNat_zero, Int.neg_zero, Nat.pow_zero]
  by_cases h : n < 0
  · rw [decide_eq_true h]; show -((n.natAbs : Nat) : Int) * _ = _; omega
  · rw [decide_eq_false h]; show ((n.natAbs : Nat) : Int) * _ = _; omega
theorem own_V_i2d (x : Int32) : own_V (FP.i2d x) x.toInt 0 := own_V_int (val64_i2d x) (by have := Int32.toInt_lt x; have := Int32.le_toInt x; omega)
theorem own_V_l2d {x : Int64} (h : x.toInt.natAbs < 2 ^ 53) : own_V (FP.l2d x) x.toInt 0 := own_V_int (val64_l2d x) h
theorem own_V_up {x : UInt64} {n : Int} {k : Nat} (j : Nat) (h : own_V x n k) : own_V x (n * ((2 ^ j : Nat) : Int)) (k + j) := by
  obtain ⟨s, c, q, h1, h2⟩ := h
  refine ⟨s, c, q, h1, ?_⟩
  refine own_canc (p := (q + (k : Int)).toNat + j) (m := (-(q + (k : Int))).toNat) (by omega) ?_
  rw [Nat.pow_add, Int.natCast_mul, ← Int.mul_assoc, h2, Int.mul_assoc, Int.mul_assoc, Int.mul_comm ((2 ^ j : Nat) : Int)]
theorem own_V_down {x : UInt64} {n : Int} {k : Nat} (j : Nat) (h : own_V x (n * ((2 ^ j : Nat) : Int)) (k + j)) : own_V x n k := by
  obtain ⟨s, c, q, h1, h2⟩ := h
  refine ⟨s, c, q, h1, ?_⟩
  refine own_canc (p := (q + ((k + j : Nat) : Int)).toNat) (m := j + (-(q + ((k + j : Nat) : Int))).toNat) (by omega) ?_
  rw [h2, Nat.pow_add, Int.natCast_mul, ← Int.mul_assoc]
theorem own_signed_mul (s : Bool) (c k : Nat) : signed s (c * k) = signed s c * (k : Int) := signed_mul s c k
theorem own_units {s : Bool} {c k : Nat} {q e n : Int} (he : e ≤ q) (h : signed s c * ((2 ^ (q + (k : Int)).toNat : Nat) : Int) = n * ((2 ^ (-(q + (k : Int))).toNat : Nat) : Int)) :
    signed s (inUnits c q e) * ((2 ^ (e + (k : Int)).toNat : Nat) : Int) = n * ((2 ^ (-(e + (k : Int))).toNat : Nat) : Int) := by
  refine own_canc (p := (q + (k : Int)).toNat) (m := (-(q + (k : Int))).toNat + (q - e).toNat) (by omega) ?_
  unfold inUnits
  rw [signed_mul, Nat.pow_add, Int.natCast_mul, ← Int.mul_assoc, ← h, Int.mul_assoc, Int.mul_assoc, Int.mul_comm ((2 ^ (q - e).toNat : Nat) : Int)]
theorem own_sum_sign (s t : Bool) (v : Int) : signed (sumSign s t v) v.natAbs = v := by
  unfold sumSign
  by_cases h : v = 0
  · rw [h]; simp [signed]
  · rw [if_neg h]
    by_cases h' : v < 0
    · rw [decide_eq_true h']; show -((v.natAbs : Nat) : Int) = v; omega
    · rw [decide_eq_false h']; show ((v.natAbs : Nat) : Int) = v; omega
theorem own_V_sum {x y z : UInt64} {a b : Int} {k : Nat} (hz : ∀ s c q t d r, val64 x = .fin s c q → val64 y = .fin t d r → val64 z = round b64 (exactSum (.fin s c q) (.fin t d r))) (hx : own_V x a k) (hy : own_V y b k) (hk : k ≤ 1000) (hn : (a + b).natAbs < 2 ^ 53) : own_V z (a + b) k := by
  obtain ⟨s, c, q, h1, h2⟩ := hx
  obtain ⟨t, d, r, g1, g2⟩ := hy
  refine own_V_round (hz _ _ _ _ _ _ h1 g1) hk hn ?_
  rw [own_sum_sign]
  unfold sumUnits
  rw [Int.add_mul, own_units (Int.min_le_left q r) h2, own_units (Int.min_le_right q r) g2, Int.add_mul]
theorem own_V_add {x y : UInt64} {a b : Int} {k : Nat} (hx : own_V x a k) (hy : own_V y b k) (hk : k ≤ 1000) (hn : (a + b).natAbs < 2 ^ 53) : own_V (FP.dadd x y) (a + b) k :=
  own_V_sum (fun _ _ _ _ _ _ h1 h2 => by rw [← h1, ← h2]; exact val64_dadd x y) hx hy hk hn
theorem own_V_sub {x y : UInt64} {a b : Int} {k : Nat} (hx : own_V x a k) (hy : own_V y b k) (hk : k ≤ 1000) (hn : (a - b).natAbs < 2 ^ 53) : own_V (FP.dsub x y) (a - b) k := by
  obtain ⟨s, c, q, h1, h2⟩ := hx
  obtain ⟨t, d, r, g1, g2⟩ := hy
  have hv : val64 (FP.dsub x y) = round b64 (exactSum (.fin s c q) (.fin (!t) d r)) := by
    rw [← h1, show Datum.fin (!t) d r = negate (val64 y) by rw [g1]; rfl]; exact val64_dsub x y
  refine own_V_round hv hk hn ?_
  have g3 : signed (!t) d * ((2 ^ (r + (k : Int)).toNat : Nat) : Int) = (-b) * ((2 ^ (-(r + (k : Int))).toNat : Nat) : Int) := by
    rw [show signed (!t) d = -(signed t d) by cases t <;> simp [signed], Int.neg_mul, g2, Int.neg_mul]
  rw [own_sum_sign]
  unfold sumUnits
  rw [Int.add_mul, own_units (Int.min_le_left q r) h2, own_units (Int.min_le_right q r) g3, ← Int.add_mul, Int.sub_eq_add_neg]
theorem own_signed_prod (s t : Bool) (c d : Nat) : signed (s != t) (c * d) = signed s c * signed t d := by
  cases s <;> cases t <;> simp [signed, Int.neg_mul, Int.mul_neg]
theorem own_V_mul {x y : UInt64} {a b : Int} {k l : Nat} (hx : own_V x a k) (hy : own_V y b l) (hk : k + l ≤ 1000) (hn : (a * b).natAbs < 2 ^ 53) : own_V (FP.dmul x y) (a * b) (k + l) := by
  obtain ⟨s, c, q, h1, h2⟩ := hx
  obtain ⟨t, d, r, g1, g2⟩ := hy
  have hv : val64 (FP.dmul x y) = round b64 (.fin (s != t) (c * d) (q + r)) := by
    rw [show Datum.fin (s != t) (c * d) (q + r) = exactProduct (val64 x) (val64 y) by rw [h1, g1]; rfl]; exact val64_dmul x y
  refine own_V_round hv hk hn ?_
  refine own_canc (p := (q + (k : Int)).toNat + (r + (l : Int)).toNat) (m := (-(q + (k : Int))).toNat + (-(r + (l : Int))).toNat) (by omega) ?_
  rw [own_signed_prod, Nat.pow_add, Nat.pow_add, Int.natCast_mul, Int.natCast_mul]
  calc signed s c * signed t d * (((2 ^ (q + (k : Int)).toNat : Nat) : Int) * ((2 ^ (r + (l : Int)).toNat : Nat) : Int))
      = (signed s c * ((2 ^ (q + (k : Int)).toNat : Nat) : Int)) * (signed t d * ((2 ^ (r + (l : Int)).toNat : Nat) : Int)) := by ac_rfl
    _ = (a * ((2 ^ (-(q + (k : Int))).toNat : Nat) : Int)) * (b * ((2 ^ (-(r + (l : Int))).toNat : Nat) : Int)) := by rw [h2, g2]
    _ = _ := by ac_rfl
theorem own_V_div {x y : UInt64} {a b n : Int} {k l j : Nat} (hx : own_V x a k) (hy : own_V y b l) (hb : b ≠ 0) (hj : j ≤ 1000) (hn : n.natAbs < 2 ^ 53) (h : a * ((2 ^ (l + j) : Nat) : Int) = n * b * ((2 ^ k : Nat) : Int)) : own_V (FP.ddiv x y) n j := by
  obtain ⟨s, c, q, h1, h2⟩ := hx
  obtain ⟨t, d, r, g1, g2⟩ := hy
  obtain ⟨A, rfl, hA⟩ := own_sgn (Nat.two_pow_pos _) h2
  obtain ⟨B, rfl, hB⟩ := own_sgn (Nat.two_pow_pos _) g2
  have hB0 : 0 < B := Nat.pos_of_ne_zero fun q => hb (by rw [q]; exact signed_zero t)
  have hd : 0 < d := Nat.pos_of_ne_zero fun q => by
    rw [q, Nat.zero_mul] at hB
    have := Nat.mul_pos hB0 (Nat.two_pow_pos (-(r + (l : Int))).toNat)
    omega
  have hv : val64 (FP.ddiv x y) = roundRatio b64 (s != t) c d (q - r) := by
    have := val64_ddiv x y
    rw [h1, g1] at this
    rw [show val64 (FP.ddiv x y) = quotient b64 (.fin s c q) (.fin t d r) from this]
    show (if d = 0 then _ else _) = _
    rw [if_neg (by omega)]
  have hs : signed (s != t) A * ((2 ^ (l + j) : Nat) : Int) = n * ((B * 2 ^ k : Nat) : Int) := by
    rw [Int.natCast_mul, ← Int.mul_assoc]
    cases s <;> cases t
    · exact h
    · have h' : ((A : Nat) : Int) * ((2 ^ (l + j) : Nat) : Int) = n * (-((B : Nat) : Int)) * ((2 ^ k : Nat) : Int) := h
      show (-((A : Nat) : Int)) * _ = _
      rw [Int.neg_mul, h', Int.mul_neg, Int.neg_mul, Int.neg_neg]
    · have h' : (-((A : Nat) : Int)) * ((2 ^ (l + j) : Nat) : Int) = n * ((B : Nat) : Int) * ((2 ^ k : Nat) : Int) := h
      show (-((A : Nat) : Int)) * _ = _
      exact h'
    · have h' : (-((A : Nat) : Int)) * ((2 ^ (l + j) : Nat) : Int) = n * (-((B : Nat) : Int)) * ((2 ^ k : Nat) : Int) := h
      show ((A : Nat) : Int) * _ = _
      rw [Int.neg_mul, Int.mul_neg, Int.neg_mul] at h'
      exact Int.neg_inj.mp h'
  obtain ⟨N, rfl, hN⟩ := own_sgn (Nat.mul_pos hB0 (Nat.two_pow_pos k)) hs
  rw [own_abs_signed] at hn
  obtain ⟨c', q', r1, r2⟩ := own_rr (s := s != t) (A := c) (B := d) (N := N) (k := j) (e := q - r) hn hj hd (by
    refine own_cancN (p := (q + (k : Int)).toNat + (l + j) + (-(r + (l : Int))).toNat) (m := (r + (l : Int)).toNat + k + (-(q + (k : Int))).toNat) (by omega) ?_
    have pw : ∀ u v w : Nat, 2 ^ (u + v + w) = 2 ^ u * 2 ^ v * 2 ^ w := fun u v w => by rw [Nat.pow_add, Nat.pow_add]
    rw [pw, pw]
    calc c * (2 ^ (q + (k : Int)).toNat * 2 ^ (l + j) * 2 ^ (-(r + (l : Int))).toNat)
        = (c * 2 ^ (q + (k : Int)).toNat) * (2 ^ (l + j) * 2 ^ (-(r + (l : Int))).toNat) := by ac_rfl
      _ = (A * 2 ^ (l + j)) * (2 ^ (-(q + (k : Int))).toNat * 2 ^ (-(r + (l : Int))).toNat) := by rw [hA]; ac_rfl
      _ = (B * 2 ^ (-(r + (l : Int))).toNat) * (N * 2 ^ k * 2 ^ (-(q + (k : Int))).toNat) := by rw [hN]; ac_rfl
      _ = _ := by rw [← hB]; ac_rfl)
  refine ⟨s != t, c', q', hv.trans r1, ?_⟩
  cases s != t
  · show ((c' : Nat) : Int) * _ = ((N : Nat) : Int) * _; exact_mod_cast r2
  · show (-((c' : Nat) : Int)) * _ = (-((N : Nat) : Int)) * _
    rw [Int.neg_mul, Int.neg_mul]; congr 1; exact_mod_cast r2
theorem own_cmp_scale {z w a b : Int} {P M : Nat} (hP : 0 < P) (hM : 0 < M) (h1 : z * (P : Int) = a * (M : Int)) (h2 : w * (P : Int) = b * (M : Int)) : compare z w = compare a b := by
  have hP' : (0 : Int) < (P : Int) := by omega
  have hM' : (0 : Int) < (M : Int) := by omega
  have key : ∀ {z w a b : Int}, z * (P : Int) = a * (M : Int) → w * (P : Int) = b * (M : Int) → z < w → a < b := by
    intro z w a b h1 h2 h
    have := Int.mul_lt_mul_of_pos_right h hP'
    rw [h1, h2] at this
    exact Int.lt_of_mul_lt_mul_right this (Int.le_of_lt hM')
  rcases Int.lt_trichotomy z w with h | h | h
  · rw [show compare z w = .lt from Int.compare_eq_lt.mpr h, show compare a b = .lt from Int.compare_eq_lt.mpr (key h1 h2 h)]
  · subst h
    have : a = b := Int.eq_of_mul_eq_mul_right (Int.ne_of_gt hM') (h1.symm.trans h2)
    rw [this, show compare z z = .eq from Int.compare_eq_eq.mpr rfl, show compare b b = .eq from Int.compare_eq_eq.mpr rfl]
  · rw [show compare z w = .gt from Int.compare_eq_gt.mpr h, show compare a b = .gt from Int.compare_eq_gt.mpr (key h2 h1 h)]
theorem own_V_cmp {x y : UInt64} {a b : Int} {k : Nat} (hx : own_V x a k) (hy : own_V y b k) : FP.dcmp x y = some (compare a b) := by
  obtain ⟨s, c, q, h1, h2⟩ := hx
  obtain ⟨t, d, r, g1, g2⟩ := hy
  show order (val64 x) (val64 y) = _
  rw [h1, g1]
  show some (compare _ _) = _
  rw [own_cmp_scale (Nat.two_pow_pos _) (Nat.two_pow_pos _) (own_units (Int.min_le_left q r) h2) (own_units (Int.min_le_right q r) g2)]
theorem own_V_nn {x : UInt64} {n : Int} {k : Nat} (h : own_V x n k) : val64 x ≠ .nan := by
  obtain ⟨s, c, q, h1, -⟩ := h
  rw [h1]; intro q; cases q
theorem own_V_no {x : UInt64} {n : Int} {k : Nat} (h : own_V x n k) : Jvm.Free.Fl.NoNaN64 x := Jvm.Free.Fl.noNaN64_no.mpr (decide_eq_false (own_V_nn h))
def own_ci (a b : Int) : Int32 := if a < b then -1 else if a = b then 0 else 1
theorem own_V_ci {x y : UInt64} {a b : Int} {k : Nat} (o : CmpOp) (hx : own_V x a k) (hy : own_V y b k) : cmpValue (FP.dcmp x y) o = own_ci a b := by
  rw [own_V_cmp hx hy]; unfold own_ci
  rcases Int.lt_trichotomy a b with h | h | h
  · rw [show compare a b = .lt from Int.compare_eq_lt.mpr h, if_pos h]; rfl
  · rw [show compare a b = .eq from Int.compare_eq_eq.mpr h, if_neg (by omega), if_pos h]; rfl
  · rw [show compare a b = .gt from Int.compare_eq_gt.mpr h, if_neg (by omega), if_neg (by omega)]; rfl
theorem own_ci_self (a : Int) : own_ci a a = 0 := by unfold own_ci; rw [if_neg (by omega), if_pos rfl]
end OwnFloat


theorem own_dm_0 : decode jdk_29_method_69_code 0 = .ok (.iload_n 0, 1) := by decide +kernel
theorem own_dm_1 : decode jdk_29_method_69_code 1 = .ok (.iload_n 1, 1) := by decide +kernel
theorem own_dm_2 : decode jdk_29_method_69_code 2 = .ok (.if_icmp .gt 7, 3) := by decide +kernel
theorem own_dm_5 : decode jdk_29_method_69_code 5 = .ok (.iload_n 0, 1) := by decide +kernel
theorem own_dm_6 : decode jdk_29_method_69_code 6 = .ok (.goto 4, 3) := by decide +kernel
theorem own_dm_9 : decode jdk_29_method_69_code 9 = .ok (.iload_n 1, 1) := by decide +kernel
theorem own_dm_10 : decode jdk_29_method_69_code 10 = .ok (.ireturn, 1) := by decide +kernel
theorem own_efm (m : MethodId) (x0 : Int32) (x1 : Int32) : entryFrame m #[(.int x0), (.int x1)] 2 = mkF m 0 #[.val (.int x0), .val (.int x1)] [] := by first | (simp [entryFrame, mkF, argsToLocals, Value.category, maxLocals]; done) | rfl
def own_min (p1 : Int32) (p2 : Int32) : Int32 := (if p2 < p1 then p2 else p1)
set_option maxRecDepth 65536 in
set_option maxHeartbeats 40000000 in
theorem own_rm_min (l : Launch) (Z : State) (a0 : Array Value) (hw : ∀ d ∈ tables_1, d.before a0 Z = true) (p1 : Int32) (p2 : Int32) (h0 : Heap) : own_Con l Z [] (⟨"java/lang/Math", "min", "(II)I"⟩ : MethodName) jdk_29_method_69_code 2 (some .int) ({ frames := 0, cells := 0, slots := 0, locals := 0 } : Room) #[(.int p1), (.int p2)] h0 (own_Q1 (some (.int (own_min p1 p2))) h0) := by
  refine own_body (Jvm.Free.JP.mathPlain rfl (by decide +kernel)) ?_
  intro p e s m below meth c s₁ X0 hx hby hml hret hlk hown hnm hZ e0
  refine oS (u' := s₁.setTop (mkF m 0 #[.val (.int p1), .val (.int p2)] [])) (fun _ kst => castTop (own_efm m p1 p2) kst) ?_
  refine oS (u' := s₁.setTop (mkF m 1 #[.val (.int p1), .val (.int p2)] [(.int p1)])) (fun _ kst => XS.iloadN X0.here hx rfl (hb hby own_dm_0) rfl kst) ?_
  refine oS (u' := s₁.setTop (mkF m 2 #[.val (.int p1), .val (.int p2)] [(.int p2), (.int p1)])) (fun _ kst => XS.iloadN X0.here hx rfl (hb hby own_dm_1) rfl kst) ?_
  by_cases hc1 : p2 < p1
  · refine oS (u' := s₁.setTop (mkF m 9 #[.val (.int p1), .val (.int p2)] [])) (fun _ kst => XS.icmpYes X0.here hx rfl (pc0 := 2) (pc' := 9) rfl (hb hby own_dm_2) rfl (tlt hc1).2.2.1 (by decide) (by decide) kst) ?_
    refine oS (u' := s₁.setTop (mkF m 10 #[.val (.int p1), .val (.int p2)] [(.int p2)])) (fun _ kst => XS.iloadN X0.here hx rfl (hb hby own_dm_9) rfl kst) ?_
    refine own_retI X0 hx hlk hret (hb hby own_dm_10) ?_ (by decide) (by decide)
    exact ⟨(by show (some (.int p2) : Option Value) = _; unfold own_min; rw [if_pos hc1]), e0, rfl⟩
  · refine oS (u' := s₁.setTop (mkF m 5 #[.val (.int p1), .val (.int p2)] [])) (fun _ kst => XS.icmpNo X0.here hx rfl (hb hby own_dm_2) rfl (flt hc1).2.2.1 kst) ?_
    refine oS (u' := s₁.setTop (mkF m 6 #[.val (.int p1), .val (.int p2)] [(.int p1)])) (fun _ kst => XS.iloadN X0.here hx rfl (hb hby own_dm_5) rfl kst) ?_
    refine oS (u' := s₁.setTop (mkF m 10 #[.val (.int p1), .val (.int p2)] [(.int p1)])) (fun _ kst => XS.goto X0.here hx rfl (pc0 := 6) (pc' := 10) rfl (hb hby own_dm_6) (by decide) (by decide) kst) ?_
    refine own_retI X0 hx hlk hret (hb hby own_dm_10) ?_ (by decide) (by decide)
    exact ⟨(by show (some (.int p1) : Option Value) = _; unfold own_min; rw [if_neg hc1]), e0, rfl⟩
def own_mu (x : UInt64) (cnt : Int64) (mu : UInt64) : UInt64 := FP.dadd mu (FP.ddiv (FP.dsub x mu) (FP.l2d (cnt + (1 : Int64))))
def own_sd (x : UInt64) (cnt : Int64) (mu sd : UInt64) : UInt64 := FP.dadd sd (FP.dmul (FP.dsub x mu) (FP.dsub x (own_mu x cnt mu)))
def own_on (x : UInt64) (n : Int64) : Int64 := if cmpValue (FP.dcmp x FP.dconst1) .l = (0 : Int32) then n + (1 : Int64) else n
def own_zo (x : UInt64) (z : Int32) : Int32 := if cmpValue (FP.dcmp x FP.dconst1) .l = (0 : Int32) then z else if cmpValue (FP.dcmp x FP.dconst0) .l = (0 : Int32) then z else (0 : Int32)
def own_Ok (x : UInt64) (cnt : Int64) (mu sd : UInt64) : Prop :=
  Jvm.Free.Fl.NoNaN64 (FP.dsub x mu) ∧ Jvm.Free.Fl.NoNaN64 (FP.ddiv (FP.dsub x mu) (FP.l2d (cnt + (1 : Int64)))) ∧ Jvm.Free.Fl.NoNaN64 (FP.dadd mu (FP.ddiv (FP.dsub x mu) (FP.l2d (cnt + (1 : Int64))))) ∧
  Jvm.Free.Fl.NoNaN64 (FP.dsub x (own_mu x cnt mu)) ∧ Jvm.Free.Fl.NoNaN64 (FP.dmul (FP.dsub x mu) (FP.dsub x (own_mu x cnt mu))) ∧ Jvm.Free.Fl.NoNaN64 (FP.dadd sd (FP.dmul (FP.dsub x mu) (FP.dsub x (own_mu x cnt mu))))
theorem own_mul_le {a b : Int} {m n : Nat} (ha : a.natAbs ≤ m) (hb : b.natAbs ≤ n) : (a * b).natAbs ≤ m * n := by
  rw [Int.natAbs_mul]; exact Nat.mul_le_mul ha hb
theorem own_step {x mu sd : UInt64} {cnt : Int64} {X M Q S : Int} {N : Nat} (hx : own_V x X 1) (hm : own_V mu M 1) (hs : own_V sd S 2) (hc : (cnt + (1 : Int64)).toInt = (N : Int)) (hN : 1 ≤ N) (hN2 : N ≤ 3)
    (hq : X - M = (N : Int) * Q) (bX : X.natAbs ≤ 8388608) (bM : M.natAbs ≤ 8388608) (bQ : Q.natAbs ≤ 16777216) (bS : S.natAbs ≤ 1125899906842624) :
    own_Ok x cnt mu sd ∧ own_V (own_mu x cnt mu) (M + Q) 1 ∧ own_V (own_sd x cnt mu sd) (S + (X - M) * (X - (M + Q))) 2 := by
  have hn := own_V_l2d (x := cnt + (1 : Int64)) (by rw [hc]; omega)
  rw [hc] at hn
  have v1 := own_V_sub hx hm (by decide) (by omega)
  have v2 : own_V (FP.ddiv (FP.dsub x mu) (FP.l2d (cnt + (1 : Int64)))) Q 1 := own_V_div v1 hn (by omega) (by decide) (by omega) (by
    rw [hq, Int.mul_comm (N : Int) Q])
  have v3 := own_V_add hm v2 (by decide) (by omega)
  have v4 : own_V (FP.dsub x (own_mu x cnt mu)) (X - (M + Q)) 1 := own_V_sub hx v3 (by decide) (by omega)
  have bp := own_mul_le (a := X - M) (b := X - (M + Q)) (m := 16777216) (n := 33554432) (by omega) (by omega)
  have v5 := own_V_mul v1 v4 (by decide) (by omega)
  have v6 := own_V_add hs v5 (by decide) (by omega)
  exact ⟨⟨own_V_no v1, own_V_no v2, own_V_no v3, own_V_no v4, own_V_no v5, own_V_no v6⟩, v3, v6⟩
theorem own_V_zero (k : Nat) : own_V (0 : UInt64) 0 k := ⟨false, 0, -1074, by decide +kernel, by show (0 : Int) * _ = _; rw [Int.zero_mul, Int.zero_mul]⟩
theorem own_V_d0 : own_V FP.dconst0 0 0 := own_V_zero 0
theorem own_V_d1 : own_V FP.dconst1 1 0 := ⟨false, 4503599627370496, -52, by decide +kernel, by decide⟩
theorem own_V_two : own_V (4611686018427387904 : UInt64) 2 0 := ⟨false, 4503599627370496, -51, by decide +kernel, by decide⟩
theorem own_ci_eq {a b : Int} : own_ci a b = (0 : Int32) ↔ a = b := by
  unfold own_ci
  constructor
  · intro h
    by_cases h1 : a < b
    · rw [if_pos h1] at h; exact absurd h (by decide)
    · rw [if_neg h1] at h
      by_cases h2 : a = b
      · exact h2
      · rw [if_neg h2] at h; exact absurd h (by decide)
  · intro h; rw [if_neg (by omega), if_pos h]
theorem own_on_int (a : Int32) (n : Int64) : own_on (FP.i2d a) n = if a = (1 : Int32) then n + (1 : Int64) else n := by
  unfold own_on
  rw [own_V_ci .l (own_V_i2d a) own_V_d1]
  have e : own_ci a.toInt 1 = (0 : Int32) ↔ a = (1 : Int32) := own_ci_eq.trans ⟨fun h => Int32.toInt_inj.mp (by rw [h]; rfl), fun h => by rw [h]; rfl⟩
  by_cases h : a = (1 : Int32)
  · rw [if_pos h, if_pos (e.mpr h)]
  · rw [if_neg h, if_neg (fun q => h (e.mp q))]
theorem own_zo_int (a : Int32) (z : Int32) : own_zo (FP.i2d a) z = if a = (1 : Int32) then z else if a = (0 : Int32) then z else (0 : Int32) := by
  unfold own_zo
  rw [own_V_ci .l (own_V_i2d a) own_V_d1, own_V_ci .l (own_V_i2d a) own_V_d0]
  have e : own_ci a.toInt 1 = (0 : Int32) ↔ a = (1 : Int32) := own_ci_eq.trans ⟨fun h => Int32.toInt_inj.mp (by rw [h]; rfl), fun h => by rw [h]; rfl⟩
  have e' : own_ci a.toInt 0 = (0 : Int32) ↔ a = (0 : Int32) := own_ci_eq.trans ⟨fun h => Int32.toInt_inj.mp (by rw [h]; rfl), fun h => by rw [h]; rfl⟩
  by_cases h : a = (1 : Int32)
  · rw [if_pos h, if_pos (e.mpr h)]
  · rw [if_neg h, if_neg (fun q => h (e.mp q))]
    by_cases h' : a = (0 : Int32)
    · rw [if_pos h', if_pos (e'.mpr h')]
    · rw [if_neg h', if_neg (fun q => h' (e'.mp q))]
def own_pr (c t : UInt64) (n : Int64) (mC mT pr : UInt64) : UInt64 := FP.dadd pr (FP.dmul (FP.dsub c mC) (FP.dsub t (own_mu t n mT)))
def own_bz (c : UInt64) (b : Int32) : Int32 := if (0 : Int32) < cmpValue (FP.dcmp c FP.dconst0) .l then (b ||| (1 : Int32)) else (b ||| (0 : Int32))
theorem own_bz01 {c : UInt64} {b : Int32} (h : b = 0 ∨ b = 1) : own_bz c b = 0 ∨ own_bz c b = 1 := by
  unfold own_bz; rcases h with rfl | rfl <;> split <;> first | exact Or.inl rfl | exact Or.inr rfl
theorem own_nb1 {b : Int32} (h : b = 0 ∨ b = 1) : narrow .boolean (.int (b ||| (1 : Int32))) = .int (b ||| (1 : Int32)) := by rcases h with rfl | rfl <;> rfl
theorem own_nb0 {b : Int32} (h : b = 0 ∨ b = 1) : narrow .boolean (.int (b ||| (0 : Int32))) = .int (b ||| (0 : Int32)) := by rcases h with rfl | rfl <;> rfl
theorem own_fb1 {b : Int32} (h : b = 0 ∨ b = 1) : fits .boolean (.int (b ||| (1 : Int32))) = true := by rcases h with rfl | rfl <;> rfl
theorem own_fb0 {b : Int32} (h : b = 0 ∨ b = 1) : fits .boolean (.int (b ||| (0 : Int32))) = true := by rcases h with rfl | rfl <;> rfl
def own_OkT (c t : UInt64) (n : Int64) (mC mT sq pr : UInt64) : Prop := own_Ok t n mT sq ∧ Jvm.Free.Fl.NoNaN64 (FP.dsub c mC) ∧ Jvm.Free.Fl.NoNaN64 (FP.ddiv (FP.dsub c mC) (FP.l2d (n + (1 : Int64)))) ∧
  Jvm.Free.Fl.NoNaN64 (FP.dadd mC (FP.ddiv (FP.dsub c mC) (FP.l2d (n + (1 : Int64))))) ∧ Jvm.Free.Fl.NoNaN64 (FP.dmul (FP.dsub c mC) (FP.dsub t (own_mu t n mT))) ∧ Jvm.Free.Fl.NoNaN64 (FP.dadd pr (FP.dmul (FP.dsub c mC) (FP.dsub t (own_mu t n mT))))
def own_W (z : UInt64) : UInt64 := FP.ddiv z (4576918229304087676 : UInt64)
def own_A (pr w mC mT : UInt64) : UInt64 := FP.dadd pr (FP.dmul (FP.dmul w mC) mT)
def own_B (sq w mT : UInt64) : UInt64 := FP.dadd sq (FP.dmul (FP.dmul w mT) mT)
def own_OkA (x z : UInt64) (b : Int32) (mC mT sq pr : UInt64) : Prop := ¬ b = (0 : Int32) →
  ((cmpValue (FP.dcmp sq FP.dconst0) .l = (0 : Int32) → Jvm.Free.Fl.NoNaN64 (FP.dmul mT x) ∧ Jvm.Free.Fl.NoNaN64 (FP.ddiv (FP.dmul mT x) mC)) ∧
   (¬ cmpValue (FP.dcmp sq FP.dconst0) .l = (0 : Int32) → Jvm.Free.Fl.NoNaN64 (FP.ddiv z (4576918229304087676 : UInt64)) ∧ Jvm.Free.Fl.NoNaN64 (FP.dmul (own_W z) mC) ∧ Jvm.Free.Fl.NoNaN64 (FP.dmul (FP.dmul (own_W z) mC) mT) ∧ Jvm.Free.Fl.NoNaN64 (FP.dadd pr (FP.dmul (FP.dmul (own_W z) mC) mT)) ∧
     Jvm.Free.Fl.NoNaN64 (FP.dmul (own_W z) mT) ∧ Jvm.Free.Fl.NoNaN64 (FP.dmul (FP.dmul (own_W z) mT) mT) ∧ Jvm.Free.Fl.NoNaN64 (FP.dadd sq (FP.dmul (FP.dmul (own_W z) mT) mT)) ∧ Jvm.Free.Fl.NoNaN64 (FP.ddiv (own_A pr (own_W z) mC mT) (own_B sq (own_W z) mT)) ∧
     Jvm.Free.Fl.NoNaN64 (FP.dsub x mC) ∧ Jvm.Free.Fl.NoNaN64 (FP.ddiv (FP.dsub x mC) (FP.ddiv (own_A pr (own_W z) mC mT) (own_B sq (own_W z) mT))) ∧ Jvm.Free.Fl.NoNaN64 (FP.dadd mT (FP.ddiv (FP.dsub x mC) (FP.ddiv (own_A pr (own_W z) mC mT) (own_B sq (own_W z) mT))))))
theorem own_V_z {x : UInt64} {k j : Nat} (h : own_V x 0 k) : own_V x 0 j := by
  obtain ⟨s, c, q, h1, h2⟩ := h
  refine ⟨s, c, q, h1, ?_⟩
  rw [Int.zero_mul] at h2 ⊢
  rcases Int.mul_eq_zero.mp h2 with h | h
  · rw [h, Int.zero_mul]
  · have := Nat.two_pow_pos (q + (k : Int)).toNat; omega
theorem own_V_neg {x : UInt64} {n : Int} {k : Nat} (h : own_V x n k) : own_V (FP.dneg x) (-n) k := by
  obtain ⟨s, c, q, h1, h2⟩ := h
  refine ⟨!s, c, q, ?_, ?_⟩
  · rw [Jvm.FP.val64_dneg, h1]; rfl
  · rw [show Jvm.FP.Core.signed (!s) c = -(Jvm.FP.Core.signed s c) by cases s <;> simp [Jvm.FP.Core.signed], Int.neg_mul, h2, Int.neg_mul]
theorem own_stepT {t mT sq c mC pr : UInt64} {n : Int64} {X M Q S Y L R P : Int} {N kt kc : Nat} (ht : own_V t X kt) (hM : own_V mT M kt) (hS : own_V sq S (kt + kt)) (hc : own_V c Y kc) (hL : own_V mC L kc) (hP : own_V pr P (kc + kt))
    (hn : (n + (1 : Int64)).toInt = (N : Int)) (hN : 1 ≤ N) (hN2 : N ≤ 3) (hk : kt ≤ 100) (hk2 : kc ≤ 100) (hq : X - M = (N : Int) * Q) (hr : Y - L = (N : Int) * R)
    (b1 : (X - M).natAbs < 2 ^ 53) (b2 : Q.natAbs < 2 ^ 53) (b3 : (M + Q).natAbs < 2 ^ 53) (b4 : (X - (M + Q)).natAbs < 2 ^ 53) (b5 : ((X - M) * (X - (M + Q))).natAbs < 2 ^ 53) (b6 : (S + (X - M) * (X - (M + Q))).natAbs < 2 ^ 53)
    (b7 : (Y - L).natAbs < 2 ^ 53) (b8 : R.natAbs < 2 ^ 53) (b9 : (L + R).natAbs < 2 ^ 53) (b10 : ((Y - L) * (X - (M + Q))).natAbs < 2 ^ 53) (b11 : (P + (Y - L) * (X - (M + Q))).natAbs < 2 ^ 53) :
    own_OkT c t n mC mT sq pr ∧ own_V (own_mu t n mT) (M + Q) kt ∧ own_V (own_mu c n mC) (L + R) kc ∧ own_V (own_sd t n mT sq) (S + (X - M) * (X - (M + Q))) (kt + kt) ∧ own_V (own_pr c t n mC mT pr) (P + (Y - L) * (X - (M + Q))) (kc + kt) := by
  have hn' := own_V_l2d (x := n + (1 : Int64)) (by rw [hn]; omega)
  rw [hn] at hn'
  have v1 := own_V_sub ht hM (by omega) b1
  have v2 : own_V (FP.ddiv (FP.dsub t mT) (FP.l2d (n + (1 : Int64)))) Q kt := own_V_div v1 hn' (by omega) (by omega) b2 (by rw [hq, Int.mul_comm (N : Int) Q, Nat.zero_add])
  have v3 := own_V_add hM v2 (by omega) b3
  have v4 : own_V (FP.dsub t (own_mu t n mT)) (X - (M + Q)) kt := own_V_sub ht v3 (by omega) b4
  have v5 := own_V_mul v1 v4 (by omega) b5
  have v6 := own_V_add hS v5 (by omega) b6
  have w1 := own_V_sub hc hL (by omega) b7
  have w2 : own_V (FP.ddiv (FP.dsub c mC) (FP.l2d (n + (1 : Int64)))) R kc := own_V_div w1 hn' (by omega) (by omega) b8 (by rw [hr, Int.mul_comm (N : Int) R, Nat.zero_add])
  have w3 := own_V_add hL w2 (by omega) b9
  have w5 := own_V_mul w1 v4 (by omega) b10
  have w6 := own_V_add hP w5 (by omega) b11
  exact ⟨⟨⟨own_V_no v1, own_V_no v2, own_V_no v3, own_V_no v4, own_V_no v5, own_V_no v6⟩, own_V_no w1, own_V_no w2, own_V_no w3, own_V_no w5, own_V_no w6⟩, v3, w3, v6, w6⟩
section OwnQuot
open Jvm.FP.Core
theorem own_rr_ne_nan (s : Bool) (A B : Nat) (e : Int) : roundRatio b64 s A B e ≠ .nan := by
  unfold roundRatio
  split
  · intro h; cases h
  · unfold roundAt settle bound
    split <;> split <;> intro h <;> cases h
theorem own_div_val {x y : UInt64} {a b : Int} {k l : Nat} (hx : own_V x a k) (hy : own_V y b l) (hb : b ≠ 0) : ∃ s : Bool, (a ≠ 0 → s = (decide (a < 0) != decide (b < 0))) ∧ val64 (FP.ddiv x y) = roundRatio b64 s a.natAbs b.natAbs ((l : Int) - k) := by
  obtain ⟨s, c, q, h1, h2⟩ := hx
  obtain ⟨t, d, r, g1, g2⟩ := hy
  obtain ⟨A, rfl, hA⟩ := own_sgn (Nat.two_pow_pos _) h2
  obtain ⟨B, rfl, hB⟩ := own_sgn (Nat.two_pow_pos _) g2
  have hB0 : 0 < B := Nat.pos_of_ne_zero fun q => hb (by rw [q]; exact signed_zero t)
  have hd : 0 < d := Nat.pos_of_ne_zero fun q => by
    rw [q, Nat.zero_mul] at hB
    have := Nat.mul_pos hB0 (Nat.two_pow_pos (-(r + (l : Int))).toNat)
    omega
  have hv : val64 (FP.ddiv x y) = roundRatio b64 (s != t) c d (q - r) := by
    have := val64_ddiv x y
    rw [h1, g1] at this
    rw [show val64 (FP.ddiv x y) = quotient b64 (.fin s c q) (.fin t d r) from this]
    show (if d = 0 then _ else _) = _
    rw [if_neg (by omega)]
  refine ⟨s != t, ?_, ?_⟩
  · intro ha
    have hA0 : 0 < A := Nat.pos_of_ne_zero fun q => ha (by rw [q]; exact signed_zero s)
    rw [signed_lt_zero s hA0, signed_lt_zero t hB0]
  · rw [hv, own_abs_signed, own_abs_signed]
    refine roundRatio_congr hd hB0 ?_
    have := own_cancN (z := c * B) (a := A * d) (p := (q + (k : Int)).toNat + (-(r + (l : Int))).toNat) (m := (-(q + (k : Int))).toNat + (r + (l : Int)).toNat) (E := q - r - ((l : Int) - k)) (by omega) (by
      rw [Nat.pow_add, Nat.pow_add]
      calc c * B * (2 ^ (q + (k : Int)).toNat * 2 ^ (-(r + (l : Int))).toNat)
          = (c * 2 ^ (q + (k : Int)).toNat) * (B * 2 ^ (-(r + (l : Int))).toNat) := by ac_rfl
        _ = (A * 2 ^ (-(q + (k : Int))).toNat) * (d * 2 ^ (r + (l : Int)).toNat) := by rw [hA, hB]
        _ = _ := by ac_rfl)
    rw [show ((l : Int) - k) - (q - r) = -(q - r - ((l : Int) - k)) by omega]
    exact this
theorem own_div_no {x y : UInt64} {a b : Int} {k l : Nat} (hx : own_V x a k) (hy : own_V y b l) (hb : b ≠ 0) : Jvm.Free.Fl.NoNaN64 (FP.ddiv x y) := by
  obtain ⟨s, -, h⟩ := own_div_val hx hy hb
  exact Jvm.Free.Fl.noNaN64_no.mpr (decide_eq_false (by show ¬ val64 (FP.ddiv x y) = .nan; rw [h]; exact own_rr_ne_nan _ _ _ _))
theorem own_order_self {d : Datum} (h : d ≠ .nan) : order d d = some .eq := by
  cases d with
  | nan => exact absurd rfl h
  | inf s => show some (compare _ _) = _; rw [show compare (signed s 1) (signed s 1) = .eq from Int.compare_eq_eq.mpr rfl]
  | fin s c q => show some (compare _ _) = _; rw [Int.compare_eq_eq.mpr rfl]
theorem own_div_eq {x y x' y' : UInt64} {a b : Int} {k l : Nat} (o : CmpOp) (hx : own_V x a k) (hy : own_V y b l) (hx' : own_V x' a k) (hy' : own_V y' b l) (hb : b ≠ 0) : cmpValue (FP.dcmp (FP.ddiv x y) (FP.ddiv x' y')) o = (0 : Int32) := by
  by_cases ha : a = 0
  · subst ha
    have v : own_V (FP.ddiv x y) 0 0 := own_V_div hx hy hb (by decide) (by decide) (by rw [Int.zero_mul, Int.zero_mul, Int.zero_mul])
    have v' : own_V (FP.ddiv x' y') 0 0 := own_V_div hx' hy' hb (by decide) (by decide) (by rw [Int.zero_mul, Int.zero_mul, Int.zero_mul])
    exact (own_V_ci o v v').trans (own_ci_self _)
  · obtain ⟨s, hs, h⟩ := own_div_val hx hy hb
    obtain ⟨s', hs', h'⟩ := own_div_val hx' hy' hb
    have e : FP.dcmp (FP.ddiv x y) (FP.ddiv x' y') = some .eq := by
      show order (val64 _) (val64 _) = _
      rw [h, h', hs ha, hs' ha]
      exact own_order_self (own_rr_ne_nan _ _ _ _)
    rw [e]; rfl
end OwnQuot

theorem own_di_0 : decode prog_24_method_1_code 0 = .ok (.aload_n 0, 1) := by decide +kernel
theorem own_di_1 : decode prog_24_method_1_code 1 = .ok (.invokespecial 1, 3) := by decide +kernel
theorem own_di_4 : decode prog_24_method_1_code 4 = .ok (.return_, 1) := by decide +kernel
theorem own_pn_ThroughputLine : plainName "com/example/waxwing/waxwing/policy/ThroughputLine" = true := by first | (simp [plainName, overriddenIn]; done) | decide +kernel
theorem own_efi (m : MethodId) (x0 : Addr) : entryFrame m #[(.ref x0)] 1 = mkF m 0 #[.val (.ref x0)] [] := by first | (simp [entryFrame, mkF, argsToLocals, Value.category, maxLocals]; done) | rfl
theorem own_pd0 : parseMethodDescriptor "()V" = some ⟨[], none⟩ := by decide +kernel
set_option maxRecDepth 65536 in
set_option maxHeartbeats 40000000 in
theorem own_rm_tlinit (l : Launch) (Z : State) (a0 : Array Value) (hw : ∀ d ∈ tables_1, d.before a0 Z = true) (r0 : Addr) (h0 : Heap) : own_Con l Z [] (⟨"com/example/waxwing/waxwing/policy/ThroughputLine", "<init>", "()V"⟩ : MethodName) prog_24_method_1_code 1 none ({ frames := 1, cells := 0, slots := 0, locals := 12 } : Room) #[(.ref r0)] h0 (own_Q1 (none) h0) := by
  refine own_body (plainFor_of_name own_pn_ThroughputLine) ?_
  intro p e s m below meth c s₁ X0 hx hby hml hret hlk hown hnm hZ e0
  refine oS (u' := s₁.setTop (mkF m 0 #[.val (.ref r0)] [])) (fun _ kst => castTop (own_efi m r0) kst) ?_
  refine oS (u' := s₁.setTop (mkF m 1 #[.val (.ref r0)] [(.ref r0)])) (fun _ kst => XS.aloadN X0.here hx rfl (hb hby own_di_0) rfl rfl kst) ?_
  obtain ⟨T2, X2, e2, st2⟩ := initO X0 hx hZ hown (hw _ (List.mem_of_getElem? (i := 6) rfl)) (hw _ (List.mem_of_getElem? (i := 7) rfl)) (hw _ (List.mem_of_getElem? (i := 8) rfl)) e0 (g := (mkF m 1 #[.val (.ref r0)] [(.ref r0)])) rfl (by rw [hml]; rfl) rfl (hb hby own_di_1) (by decide) (W := 0) (by show 2 * 0 + _ ≤ _; exact Nat.le_of_eq rfl) (by decide)
  refine oS (u' := T2.setTop (mkF m 4 #[.val (.ref r0)] [])) st2 ?_
  refine own_ret0 X2 hx hlk hret (hb hby own_di_4) ?_ (by decide) (by decide)
  exact ⟨rfl, e2, rfl⟩
theorem own_da_0 : decode prog_24_method_2_code 0 = .ok (.aload_n 0, 1) := by decide +kernel
theorem own_da_1 : decode prog_24_method_2_code 1 = .ok (.dup, 1) := by decide +kernel
theorem own_da_2 : decode prog_24_method_2_code 2 = .ok (.getfield 7, 3) := by decide +kernel
theorem own_da_5 : decode prog_24_method_2_code 5 = .ok (.lconst 1, 1) := by decide +kernel
theorem own_da_6 : decode prog_24_method_2_code 6 = .ok (.ladd, 1) := by decide +kernel
theorem own_da_7 : decode prog_24_method_2_code 7 = .ok (.putfield 7, 3) := by decide +kernel
theorem own_da_10 : decode prog_24_method_2_code 10 = .ok (.dload_n 3, 1) := by decide +kernel
theorem own_da_11 : decode prog_24_method_2_code 11 = .ok (.aload_n 0, 1) := by decide +kernel
theorem own_da_12 : decode prog_24_method_2_code 12 = .ok (.getfield 13, 3) := by decide +kernel
theorem own_da_15 : decode prog_24_method_2_code 15 = .ok (.dsub, 1) := by decide +kernel
theorem own_da_16 : decode prog_24_method_2_code 16 = .ok (.dstore 5, 2) := by decide +kernel
theorem own_da_18 : decode prog_24_method_2_code 18 = .ok (.dload_n 1, 1) := by decide +kernel
theorem own_da_19 : decode prog_24_method_2_code 19 = .ok (.aload_n 0, 1) := by decide +kernel
theorem own_da_20 : decode prog_24_method_2_code 20 = .ok (.getfield 17, 3) := by decide +kernel
theorem own_da_23 : decode prog_24_method_2_code 23 = .ok (.dsub, 1) := by decide +kernel
theorem own_da_24 : decode prog_24_method_2_code 24 = .ok (.dstore 7, 2) := by decide +kernel
theorem own_da_26 : decode prog_24_method_2_code 26 = .ok (.aload_n 0, 1) := by decide +kernel
theorem own_da_27 : decode prog_24_method_2_code 27 = .ok (.dup, 1) := by decide +kernel
theorem own_da_28 : decode prog_24_method_2_code 28 = .ok (.getfield 13, 3) := by decide +kernel
theorem own_da_31 : decode prog_24_method_2_code 31 = .ok (.dload 5, 2) := by decide +kernel
theorem own_da_33 : decode prog_24_method_2_code 33 = .ok (.aload_n 0, 1) := by decide +kernel
theorem own_da_34 : decode prog_24_method_2_code 34 = .ok (.getfield 7, 3) := by decide +kernel
theorem own_da_37 : decode prog_24_method_2_code 37 = .ok (.l2d, 1) := by decide +kernel
theorem own_da_38 : decode prog_24_method_2_code 38 = .ok (.ddiv, 1) := by decide +kernel
theorem own_da_39 : decode prog_24_method_2_code 39 = .ok (.dadd, 1) := by decide +kernel
theorem own_da_40 : decode prog_24_method_2_code 40 = .ok (.putfield 13, 3) := by decide +kernel
theorem own_da_43 : decode prog_24_method_2_code 43 = .ok (.aload_n 0, 1) := by decide +kernel
theorem own_da_44 : decode prog_24_method_2_code 44 = .ok (.dup, 1) := by decide +kernel
theorem own_da_45 : decode prog_24_method_2_code 45 = .ok (.getfield 17, 3) := by decide +kernel
theorem own_da_48 : decode prog_24_method_2_code 48 = .ok (.dload 7, 2) := by decide +kernel
theorem own_da_50 : decode prog_24_method_2_code 50 = .ok (.aload_n 0, 1) := by decide +kernel
theorem own_da_51 : decode prog_24_method_2_code 51 = .ok (.getfield 7, 3) := by decide +kernel
theorem own_da_54 : decode prog_24_method_2_code 54 = .ok (.l2d, 1) := by decide +kernel
theorem own_da_55 : decode prog_24_method_2_code 55 = .ok (.ddiv, 1) := by decide +kernel
theorem own_da_56 : decode prog_24_method_2_code 56 = .ok (.dadd, 1) := by decide +kernel
theorem own_da_57 : decode prog_24_method_2_code 57 = .ok (.putfield 17, 3) := by decide +kernel
theorem own_da_60 : decode prog_24_method_2_code 60 = .ok (.aload_n 0, 1) := by decide +kernel
theorem own_da_61 : decode prog_24_method_2_code 61 = .ok (.dup, 1) := by decide +kernel
theorem own_da_62 : decode prog_24_method_2_code 62 = .ok (.getfield 20, 3) := by decide +kernel
theorem own_da_65 : decode prog_24_method_2_code 65 = .ok (.dload 5, 2) := by decide +kernel
theorem own_da_67 : decode prog_24_method_2_code 67 = .ok (.dload_n 3, 1) := by decide +kernel
theorem own_da_68 : decode prog_24_method_2_code 68 = .ok (.aload_n 0, 1) := by decide +kernel
theorem own_da_69 : decode prog_24_method_2_code 69 = .ok (.getfield 13, 3) := by decide +kernel
theorem own_da_72 : decode prog_24_method_2_code 72 = .ok (.dsub, 1) := by decide +kernel
theorem own_da_73 : decode prog_24_method_2_code 73 = .ok (.dmul, 1) := by decide +kernel
theorem own_da_74 : decode prog_24_method_2_code 74 = .ok (.dadd, 1) := by decide +kernel
theorem own_da_75 : decode prog_24_method_2_code 75 = .ok (.putfield 20, 3) := by decide +kernel
theorem own_da_78 : decode prog_24_method_2_code 78 = .ok (.aload_n 0, 1) := by decide +kernel
theorem own_da_79 : decode prog_24_method_2_code 79 = .ok (.dup, 1) := by decide +kernel
theorem own_da_80 : decode prog_24_method_2_code 80 = .ok (.getfield 23, 3) := by decide +kernel
theorem own_da_83 : decode prog_24_method_2_code 83 = .ok (.dload 7, 2) := by decide +kernel
theorem own_da_85 : decode prog_24_method_2_code 85 = .ok (.dload_n 3, 1) := by decide +kernel
theorem own_da_86 : decode prog_24_method_2_code 86 = .ok (.aload_n 0, 1) := by decide +kernel
theorem own_da_87 : decode prog_24_method_2_code 87 = .ok (.getfield 13, 3) := by decide +kernel
theorem own_da_90 : decode prog_24_method_2_code 90 = .ok (.dsub, 1) := by decide +kernel
theorem own_da_91 : decode prog_24_method_2_code 91 = .ok (.dmul, 1) := by decide +kernel
theorem own_da_92 : decode prog_24_method_2_code 92 = .ok (.dadd, 1) := by decide +kernel
theorem own_da_93 : decode prog_24_method_2_code 93 = .ok (.putfield 23, 3) := by decide +kernel
theorem own_da_96 : decode prog_24_method_2_code 96 = .ok (.aload_n 0, 1) := by decide +kernel
theorem own_da_97 : decode prog_24_method_2_code 97 = .ok (.dup, 1) := by decide +kernel
theorem own_da_98 : decode prog_24_method_2_code 98 = .ok (.getfield 26, 3) := by decide +kernel
theorem own_da_101 : decode prog_24_method_2_code 101 = .ok (.dload_n 1, 1) := by decide +kernel
theorem own_da_102 : decode prog_24_method_2_code 102 = .ok (.dconst 0, 1) := by decide +kernel
theorem own_da_103 : decode prog_24_method_2_code 103 = .ok (.dcmp .l, 1) := by decide +kernel
theorem own_da_104 : decode prog_24_method_2_code 104 = .ok (.ifCond .le 7, 3) := by decide +kernel
theorem own_da_107 : decode prog_24_method_2_code 107 = .ok (.iconst 1, 1) := by decide +kernel
theorem own_da_108 : decode prog_24_method_2_code 108 = .ok (.goto 4, 3) := by decide +kernel
theorem own_da_111 : decode prog_24_method_2_code 111 = .ok (.iconst 0, 1) := by decide +kernel
theorem own_da_112 : decode prog_24_method_2_code 112 = .ok (.ior, 1) := by decide +kernel
theorem own_da_113 : decode prog_24_method_2_code 113 = .ok (.putfield 26, 3) := by decide +kernel
theorem own_da_116 : decode prog_24_method_2_code 116 = .ok (.return_, 1) := by decide +kernel
theorem own_efa (m : MethodId) (x0 : Addr) (x1 : UInt64) (x2 : UInt64) : entryFrame m #[(.ref x0), (.double x1), (.double x2)] 9 = mkF m 0 #[.val (.ref x0), .val (.double x1), .second, .val (.double x2), .second, .unset, .unset, .unset, .unset] [] := by first | (simp [entryFrame, mkF, argsToLocals, Value.category, maxLocals]; done) | rfl
set_option maxRecDepth 65536 in
set_option maxHeartbeats 40000000 in
theorem own_rm_tladd (l : Launch) (Z : State) (a0 : Array Value) (hw : ∀ d ∈ tables_1, d.before a0 Z = true) (r0 : Addr) (p1 : UInt64) (p2 : UInt64) (n : Int64) (mC : UInt64) (mT : UInt64) (sq : UInt64) (pr : UInt64) (bz : Int32) (h0 : Heap) (n0 : Nat) (Z0 : n0 ≤ h0.size) (E0 : Exa Z h0 r0 "com/example/waxwing/waxwing/policy/ThroughputLine") (F0 : Fld Z h0 r0 "com/example/waxwing/waxwing/policy/ThroughputLine" "samples" "J" (.long n)) (F1 : Fld Z h0 r0 "com/example/waxwing/waxwing/policy/ThroughputLine" "meanCpu" "D" (.double mC)) (F2 : Fld Z h0 r0 "com/example/waxwing/waxwing/policy/ThroughputLine" "meanThroughput" "D" (.double mT)) (F3 : Fld Z h0 r0 "com/example/waxwing/waxwing/policy/ThroughputLine" "throughputSquares" "D" (.double sq)) (F4 : Fld Z h0 r0 "com/example/waxwing/waxwing/policy/ThroughputLine" "products" "D" (.double pr)) (F5 : Fld Z h0 r0 "com/example/waxwing/waxwing/policy/ThroughputLine" "busy" "Z" (.int bz)) (g0 : n0 ≤ r0) (ok : own_OkT p1 p2 n mC mT sq pr) (hbz : bz = 0 ∨ bz = 1) : own_Con l Z [] (⟨"com/example/waxwing/waxwing/policy/ThroughputLine", "add", "(DD)V"⟩ : MethodName) prog_24_method_2_code 9 none ({ frames := 0, cells := 0, slots := 0, locals := 0 } : Room) #[(.ref r0), (.double p1), (.double p2)] h0 (fun v h L => v = none ∧ Fr n0 L ∧ Keep h0 h [r0] ∧ Fld Z h r0 "com/example/waxwing/waxwing/policy/ThroughputLine" "samples" "J" (.long (n + (1 : Int64))) ∧ Fld Z h r0 "com/example/waxwing/waxwing/policy/ThroughputLine" "meanCpu" "D" (.double (own_mu p1 n mC)) ∧ Fld Z h r0 "com/example/waxwing/waxwing/policy/ThroughputLine" "meanThroughput" "D" (.double (own_mu p2 n mT)) ∧ Fld Z h r0 "com/example/waxwing/waxwing/policy/ThroughputLine" "throughputSquares" "D" (.double (own_sd p2 n mT sq)) ∧ Fld Z h r0 "com/example/waxwing/waxwing/policy/ThroughputLine" "products" "D" (.double (own_pr p1 p2 n mC mT pr)) ∧ Fld Z h r0 "com/example/waxwing/waxwing/policy/ThroughputLine" "busy" "Z" (.int (own_bz p1 bz))) := by
  refine own_body (plainFor_of_name own_pn_ThroughputLine) ?_
  intro p e s m below meth c s₁ X0 hx hby hml hret hlk hown hnm hZ e0
  have N0 := Fr.nil n0
  have K0 : Keep h0 h0 [r0] := Keep.refl _ _
  refine oS (u' := s₁.setTop (mkF m 0 #[.val (.ref r0), .val (.double p1), .second, .val (.double p2), .second, .unset, .unset, .unset, .unset] [])) (fun _ kst => castTop (own_efa m r0 p1 p2) kst) ?_
  refine oS (u' := s₁.setTop (mkF m 1 #[.val (.ref r0), .val (.double p1), .second, .val (.double p2), .second, .unset, .unset, .unset, .unset] [(.ref r0)])) (fun _ kst => XS.aloadN X0.here hx rfl (hb hby own_da_0) rfl rfl kst) ?_
  refine oS (u' := s₁.setTop (mkF m 2 #[.val (.ref r0), .val (.double p1), .second, .val (.double p2), .second, .unset, .unset, .unset, .unset] [(.ref r0), (.ref r0)])) (fun _ kst => XS.dup X0.here hx rfl (hb hby own_da_1) rfl rfl kst) ?_
  obtain ⟨T3, X3, e3, st3⟩ := getF X0 hx hZ hown (host := "") (Or.inl (hw _ (List.mem_of_getElem? (i := 17) rfl))) Via.refl e0 F0 (g := (mkF m 2 #[.val (.ref r0), .val (.double p1), .second, .val (.double p2), .second, .unset, .unset, .unset, .unset] [(.ref r0), (.ref r0)])) rfl rfl (hb hby own_da_2)
  refine oS (u' := T3.setTop (mkF m 5 #[.val (.ref r0), .val (.double p1), .second, .val (.double p2), .second, .unset, .unset, .unset, .unset] [(.long n), (.ref r0)])) st3 ?_
  refine oS (u' := T3.setTop (mkF m 6 #[.val (.ref r0), .val (.double p1), .second, .val (.double p2), .second, .unset, .unset, .unset, .unset] [(.long (1 : Int64)), (.long n), (.ref r0)])) (fun _ kst => XS.lconst X3.here hx rfl (hb hby own_da_5) kst) ?_
  refine oS (u' := T3.setTop (mkF m 7 #[.val (.ref r0), .val (.double p1), .second, .val (.double p2), .second, .unset, .unset, .unset, .unset] [(.long (n + (1 : Int64))), (.ref r0)])) (fun _ kst => XS.ladd X3.here hx rfl (hb hby own_da_6) rfl kst) ?_
  obtain ⟨T4, h4, X4, e4, W4, st4⟩ := putF X3 hx hZ hown (host := "") (Or.inl (hw _ (List.mem_of_getElem? (i := 17) rfl))) Via.refl e3 F0 E0 (Or.inl (hw _ (List.mem_of_getElem? (i := 18) rfl))) (hw _ (List.mem_of_getElem? (i := 1) rfl)) (ty := .long) (by decide) rfl rfl (g := (mkF m 7 #[.val (.ref r0), .val (.double p1), .second, .val (.double p2), .second, .unset, .unset, .unset, .unset] [(.long (n + (1 : Int64))), (.ref r0)])) rfl rfl (hb hby own_da_7)
  have f4_E_r0 := E0.wr W4
  have f4_F_r0_samples := F0.same W4
  have f4_F_r0_meanCpu := F1.other W4 (Or.inr (slot_ne (Or.inl (hw _ (List.mem_of_getElem? (i := 22) rfl))) (Or.inl (hw _ (List.mem_of_getElem? (i := 18) rfl))) (by decide) (t := .double) (t' := .long) (by decide) (by decide)))
  have f4_F_r0_meanThroughput := F2.other W4 (Or.inr (slot_ne (Or.inl (hw _ (List.mem_of_getElem? (i := 20) rfl))) (Or.inl (hw _ (List.mem_of_getElem? (i := 18) rfl))) (by decide) (t := .double) (t' := .long) (by decide) (by decide)))
  have f4_F_r0_throughputSquares := F3.other W4 (Or.inr (slot_ne (Or.inl (hw _ (List.mem_of_getElem? (i := 24) rfl))) (Or.inl (hw _ (List.mem_of_getElem? (i := 18) rfl))) (by decide) (t := .double) (t' := .long) (by decide) (by decide)))
  have f4_F_r0_products := F4.other W4 (Or.inr (slot_ne (Or.inl (hw _ (List.mem_of_getElem? (i := 26) rfl))) (Or.inl (hw _ (List.mem_of_getElem? (i := 18) rfl))) (by decide) (t := .double) (t' := .long) (by decide) (by decide)))
  have f4_F_r0_busy := F5.other W4 (Or.inr (slot_ne (Or.inl (hw _ (List.mem_of_getElem? (i := 28) rfl))) (Or.inl (hw _ (List.mem_of_getElem? (i := 18) rfl))) (by decide) (t := .boolean) (t' := .long) (by decide) (by decide)))
  have K4 := K0.wr W4 (Or.inl (List.mem_of_getElem? (i := 0) rfl))
  have Z4 := Nat.le_trans Z0 (Keep.of_wr W4).1
  have N4 := Fr.snoc X4 N0 g0
  refine oS (u' := T4.setTop (mkF m 10 #[.val (.ref r0), .val (.double p1), .second, .val (.double p2), .second, .unset, .unset, .unset, .unset] [])) st4 ?_
  refine oS (u' := T4.setTop (mkF m 11 #[.val (.ref r0), .val (.double p1), .second, .val (.double p2), .second, .unset, .unset, .unset, .unset] [(.double p2)])) (fun _ kst => XS.dloadN X4.here hx rfl (hb hby own_da_10) rfl kst) ?_
  refine oS (u' := T4.setTop (mkF m 12 #[.val (.ref r0), .val (.double p1), .second, .val (.double p2), .second, .unset, .unset, .unset, .unset] [(.ref r0), (.double p2)])) (fun _ kst => XS.aloadN X4.here hx rfl (hb hby own_da_11) rfl rfl kst) ?_
  obtain ⟨T5, X5, e5, st5⟩ := getF X4 hx hZ hown (host := "") (Or.inl (hw _ (List.mem_of_getElem? (i := 19) rfl))) Via.refl e4 f4_F_r0_meanThroughput (g := (mkF m 12 #[.val (.ref r0), .val (.double p1), .second, .val (.double p2), .second, .unset, .unset, .unset, .unset] [(.ref r0), (.double p2)])) rfl rfl (hb hby own_da_12)
  refine oS (u' := T5.setTop (mkF m 15 #[.val (.ref r0), .val (.double p1), .second, .val (.double p2), .second, .unset, .unset, .unset, .unset] [(.double mT), (.double p2)])) st5 ?_
  refine oS (u' := T5.setTop (mkF m 16 #[.val (.ref r0), .val (.double p1), .second, .val (.double p2), .second, .unset, .unset, .unset, .unset] [(.double (FP.dsub p2 mT))])) (fun _ kst => XS.dsubS X5.here hx rfl (hb hby own_da_15) rfl ok.1.1 rfl kst) ?_
  refine oS (u' := T5.setTop (mkF m 18 #[.val (.ref r0), .val (.double p1), .second, .val (.double p2), .second, .val (.double (FP.dsub p2 mT)), .second, .unset, .unset] [])) (fun _ kst => XS.dstore X5.here hx rfl (hb hby own_da_16) rfl (l' := #[.val (.ref r0), .val (.double p1), .second, .val (.double p2), .second, .val (.double (FP.dsub p2 mT)), .second, .unset, .unset]) rfl kst) ?_
  refine oS (u' := T5.setTop (mkF m 19 #[.val (.ref r0), .val (.double p1), .second, .val (.double p2), .second, .val (.double (FP.dsub p2 mT)), .second, .unset, .unset] [(.double p1)])) (fun _ kst => XS.dloadN X5.here hx rfl (hb hby own_da_18) rfl kst) ?_
  refine oS (u' := T5.setTop (mkF m 20 #[.val (.ref r0), .val (.double p1), .second, .val (.double p2), .second, .val (.double (FP.dsub p2 mT)), .second, .unset, .unset] [(.ref r0), (.double p1)])) (fun _ kst => XS.aloadN X5.here hx rfl (hb hby own_da_19) rfl rfl kst) ?_
  obtain ⟨T6, X6, e6, st6⟩ := getF X5 hx hZ hown (host := "") (Or.inl (hw _ (List.mem_of_getElem? (i := 21) rfl))) Via.refl e5 f4_F_r0_meanCpu (g := (mkF m 20 #[.val (.ref r0), .val (.double p1), .second, .val (.double p2), .second, .val (.double (FP.dsub p2 mT)), .second, .unset, .unset] [(.ref r0), (.double p1)])) rfl rfl (hb hby own_da_20)
  refine oS (u' := T6.setTop (mkF m 23 #[.val (.ref r0), .val (.double p1), .second, .val (.double p2), .second, .val (.double (FP.dsub p2 mT)), .second, .unset, .unset] [(.double mC), (.double p1)])) st6 ?_
  refine oS (u' := T6.setTop (mkF m 24 #[.val (.ref r0), .val (.double p1), .second, .val (.double p2), .second, .val (.double (FP.dsub p2 mT)), .second, .unset, .unset] [(.double (FP.dsub p1 mC))])) (fun _ kst => XS.dsubS X6.here hx rfl (hb hby own_da_23) rfl ok.2.1 rfl kst) ?_
  refine oS (u' := T6.setTop (mkF m 26 #[.val (.ref r0), .val (.double p1), .second, .val (.double p2), .second, .val (.double (FP.dsub p2 mT)), .second, .val (.double (FP.dsub p1 mC)), .second] [])) (fun _ kst => XS.dstore X6.here hx rfl (hb hby own_da_24) rfl (l' := #[.val (.ref r0), .val (.double p1), .second, .val (.double p2), .second, .val (.double (FP.dsub p2 mT)), .second, .val (.double (FP.dsub p1 mC)), .second]) rfl kst) ?_
  refine oS (u' := T6.setTop (mkF m 27 #[.val (.ref r0), .val (.double p1), .second, .val (.double p2), .second, .val (.double (FP.dsub p2 mT)), .second, .val (.double (FP.dsub p1 mC)), .second] [(.ref r0)])) (fun _ kst => XS.aloadN X6.here hx rfl (hb hby own_da_26) rfl rfl kst) ?_
  refine oS (u' := T6.setTop (mkF m 28 #[.val (.ref r0), .val (.double p1), .second, .val (.double p2), .second, .val (.double (FP.dsub p2 mT)), .second, .val (.double (FP.dsub p1 mC)), .second] [(.ref r0), (.ref r0)])) (fun _ kst => XS.dup X6.here hx rfl (hb hby own_da_27) rfl rfl kst) ?_
  obtain ⟨T7, X7, e7, st7⟩ := getF X6 hx hZ hown (host := "") (Or.inl (hw _ (List.mem_of_getElem? (i := 19) rfl))) Via.refl e6 f4_F_r0_meanThroughput (g := (mkF m 28 #[.val (.ref r0), .val (.double p1), .second, .val (.double p2), .second, .val (.double (FP.dsub p2 mT)), .second, .val (.double (FP.dsub p1 mC)), .second] [(.ref r0), (.ref r0)])) rfl rfl (hb hby own_da_28)
  refine oS (u' := T7.setTop (mkF m 31 #[.val (.ref r0), .val (.double p1), .second, .val (.double p2), .second, .val (.double (FP.dsub p2 mT)), .second, .val (.double (FP.dsub p1 mC)), .second] [(.double mT), (.ref r0)])) st7 ?_
  refine oS (u' := T7.setTop (mkF m 33 #[.val (.ref r0), .val (.double p1), .second, .val (.double p2), .second, .val (.double (FP.dsub p2 mT)), .second, .val (.double (FP.dsub p1 mC)), .second] [(.double (FP.dsub p2 mT)), (.double mT), (.ref r0)])) (fun _ kst => XS.dload X7.here hx rfl (hb hby own_da_31) rfl kst) ?_
  refine oS (u' := T7.setTop (mkF m 34 #[.val (.ref r0), .val (.double p1), .second, .val (.double p2), .second, .val (.double (FP.dsub p2 mT)), .second, .val (.double (FP.dsub p1 mC)), .second] [(.ref r0), (.double (FP.dsub p2 mT)), (.double mT), (.ref r0)])) (fun _ kst => XS.aloadN X7.here hx rfl (hb hby own_da_33) rfl rfl kst) ?_
  obtain ⟨T8, X8, e8, st8⟩ := getF X7 hx hZ hown (host := "") (Or.inl (hw _ (List.mem_of_getElem? (i := 17) rfl))) Via.refl e7 f4_F_r0_samples (g := (mkF m 34 #[.val (.ref r0), .val (.double p1), .second, .val (.double p2), .second, .val (.double (FP.dsub p2 mT)), .second, .val (.double (FP.dsub p1 mC)), .second] [(.ref r0), (.double (FP.dsub p2 mT)), (.double mT), (.ref r0)])) rfl rfl (hb hby own_da_34)
  refine oS (u' := T8.setTop (mkF m 37 #[.val (.ref r0), .val (.double p1), .second, .val (.double p2), .second, .val (.double (FP.dsub p2 mT)), .second, .val (.double (FP.dsub p1 mC)), .second] [(.long (n + (1 : Int64))), (.double (FP.dsub p2 mT)), (.double mT), (.ref r0)])) st8 ?_
  refine oS (u' := T8.setTop (mkF m 38 #[.val (.ref r0), .val (.double p1), .second, .val (.double p2), .second, .val (.double (FP.dsub p2 mT)), .second, .val (.double (FP.dsub p1 mC)), .second] [(.double (FP.l2d (n + (1 : Int64)))), (.double (FP.dsub p2 mT)), (.double mT), (.ref r0)])) (fun _ kst => XS.l2dS X8.here hx rfl (hb hby own_da_37) rfl rfl kst) ?_
  refine oS (u' := T8.setTop (mkF m 39 #[.val (.ref r0), .val (.double p1), .second, .val (.double p2), .second, .val (.double (FP.dsub p2 mT)), .second, .val (.double (FP.dsub p1 mC)), .second] [(.double (FP.ddiv (FP.dsub p2 mT) (FP.l2d (n + (1 : Int64))))), (.double mT), (.ref r0)])) (fun _ kst => XS.ddivS X8.here hx rfl (hb hby own_da_38) rfl ok.1.2.1 rfl kst) ?_
  refine oS (u' := T8.setTop (mkF m 40 #[.val (.ref r0), .val (.double p1), .second, .val (.double p2), .second, .val (.double (FP.dsub p2 mT)), .second, .val (.double (FP.dsub p1 mC)), .second] [(.double (own_mu p2 n mT)), (.ref r0)])) (fun _ kst => XS.daddS X8.here hx rfl (hb hby own_da_39) rfl ok.1.2.2.1 rfl kst) ?_
  obtain ⟨T9, h9, X9, e9, W9, st9⟩ := putF X8 hx hZ hown (host := "") (Or.inl (hw _ (List.mem_of_getElem? (i := 19) rfl))) Via.refl e8 f4_F_r0_meanThroughput f4_E_r0 (Or.inl (hw _ (List.mem_of_getElem? (i := 20) rfl))) (hw _ (List.mem_of_getElem? (i := 1) rfl)) (ty := .double) (by decide) rfl rfl (g := (mkF m 40 #[.val (.ref r0), .val (.double p1), .second, .val (.double p2), .second, .val (.double (FP.dsub p2 mT)), .second, .val (.double (FP.dsub p1 mC)), .second] [(.double (own_mu p2 n mT)), (.ref r0)])) rfl rfl (hb hby own_da_40)
  have f9_E_r0 := f4_E_r0.wr W9
  have f9_F_r0_samples := f4_F_r0_samples.other W9 (Or.inr (slot_ne (Or.inl (hw _ (List.mem_of_getElem? (i := 18) rfl))) (Or.inl (hw _ (List.mem_of_getElem? (i := 20) rfl))) (by decide) (t := .long) (t' := .double) (by decide) (by decide)))
  have f9_F_r0_meanCpu := f4_F_r0_meanCpu.other W9 (Or.inr (slot_ne (Or.inl (hw _ (List.mem_of_getElem? (i := 22) rfl))) (Or.inl (hw _ (List.mem_of_getElem? (i := 20) rfl))) (by decide) (t := .double) (t' := .double) (by decide) (by decide)))
  have f9_F_r0_meanThroughput := f4_F_r0_meanThroughput.same W9
  have f9_F_r0_throughputSquares := f4_F_r0_throughputSquares.other W9 (Or.inr (slot_ne (Or.inl (hw _ (List.mem_of_getElem? (i := 24) rfl))) (Or.inl (hw _ (List.mem_of_getElem? (i := 20) rfl))) (by decide) (t := .double) (t' := .double) (by decide) (by decide)))
  have f9_F_r0_products := f4_F_r0_products.other W9 (Or.inr (slot_ne (Or.inl (hw _ (List.mem_of_getElem? (i := 26) rfl))) (Or.inl (hw _ (List.mem_of_getElem? (i := 20) rfl))) (by decide) (t := .double) (t' := .double) (by decide) (by decide)))
  have f9_F_r0_busy := f4_F_r0_busy.other W9 (Or.inr (slot_ne (Or.inl (hw _ (List.mem_of_getElem? (i := 28) rfl))) (Or.inl (hw _ (List.mem_of_getElem? (i := 20) rfl))) (by decide) (t := .boolean) (t' := .double) (by decide) (by decide)))
  have K9 := K4.wr W9 (Or.inl (List.mem_of_getElem? (i := 0) rfl))
  have Z9 := Nat.le_trans Z4 (Keep.of_wr W9).1
  have N9 := Fr.snoc X9 N4 g0
  refine oS (u' := T9.setTop (mkF m 43 #[.val (.ref r0), .val (.double p1), .second, .val (.double p2), .second, .val (.double (FP.dsub p2 mT)), .second, .val (.double (FP.dsub p1 mC)), .second] [])) st9 ?_
  refine oS (u' := T9.setTop (mkF m 44 #[.val (.ref r0), .val (.double p1), .second, .val (.double p2), .second, .val (.double (FP.dsub p2 mT)), .second, .val (.double (FP.dsub p1 mC)), .second] [(.ref r0)])) (fun _ kst => XS.aloadN X9.here hx rfl (hb hby own_da_43) rfl rfl kst) ?_
  refine oS (u' := T9.setTop (mkF m 45 #[.val (.ref r0), .val (.double p1), .second, .val (.double p2), .second, .val (.double (FP.dsub p2 mT)), .second, .val (.double (FP.dsub p1 mC)), .second] [(.ref r0), (.ref r0)])) (fun _ kst => XS.dup X9.here hx rfl (hb hby own_da_44) rfl rfl kst) ?_
  obtain ⟨T10, X10, e10, st10⟩ := getF X9 hx hZ hown (host := "") (Or.inl (hw _ (List.mem_of_getElem? (i := 21) rfl))) Via.refl e9 f9_F_r0_meanCpu (g := (mkF m 45 #[.val (.ref r0), .val (.double p1), .second, .val (.double p2), .second, .val (.double (FP.dsub p2 mT)), .second, .val (.double (FP.dsub p1 mC)), .second] [(.ref r0), (.ref r0)])) rfl rfl (hb hby own_da_45)
  refine oS (u' := T10.setTop (mkF m 48 #[.val (.ref r0), .val (.double p1), .second, .val (.double p2), .second, .val (.double (FP.dsub p2 mT)), .second, .val (.double (FP.dsub p1 mC)), .second] [(.double mC), (.ref r0)])) st10 ?_
  refine oS (u' := T10.setTop (mkF m 50 #[.val (.ref r0), .val (.double p1), .second, .val (.double p2), .second, .val (.double (FP.dsub p2 mT)), .second, .val (.double (FP.dsub p1 mC)), .second] [(.double (FP.dsub p1 mC)), (.double mC), (.ref r0)])) (fun _ kst => XS.dload X10.here hx rfl (hb hby own_da_48) rfl kst) ?_
  refine oS (u' := T10.setTop (mkF m 51 #[.val (.ref r0), .val (.double p1), .second, .val (.double p2), .second, .val (.double (FP.dsub p2 mT)), .second, .val (.double (FP.dsub p1 mC)), .second] [(.ref r0), (.double (FP.dsub p1 mC)), (.double mC), (.ref r0)])) (fun _ kst => XS.aloadN X10.here hx rfl (hb hby own_da_50) rfl rfl kst) ?_
  obtain ⟨T11, X11, e11, st11⟩ := getF X10 hx hZ hown (host := "") (Or.inl (hw _ (List.mem_of_getElem? (i := 17) rfl))) Via.refl e10 f9_F_r0_samples (g := (mkF m 51 #[.val (.ref r0), .val (.double p1), .second, .val (.double p2), .second, .val (.double (FP.dsub p2 mT)), .second, .val (.double (FP.dsub p1 mC)), .second] [(.ref r0), (.double (FP.dsub p1 mC)), (.double mC), (.ref r0)])) rfl rfl (hb hby own_da_51)
  refine oS (u' := T11.setTop (mkF m 54 #[.val (.ref r0), .val (.double p1), .second, .val (.double p2), .second, .val (.double (FP.dsub p2 mT)), .second, .val (.double (FP.dsub p1 mC)), .second] [(.long (n + (1 : Int64))), (.double (FP.dsub p1 mC)), (.double mC), (.ref r0)])) st11 ?_
  refine oS (u' := T11.setTop (mkF m 55 #[.val (.ref r0), .val (.double p1), .second, .val (.double p2), .second, .val (.double (FP.dsub p2 mT)), .second, .val (.double (FP.dsub p1 mC)), .second] [(.double (FP.l2d (n + (1 : Int64)))), (.double (FP.dsub p1 mC)), (.double mC), (.ref r0)])) (fun _ kst => XS.l2dS X11.here hx rfl (hb hby own_da_54) rfl rfl kst) ?_
  refine oS (u' := T11.setTop (mkF m 56 #[.val (.ref r0), .val (.double p1), .second, .val (.double p2), .second, .val (.double (FP.dsub p2 mT)), .second, .val (.double (FP.dsub p1 mC)), .second] [(.double (FP.ddiv (FP.dsub p1 mC) (FP.l2d (n + (1 : Int64))))), (.double mC), (.ref r0)])) (fun _ kst => XS.ddivS X11.here hx rfl (hb hby own_da_55) rfl ok.2.2.1 rfl kst) ?_
  refine oS (u' := T11.setTop (mkF m 57 #[.val (.ref r0), .val (.double p1), .second, .val (.double p2), .second, .val (.double (FP.dsub p2 mT)), .second, .val (.double (FP.dsub p1 mC)), .second] [(.double (own_mu p1 n mC)), (.ref r0)])) (fun _ kst => XS.daddS X11.here hx rfl (hb hby own_da_56) rfl ok.2.2.2.1 rfl kst) ?_
  obtain ⟨T12, h12, X12, e12, W12, st12⟩ := putF X11 hx hZ hown (host := "") (Or.inl (hw _ (List.mem_of_getElem? (i := 21) rfl))) Via.refl e11 f9_F_r0_meanCpu f9_E_r0 (Or.inl (hw _ (List.mem_of_getElem? (i := 22) rfl))) (hw _ (List.mem_of_getElem? (i := 1) rfl)) (ty := .double) (by decide) rfl rfl (g := (mkF m 57 #[.val (.ref r0), .val (.double p1), .second, .val (.double p2), .second, .val (.double (FP.dsub p2 mT)), .second, .val (.double (FP.dsub p1 mC)), .second] [(.double (own_mu p1 n mC)), (.ref r0)])) rfl rfl (hb hby own_da_57)
  have f12_E_r0 := f9_E_r0.wr W12
  have f12_F_r0_samples := f9_F_r0_samples.other W12 (Or.inr (slot_ne (Or.inl (hw _ (List.mem_of_getElem? (i := 18) rfl))) (Or.inl (hw _ (List.mem_of_getElem? (i := 22) rfl))) (by decide) (t := .long) (t' := .double) (by decide) (by decide)))
  have f12_F_r0_meanCpu := f9_F_r0_meanCpu.same W12
  have f12_F_r0_meanThroughput := f9_F_r0_meanThroughput.other W12 (Or.inr (slot_ne (Or.inl (hw _ (List.mem_of_getElem? (i := 20) rfl))) (Or.inl (hw _ (List.mem_of_getElem? (i := 22) rfl))) (by decide) (t := .double) (t' := .double) (by decide) (by decide)))
  have f12_F_r0_throughputSquares := f9_F_r0_throughputSquares.other W12 (Or.inr (slot_ne (Or.inl (hw _ (List.mem_of_getElem? (i := 24) rfl))) (Or.inl (hw _ (List.mem_of_getElem? (i := 22) rfl))) (by decide) (t := .double) (t' := .double) (by decide) (by decide)))
  have f12_F_r0_products := f9_F_r0_products.other W12 (Or.inr (slot_ne (Or.inl (hw _ (List.mem_of_getElem? (i := 26) rfl))) (Or.inl (hw _ (List.mem_of_getElem? (i := 22) rfl))) (by decide) (t := .double) (t' := .double) (by decide) (by decide)))
  have f12_F_r0_busy := f9_F_r0_busy.other W12 (Or.inr (slot_ne (Or.inl (hw _ (List.mem_of_getElem? (i := 28) rfl))) (Or.inl (hw _ (List.mem_of_getElem? (i := 22) rfl))) (by decide) (t := .boolean) (t' := .double) (by decide) (by decide)))
  have K12 := K9.wr W12 (Or.inl (List.mem_of_getElem? (i := 0) rfl))
  have Z12 := Nat.le_trans Z9 (Keep.of_wr W12).1
  have N12 := Fr.snoc X12 N9 g0
  refine oS (u' := T12.setTop (mkF m 60 #[.val (.ref r0), .val (.double p1), .second, .val (.double p2), .second, .val (.double (FP.dsub p2 mT)), .second, .val (.double (FP.dsub p1 mC)), .second] [])) st12 ?_
  refine oS (u' := T12.setTop (mkF m 61 #[.val (.ref r0), .val (.double p1), .second, .val (.double p2), .second, .val (.double (FP.dsub p2 mT)), .second, .val (.double (FP.dsub p1 mC)), .second] [(.ref r0)])) (fun _ kst => XS.aloadN X12.here hx rfl (hb hby own_da_60) rfl rfl kst) ?_
  refine oS (u' := T12.setTop (mkF m 62 #[.val (.ref r0), .val (.double p1), .second, .val (.double p2), .second, .val (.double (FP.dsub p2 mT)), .second, .val (.double (FP.dsub p1 mC)), .second] [(.ref r0), (.ref r0)])) (fun _ kst => XS.dup X12.here hx rfl (hb hby own_da_61) rfl rfl kst) ?_
  obtain ⟨T13, X13, e13, st13⟩ := getF X12 hx hZ hown (host := "") (Or.inl (hw _ (List.mem_of_getElem? (i := 23) rfl))) Via.refl e12 f12_F_r0_throughputSquares (g := (mkF m 62 #[.val (.ref r0), .val (.double p1), .second, .val (.double p2), .second, .val (.double (FP.dsub p2 mT)), .second, .val (.double (FP.dsub p1 mC)), .second] [(.ref r0), (.ref r0)])) rfl rfl (hb hby own_da_62)
  refine oS (u' := T13.setTop (mkF m 65 #[.val (.ref r0), .val (.double p1), .second, .val (.double p2), .second, .val (.double (FP.dsub p2 mT)), .second, .val (.double (FP.dsub p1 mC)), .second] [(.double sq), (.ref r0)])) st13 ?_
  refine oS (u' := T13.setTop (mkF m 67 #[.val (.ref r0), .val (.double p1), .second, .val (.double p2), .second, .val (.double (FP.dsub p2 mT)), .second, .val (.double (FP.dsub p1 mC)), .second] [(.double (FP.dsub p2 mT)), (.double sq), (.ref r0)])) (fun _ kst => XS.dload X13.here hx rfl (hb hby own_da_65) rfl kst) ?_
  refine oS (u' := T13.setTop (mkF m 68 #[.val (.ref r0), .val (.double p1), .second, .val (.double p2), .second, .val (.double (FP.dsub p2 mT)), .second, .val (.double (FP.dsub p1 mC)), .second] [(.double p2), (.double (FP.dsub p2 mT)), (.double sq), (.ref r0)])) (fun _ kst => XS.dloadN X13.here hx rfl (hb hby own_da_67) rfl kst) ?_
  refine oS (u' := T13.setTop (mkF m 69 #[.val (.ref r0), .val (.double p1), .second, .val (.double p2), .second, .val (.double (FP.dsub p2 mT)), .second, .val (.double (FP.dsub p1 mC)), .second] [(.ref r0), (.double p2), (.double (FP.dsub p2 mT)), (.double sq), (.ref r0)])) (fun _ kst => XS.aloadN X13.here hx rfl (hb hby own_da_68) rfl rfl kst) ?_
  obtain ⟨T14, X14, e14, st14⟩ := getF X13 hx hZ hown (host := "") (Or.inl (hw _ (List.mem_of_getElem? (i := 19) rfl))) Via.refl e13 f12_F_r0_meanThroughput (g := (mkF m 69 #[.val (.ref r0), .val (.double p1), .second, .val (.double p2), .second, .val (.double (FP.dsub p2 mT)), .second, .val (.double (FP.dsub p1 mC)), .second] [(.ref r0), (.double p2), (.double (FP.dsub p2 mT)), (.double sq), (.ref r0)])) rfl rfl (hb hby own_da_69)
  refine oS (u' := T14.setTop (mkF m 72 #[.val (.ref r0), .val (.double p1), .second, .val (.double p2), .second, .val (.double (FP.dsub p2 mT)), .second, .val (.double (FP.dsub p1 mC)), .second] [(.double (own_mu p2 n mT)), (.double p2), (.double (FP.dsub p2 mT)), (.double sq), (.ref r0)])) st14 ?_
  refine oS (u' := T14.setTop (mkF m 73 #[.val (.ref r0), .val (.double p1), .second, .val (.double p2), .second, .val (.double (FP.dsub p2 mT)), .second, .val (.double (FP.dsub p1 mC)), .second] [(.double (FP.dsub p2 (own_mu p2 n mT))), (.double (FP.dsub p2 mT)), (.double sq), (.ref r0)])) (fun _ kst => XS.dsubS X14.here hx rfl (hb hby own_da_72) rfl ok.1.2.2.2.1 rfl kst) ?_
  refine oS (u' := T14.setTop (mkF m 74 #[.val (.ref r0), .val (.double p1), .second, .val (.double p2), .second, .val (.double (FP.dsub p2 mT)), .second, .val (.double (FP.dsub p1 mC)), .second] [(.double (FP.dmul (FP.dsub p2 mT) (FP.dsub p2 (own_mu p2 n mT)))), (.double sq), (.ref r0)])) (fun _ kst => XS.dmulS X14.here hx rfl (hb hby own_da_73) rfl ok.1.2.2.2.2.1 rfl kst) ?_
  refine oS (u' := T14.setTop (mkF m 75 #[.val (.ref r0), .val (.double p1), .second, .val (.double p2), .second, .val (.double (FP.dsub p2 mT)), .second, .val (.double (FP.dsub p1 mC)), .second] [(.double (own_sd p2 n mT sq)), (.ref r0)])) (fun _ kst => XS.daddS X14.here hx rfl (hb hby own_da_74) rfl ok.1.2.2.2.2.2 rfl kst) ?_
  obtain ⟨T15, h15, X15, e15, W15, st15⟩ := putF X14 hx hZ hown (host := "") (Or.inl (hw _ (List.mem_of_getElem? (i := 23) rfl))) Via.refl e14 f12_F_r0_throughputSquares f12_E_r0 (Or.inl (hw _ (List.mem_of_getElem? (i := 24) rfl))) (hw _ (List.mem_of_getElem? (i := 1) rfl)) (ty := .double) (by decide) rfl rfl (g := (mkF m 75 #[.val (.ref r0), .val (.double p1), .second, .val (.double p2), .second, .val (.double (FP.dsub p2 mT)), .second, .val (.double (FP.dsub p1 mC)), .second] [(.double (own_sd p2 n mT sq)), (.ref r0)])) rfl rfl (hb hby own_da_75)
  have f15_E_r0 := f12_E_r0.wr W15
  have f15_F_r0_samples := f12_F_r0_samples.other W15 (Or.inr (slot_ne (Or.inl (hw _ (List.mem_of_getElem? (i := 18) rfl))) (Or.inl (hw _ (List.mem_of_getElem? (i := 24) rfl))) (by decide) (t := .long) (t' := .double) (by decide) (by decide)))
  have f15_F_r0_meanCpu := f12_F_r0_meanCpu.other W15 (Or.inr (slot_ne (Or.inl (hw _ (List.mem_of_getElem? (i := 22) rfl))) (Or.inl (hw _ (List.mem_of_getElem? (i := 24) rfl))) (by decide) (t := .double) (t' := .double) (by decide) (by decide)))
  have f15_F_r0_meanThroughput := f12_F_r0_meanThroughput.other W15 (Or.inr (slot_ne (Or.inl (hw _ (List.mem_of_getElem? (i := 20) rfl))) (Or.inl (hw _ (List.mem_of_getElem? (i := 24) rfl))) (by decide) (t := .double) (t' := .double) (by decide) (by decide)))
  have f15_F_r0_throughputSquares := f12_F_r0_throughputSquares.same W15
  have f15_F_r0_products := f12_F_r0_products.other W15 (Or.inr (slot_ne (Or.inl (hw _ (List.mem_of_getElem? (i := 26) rfl))) (Or.inl (hw _ (List.mem_of_getElem? (i := 24) rfl))) (by decide) (t := .double) (t' := .double) (by decide) (by decide)))
  have f15_F_r0_busy := f12_F_r0_busy.other W15 (Or.inr (slot_ne (Or.inl (hw _ (List.mem_of_getElem? (i := 28) rfl))) (Or.inl (hw _ (List.mem_of_getElem? (i := 24) rfl))) (by decide) (t := .boolean) (t' := .double) (by decide) (by decide)))
  have K15 := K12.wr W15 (Or.inl (List.mem_of_getElem? (i := 0) rfl))
  have Z15 := Nat.le_trans Z12 (Keep.of_wr W15).1
  have N15 := Fr.snoc X15 N12 g0
  refine oS (u' := T15.setTop (mkF m 78 #[.val (.ref r0), .val (.double p1), .second, .val (.double p2), .second, .val (.double (FP.dsub p2 mT)), .second, .val (.double (FP.dsub p1 mC)), .second] [])) st15 ?_
  refine oS (u' := T15.setTop (mkF m 79 #[.val (.ref r0), .val (.double p1), .second, .val (.double p2), .second, .val (.double (FP.dsub p2 mT)), .second, .val (.double (FP.dsub p1 mC)), .second] [(.ref r0)])) (fun _ kst => XS.aloadN X15.here hx rfl (hb hby own_da_78) rfl rfl kst) ?_
  refine oS (u' := T15.setTop (mkF m 80 #[.val (.ref r0), .val (.double p1), .second, .val (.double p2), .second, .val (.double (FP.dsub p2 mT)), .second, .val (.double (FP.dsub p1 mC)), .second] [(.ref r0), (.ref r0)])) (fun _ kst => XS.dup X15.here hx rfl (hb hby own_da_79) rfl rfl kst) ?_
  obtain ⟨T16, X16, e16, st16⟩ := getF X15 hx hZ hown (host := "") (Or.inl (hw _ (List.mem_of_getElem? (i := 25) rfl))) Via.refl e15 f15_F_r0_products (g := (mkF m 80 #[.val (.ref r0), .val (.double p1), .second, .val (.double p2), .second, .val (.double (FP.dsub p2 mT)), .second, .val (.double (FP.dsub p1 mC)), .second] [(.ref r0), (.ref r0)])) rfl rfl (hb hby own_da_80)
  refine oS (u' := T16.setTop (mkF m 83 #[.val (.ref r0), .val (.double p1), .second, .val (.double p2), .second, .val (.double (FP.dsub p2 mT)), .second, .val (.double (FP.dsub p1 mC)), .second] [(.double pr), (.ref r0)])) st16 ?_
  refine oS (u' := T16.setTop (mkF m 85 #[.val (.ref r0), .val (.double p1), .second, .val (.double p2), .second, .val (.double (FP.dsub p2 mT)), .second, .val (.double (FP.dsub p1 mC)), .second] [(.double (FP.dsub p1 mC)), (.double pr), (.ref r0)])) (fun _ kst => XS.dload X16.here hx rfl (hb hby own_da_83) rfl kst) ?_
  refine oS (u' := T16.setTop (mkF m 86 #[.val (.ref r0), .val (.double p1), .second, .val (.double p2), .second, .val (.double (FP.dsub p2 mT)), .second, .val (.double (FP.dsub p1 mC)), .second] [(.double p2), (.double (FP.dsub p1 mC)), (.double pr), (.ref r0)])) (fun _ kst => XS.dloadN X16.here hx rfl (hb hby own_da_85) rfl kst) ?_
  refine oS (u' := T16.setTop (mkF m 87 #[.val (.ref r0), .val (.double p1), .second, .val (.double p2), .second, .val (.double (FP.dsub p2 mT)), .second, .val (.double (FP.dsub p1 mC)), .second] [(.ref r0), (.double p2), (.double (FP.dsub p1 mC)), (.double pr), (.ref r0)])) (fun _ kst => XS.aloadN X16.here hx rfl (hb hby own_da_86) rfl rfl kst) ?_
  obtain ⟨T17, X17, e17, st17⟩ := getF X16 hx hZ hown (host := "") (Or.inl (hw _ (List.mem_of_getElem? (i := 19) rfl))) Via.refl e16 f15_F_r0_meanThroughput (g := (mkF m 87 #[.val (.ref r0), .val (.double p1), .second, .val (.double p2), .second, .val (.double (FP.dsub p2 mT)), .second, .val (.double (FP.dsub p1 mC)), .second] [(.ref r0), (.double p2), (.double (FP.dsub p1 mC)), (.double pr), (.ref r0)])) rfl rfl (hb hby own_da_87)
  refine oS (u' := T17.setTop (mkF m 90 #[.val (.ref r0), .val (.double p1), .second, .val (.double p2), .second, .val (.double (FP.dsub p2 mT)), .second, .val (.double (FP.dsub p1 mC)), .second] [(.double (own_mu p2 n mT)), (.double p2), (.double (FP.dsub p1 mC)), (.double pr), (.ref r0)])) st17 ?_
  refine oS (u' := T17.setTop (mkF m 91 #[.val (.ref r0), .val (.double p1), .second, .val (.double p2), .second, .val (.double (FP.dsub p2 mT)), .second, .val (.double (FP.dsub p1 mC)), .second] [(.double (FP.dsub p2 (own_mu p2 n mT))), (.double (FP.dsub p1 mC)), (.double pr), (.ref r0)])) (fun _ kst => XS.dsubS X17.here hx rfl (hb hby own_da_90) rfl ok.1.2.2.2.1 rfl kst) ?_
  refine oS (u' := T17.setTop (mkF m 92 #[.val (.ref r0), .val (.double p1), .second, .val (.double p2), .second, .val (.double (FP.dsub p2 mT)), .second, .val (.double (FP.dsub p1 mC)), .second] [(.double (FP.dmul (FP.dsub p1 mC) (FP.dsub p2 (own_mu p2 n mT)))), (.double pr), (.ref r0)])) (fun _ kst => XS.dmulS X17.here hx rfl (hb hby own_da_91) rfl ok.2.2.2.2.1 rfl kst) ?_
  refine oS (u' := T17.setTop (mkF m 93 #[.val (.ref r0), .val (.double p1), .second, .val (.double p2), .second, .val (.double (FP.dsub p2 mT)), .second, .val (.double (FP.dsub p1 mC)), .second] [(.double (own_pr p1 p2 n mC mT pr)), (.ref r0)])) (fun _ kst => XS.daddS X17.here hx rfl (hb hby own_da_92) rfl ok.2.2.2.2.2 rfl kst) ?_
  obtain ⟨T18, h18, X18, e18, W18, st18⟩ := putF X17 hx hZ hown (host := "") (Or.inl (hw _ (List.mem_of_getElem? (i := 25) rfl))) Via.refl e17 f15_F_r0_products f15_E_r0 (Or.inl (hw _ (List.mem_of_getElem? (i := 26) rfl))) (hw _ (List.mem_of_getElem? (i := 1) rfl)) (ty := .double) (by decide) rfl rfl (g := (mkF m 93 #[.val (.ref r0), .val (.double p1), .second, .val (.double p2), .second, .val (.double (FP.dsub p2 mT)), .second, .val (.double (FP.dsub p1 mC)), .second] [(.double (own_pr p1 p2 n mC mT pr)), (.ref r0)])) rfl rfl (hb hby own_da_93)
  have f18_E_r0 := f15_E_r0.wr W18
  have f18_F_r0_samples := f15_F_r0_samples.other W18 (Or.inr (slot_ne (Or.inl (hw _ (List.mem_of_getElem? (i := 18) rfl))) (Or.inl (hw _ (List.mem_of_getElem? (i := 26) rfl))) (by decide) (t := .long) (t' := .double) (by decide) (by decide)))
  have f18_F_r0_meanCpu := f15_F_r0_meanCpu.other W18 (Or.inr (slot_ne (Or.inl (hw _ (List.mem_of_getElem? (i := 22) rfl))) (Or.inl (hw _ (List.mem_of_getElem? (i := 26) rfl))) (by decide) (t := .double) (t' := .double) (by decide) (by decide)))
  have f18_F_r0_meanThroughput := f15_F_r0_meanThroughput.other W18 (Or.inr (slot_ne (Or.inl (hw _ (List.mem_of_getElem? (i := 20) rfl))) (Or.inl (hw _ (List.mem_of_getElem? (i := 26) rfl))) (by decide) (t := .double) (t' := .double) (by decide) (by decide)))
  have f18_F_r0_throughputSquares := f15_F_r0_throughputSquares.other W18 (Or.inr (slot_ne (Or.inl (hw _ (List.mem_of_getElem? (i := 24) rfl))) (Or.inl (hw _ (List.mem_of_getElem? (i := 26) rfl))) (by decide) (t := .double) (t' := .double) (by decide) (by decide)))
  have f18_F_r0_products := f15_F_r0_products.same W18
  have f18_F_r0_busy := f15_F_r0_busy.other W18 (Or.inr (slot_ne (Or.inl (hw _ (List.mem_of_getElem? (i := 28) rfl))) (Or.inl (hw _ (List.mem_of_getElem? (i := 26) rfl))) (by decide) (t := .boolean) (t' := .double) (by decide) (by decide)))
  have K18 := K15.wr W18 (Or.inl (List.mem_of_getElem? (i := 0) rfl))
  have Z18 := Nat.le_trans Z15 (Keep.of_wr W18).1
  have N18 := Fr.snoc X18 N15 g0
  refine oS (u' := T18.setTop (mkF m 96 #[.val (.ref r0), .val (.double p1), .second, .val (.double p2), .second, .val (.double (FP.dsub p2 mT)), .second, .val (.double (FP.dsub p1 mC)), .second] [])) st18 ?_
  refine oS (u' := T18.setTop (mkF m 97 #[.val (.ref r0), .val (.double p1), .second, .val (.double p2), .second, .val (.double (FP.dsub p2 mT)), .second, .val (.double (FP.dsub p1 mC)), .second] [(.ref r0)])) (fun _ kst => XS.aloadN X18.here hx rfl (hb hby own_da_96) rfl rfl kst) ?_
  refine oS (u' := T18.setTop (mkF m 98 #[.val (.ref r0), .val (.double p1), .second, .val (.double p2), .second, .val (.double (FP.dsub p2 mT)), .second, .val (.double (FP.dsub p1 mC)), .second] [(.ref r0), (.ref r0)])) (fun _ kst => XS.dup X18.here hx rfl (hb hby own_da_97) rfl rfl kst) ?_
  obtain ⟨T19, X19, e19, st19⟩ := getF X18 hx hZ hown (host := "") (Or.inl (hw _ (List.mem_of_getElem? (i := 27) rfl))) Via.refl e18 f18_F_r0_busy (g := (mkF m 98 #[.val (.ref r0), .val (.double p1), .second, .val (.double p2), .second, .val (.double (FP.dsub p2 mT)), .second, .val (.double (FP.dsub p1 mC)), .second] [(.ref r0), (.ref r0)])) rfl rfl (hb hby own_da_98)
  refine oS (u' := T19.setTop (mkF m 101 #[.val (.ref r0), .val (.double p1), .second, .val (.double p2), .second, .val (.double (FP.dsub p2 mT)), .second, .val (.double (FP.dsub p1 mC)), .second] [(.int bz), (.ref r0)])) st19 ?_
  refine oS (u' := T19.setTop (mkF m 102 #[.val (.ref r0), .val (.double p1), .second, .val (.double p2), .second, .val (.double (FP.dsub p2 mT)), .second, .val (.double (FP.dsub p1 mC)), .second] [(.double p1), (.int bz), (.ref r0)])) (fun _ kst => XS.dloadN X19.here hx rfl (hb hby own_da_101) rfl kst) ?_
  refine oS (u' := T19.setTop (mkF m 103 #[.val (.ref r0), .val (.double p1), .second, .val (.double p2), .second, .val (.double (FP.dsub p2 mT)), .second, .val (.double (FP.dsub p1 mC)), .second] [(.double FP.dconst0), (.double p1), (.int bz), (.ref r0)])) (fun _ kst => XS.dconst0 X19.here hx rfl (hb hby own_da_102) rfl kst) ?_
  refine oS (u' := T19.setTop (mkF m 104 #[.val (.ref r0), .val (.double p1), .second, .val (.double p2), .second, .val (.double (FP.dsub p2 mT)), .second, .val (.double (FP.dsub p1 mC)), .second] [(.int (cmpValue (FP.dcmp p1 FP.dconst0) .l)), (.int bz), (.ref r0)])) (fun _ kst => XS.dcmpS X19.here hx rfl (hb hby own_da_103) rfl rfl kst) ?_
  by_cases hc20 : (0 : Int32) < (cmpValue (FP.dcmp p1 FP.dconst0) .l)
  · refine oS (u' := T19.setTop (mkF m 107 #[.val (.ref r0), .val (.double p1), .second, .val (.double p2), .second, .val (.double (FP.dsub p2 mT)), .second, .val (.double (FP.dsub p1 mC)), .second] [(.int bz), (.ref r0)])) (fun _ kst => XS.ifNo X19.here hx rfl (hb hby own_da_104) rfl ((if0 _ _).trans (tlt hc20).2.2.2) kst) ?_
    refine oS (u' := T19.setTop (mkF m 108 #[.val (.ref r0), .val (.double p1), .second, .val (.double p2), .second, .val (.double (FP.dsub p2 mT)), .second, .val (.double (FP.dsub p1 mC)), .second] [(.int (1 : Int32)), (.int bz), (.ref r0)])) (fun _ kst => XS.iconst X19.here hx rfl (hb hby own_da_107) kst) ?_
    refine oS (u' := T19.setTop (mkF m 112 #[.val (.ref r0), .val (.double p1), .second, .val (.double p2), .second, .val (.double (FP.dsub p2 mT)), .second, .val (.double (FP.dsub p1 mC)), .second] [(.int (1 : Int32)), (.int bz), (.ref r0)])) (fun _ kst => XS.goto X19.here hx rfl (pc0 := 108) (pc' := 112) rfl (hb hby own_da_108) (by decide) (by decide) kst) ?_
    refine oS (u' := T19.setTop (mkF m 113 #[.val (.ref r0), .val (.double p1), .second, .val (.double p2), .second, .val (.double (FP.dsub p2 mT)), .second, .val (.double (FP.dsub p1 mC)), .second] [(.int (bz ||| (1 : Int32))), (.ref r0)])) (fun _ kst => XS.ior X19.here hx rfl (hb hby own_da_112) rfl kst) ?_
    obtain ⟨T21, h21, X21, e21, W21, st21⟩ := putF X19 hx hZ hown (host := "") (Or.inl (hw _ (List.mem_of_getElem? (i := 27) rfl))) Via.refl e19 f18_F_r0_busy f18_E_r0 (Or.inl (hw _ (List.mem_of_getElem? (i := 28) rfl))) (hw _ (List.mem_of_getElem? (i := 1) rfl)) (ty := .boolean) (by decide) (own_nb1 hbz) (own_fb1 hbz) (g := (mkF m 113 #[.val (.ref r0), .val (.double p1), .second, .val (.double p2), .second, .val (.double (FP.dsub p2 mT)), .second, .val (.double (FP.dsub p1 mC)), .second] [(.int (bz ||| (1 : Int32))), (.ref r0)])) rfl rfl (hb hby own_da_113)
    have f21_E_r0 := f18_E_r0.wr W21
    have f21_F_r0_samples := f18_F_r0_samples.other W21 (Or.inr (slot_ne (Or.inl (hw _ (List.mem_of_getElem? (i := 18) rfl))) (Or.inl (hw _ (List.mem_of_getElem? (i := 28) rfl))) (by decide) (t := .long) (t' := .boolean) (by decide) (by decide)))
    have f21_F_r0_meanCpu := f18_F_r0_meanCpu.other W21 (Or.inr (slot_ne (Or.inl (hw _ (List.mem_of_getElem? (i := 22) rfl))) (Or.inl (hw _ (List.mem_of_getElem? (i := 28) rfl))) (by decide) (t := .double) (t' := .boolean) (by decide) (by decide)))
    have f21_F_r0_meanThroughput := f18_F_r0_meanThroughput.other W21 (Or.inr (slot_ne (Or.inl (hw _ (List.mem_of_getElem? (i := 20) rfl))) (Or.inl (hw _ (List.mem_of_getElem? (i := 28) rfl))) (by decide) (t := .double) (t' := .boolean) (by decide) (by decide)))
    have f21_F_r0_throughputSquares := f18_F_r0_throughputSquares.other W21 (Or.inr (slot_ne (Or.inl (hw _ (List.mem_of_getElem? (i := 24) rfl))) (Or.inl (hw _ (List.mem_of_getElem? (i := 28) rfl))) (by decide) (t := .double) (t' := .boolean) (by decide) (by decide)))
    have f21_F_r0_products := f18_F_r0_products.other W21 (Or.inr (slot_ne (Or.inl (hw _ (List.mem_of_getElem? (i := 26) rfl))) (Or.inl (hw _ (List.mem_of_getElem? (i := 28) rfl))) (by decide) (t := .double) (t' := .boolean) (by decide) (by decide)))
    have f21_F_r0_busy := f18_F_r0_busy.same W21
    have K21 := K18.wr W21 (Or.inl (List.mem_of_getElem? (i := 0) rfl))
    have Z21 := Nat.le_trans Z18 (Keep.of_wr W21).1
    have N21 := Fr.snoc X21 N18 g0
    refine oS (u' := T21.setTop (mkF m 116 #[.val (.ref r0), .val (.double p1), .second, .val (.double p2), .second, .val (.double (FP.dsub p2 mT)), .second, .val (.double (FP.dsub p1 mC)), .second] [])) st21 ?_
    refine own_ret0 X21 hx hlk hret (hb hby own_da_116) ?_ (by decide) (by decide)
    show _ ∧ _
    rw [e21]
    exact ⟨rfl, N21, K21, f21_F_r0_samples, f21_F_r0_meanCpu, f21_F_r0_meanThroughput, f21_F_r0_throughputSquares, f21_F_r0_products, (by unfold own_bz; rw [if_pos hc20]; exact f21_F_r0_busy)⟩
  · refine oS (u' := T19.setTop (mkF m 111 #[.val (.ref r0), .val (.double p1), .second, .val (.double p2), .second, .val (.double (FP.dsub p2 mT)), .second, .val (.double (FP.dsub p1 mC)), .second] [(.int bz), (.ref r0)])) (fun _ kst => XS.ifYes X19.here hx rfl (pc0 := 104) (pc' := 111) rfl (hb hby own_da_104) rfl ((if0 _ _).trans (flt hc20).2.2.2) (by decide) (by decide) kst) ?_
    refine oS (u' := T19.setTop (mkF m 112 #[.val (.ref r0), .val (.double p1), .second, .val (.double p2), .second, .val (.double (FP.dsub p2 mT)), .second, .val (.double (FP.dsub p1 mC)), .second] [(.int (0 : Int32)), (.int bz), (.ref r0)])) (fun _ kst => XS.iconst X19.here hx rfl (hb hby own_da_111) kst) ?_
    refine oS (u' := T19.setTop (mkF m 113 #[.val (.ref r0), .val (.double p1), .second, .val (.double p2), .second, .val (.double (FP.dsub p2 mT)), .second, .val (.double (FP.dsub p1 mC)), .second] [(.int (bz ||| (0 : Int32))), (.ref r0)])) (fun _ kst => XS.ior X19.here hx rfl (hb hby own_da_112) rfl kst) ?_
    obtain ⟨T22, h22, X22, e22, W22, st22⟩ := putF X19 hx hZ hown (host := "") (Or.inl (hw _ (List.mem_of_getElem? (i := 27) rfl))) Via.refl e19 f18_F_r0_busy f18_E_r0 (Or.inl (hw _ (List.mem_of_getElem? (i := 28) rfl))) (hw _ (List.mem_of_getElem? (i := 1) rfl)) (ty := .boolean) (by decide) (own_nb0 hbz) (own_fb0 hbz) (g := (mkF m 113 #[.val (.ref r0), .val (.double p1), .second, .val (.double p2), .second, .val (.double (FP.dsub p2 mT)), .second, .val (.double (FP.dsub p1 mC)), .second] [(.int (bz ||| (0 : Int32))), (.ref r0)])) rfl rfl (hb hby own_da_113)
    have f22_E_r0 := f18_E_r0.wr W22
    have f22_F_r0_samples := f18_F_r0_samples.other W22 (Or.inr (slot_ne (Or.inl (hw _ (List.mem_of_getElem? (i := 18) rfl))) (Or.inl (hw _ (List.mem_of_getElem? (i := 28) rfl))) (by decide) (t := .long) (t' := .boolean) (by decide) (by decide)))
    have f22_F_r0_meanCpu := f18_F_r0_meanCpu.other W22 (Or.inr (slot_ne (Or.inl (hw _ (List.mem_of_getElem? (i := 22) rfl))) (Or.inl (hw _ (List.mem_of_getElem? (i := 28) rfl))) (by decide) (t := .double) (t' := .boolean) (by decide) (by decide)))
    have f22_F_r0_meanThroughput := f18_F_r0_meanThroughput.other W22 (Or.inr (slot_ne (Or.inl (hw _ (List.mem_of_getElem? (i := 20) rfl))) (Or.inl (hw _ (List.mem_of_getElem? (i := 28) rfl))) (by decide) (t := .double) (t' := .boolean) (by decide) (by decide)))
    have f22_F_r0_throughputSquares := f18_F_r0_throughputSquares.other W22 (Or.inr (slot_ne (Or.inl (hw _ (List.mem_of_getElem? (i := 24) rfl))) (Or.inl (hw _ (List.mem_of_getElem? (i := 28) rfl))) (by decide) (t := .double) (t' := .boolean) (by decide) (by decide)))
    have f22_F_r0_products := f18_F_r0_products.other W22 (Or.inr (slot_ne (Or.inl (hw _ (List.mem_of_getElem? (i := 26) rfl))) (Or.inl (hw _ (List.mem_of_getElem? (i := 28) rfl))) (by decide) (t := .double) (t' := .boolean) (by decide) (by decide)))
    have f22_F_r0_busy := f18_F_r0_busy.same W22
    have K22 := K18.wr W22 (Or.inl (List.mem_of_getElem? (i := 0) rfl))
    have Z22 := Nat.le_trans Z18 (Keep.of_wr W22).1
    have N22 := Fr.snoc X22 N18 g0
    refine oS (u' := T22.setTop (mkF m 116 #[.val (.ref r0), .val (.double p1), .second, .val (.double p2), .second, .val (.double (FP.dsub p2 mT)), .second, .val (.double (FP.dsub p1 mC)), .second] [])) st22 ?_
    refine own_ret0 X22 hx hlk hret (hb hby own_da_116) ?_ (by decide) (by decide)
    show _ ∧ _
    rw [e22]
    exact ⟨rfl, N22, K22, f22_F_r0_samples, f22_F_r0_meanCpu, f22_F_r0_meanThroughput, f22_F_r0_throughputSquares, f22_F_r0_products, (by unfold own_bz; rw [if_neg hc20]; exact f22_F_r0_busy)⟩
theorem own_dt_0 : decode prog_24_method_3_code 0 = .ok (.aload_n 0, 1) := by decide +kernel
theorem own_dt_1 : decode prog_24_method_3_code 1 = .ok (.getfield 26, 3) := by decide +kernel
theorem own_dt_4 : decode prog_24_method_3_code 4 = .ok (.ifCond .ne 5, 3) := by decide +kernel
theorem own_dt_7 : decode prog_24_method_3_code 7 = .ok (.dconst 0, 1) := by decide +kernel
theorem own_dt_8 : decode prog_24_method_3_code 8 = .ok (.dreturn, 1) := by decide +kernel
theorem own_dt_9 : decode prog_24_method_3_code 9 = .ok (.aload_n 0, 1) := by decide +kernel
theorem own_dt_10 : decode prog_24_method_3_code 10 = .ok (.getfield 20, 3) := by decide +kernel
theorem own_dt_13 : decode prog_24_method_3_code 13 = .ok (.dconst 0, 1) := by decide +kernel
theorem own_dt_14 : decode prog_24_method_3_code 14 = .ok (.dcmp .l, 1) := by decide +kernel
theorem own_dt_15 : decode prog_24_method_3_code 15 = .ok (.ifCond .ne 15, 3) := by decide +kernel
theorem own_dt_18 : decode prog_24_method_3_code 18 = .ok (.aload_n 0, 1) := by decide +kernel
theorem own_dt_19 : decode prog_24_method_3_code 19 = .ok (.getfield 13, 3) := by decide +kernel
theorem own_dt_22 : decode prog_24_method_3_code 22 = .ok (.dload_n 1, 1) := by decide +kernel
theorem own_dt_23 : decode prog_24_method_3_code 23 = .ok (.dmul, 1) := by decide +kernel
theorem own_dt_24 : decode prog_24_method_3_code 24 = .ok (.aload_n 0, 1) := by decide +kernel
theorem own_dt_25 : decode prog_24_method_3_code 25 = .ok (.getfield 17, 3) := by decide +kernel
theorem own_dt_28 : decode prog_24_method_3_code 28 = .ok (.ddiv, 1) := by decide +kernel
theorem own_dt_29 : decode prog_24_method_3_code 29 = .ok (.dreturn, 1) := by decide +kernel
theorem own_dt_30 : decode prog_24_method_3_code 30 = .ok (.dload_n 3, 1) := by decide +kernel
theorem own_dt_31 : decode prog_24_method_3_code 31 = .ok (.ldc2_w 30, 3) := by decide +kernel
theorem own_dt_34 : decode prog_24_method_3_code 34 = .ok (.ddiv, 1) := by decide +kernel
theorem own_dt_35 : decode prog_24_method_3_code 35 = .ok (.dstore 5, 2) := by decide +kernel
theorem own_dt_37 : decode prog_24_method_3_code 37 = .ok (.aload_n 0, 1) := by decide +kernel
theorem own_dt_38 : decode prog_24_method_3_code 38 = .ok (.getfield 23, 3) := by decide +kernel
theorem own_dt_41 : decode prog_24_method_3_code 41 = .ok (.dload 5, 2) := by decide +kernel
theorem own_dt_43 : decode prog_24_method_3_code 43 = .ok (.aload_n 0, 1) := by decide +kernel
theorem own_dt_44 : decode prog_24_method_3_code 44 = .ok (.getfield 17, 3) := by decide +kernel
theorem own_dt_47 : decode prog_24_method_3_code 47 = .ok (.dmul, 1) := by decide +kernel
theorem own_dt_48 : decode prog_24_method_3_code 48 = .ok (.aload_n 0, 1) := by decide +kernel
theorem own_dt_49 : decode prog_24_method_3_code 49 = .ok (.getfield 13, 3) := by decide +kernel
theorem own_dt_52 : decode prog_24_method_3_code 52 = .ok (.dmul, 1) := by decide +kernel
theorem own_dt_53 : decode prog_24_method_3_code 53 = .ok (.dadd, 1) := by decide +kernel
theorem own_dt_54 : decode prog_24_method_3_code 54 = .ok (.aload_n 0, 1) := by decide +kernel
theorem own_dt_55 : decode prog_24_method_3_code 55 = .ok (.getfield 20, 3) := by decide +kernel
theorem own_dt_58 : decode prog_24_method_3_code 58 = .ok (.dload 5, 2) := by decide +kernel
theorem own_dt_60 : decode prog_24_method_3_code 60 = .ok (.aload_n 0, 1) := by decide +kernel
theorem own_dt_61 : decode prog_24_method_3_code 61 = .ok (.getfield 13, 3) := by decide +kernel
theorem own_dt_64 : decode prog_24_method_3_code 64 = .ok (.dmul, 1) := by decide +kernel
theorem own_dt_65 : decode prog_24_method_3_code 65 = .ok (.aload_n 0, 1) := by decide +kernel
theorem own_dt_66 : decode prog_24_method_3_code 66 = .ok (.getfield 13, 3) := by decide +kernel
theorem own_dt_69 : decode prog_24_method_3_code 69 = .ok (.dmul, 1) := by decide +kernel
theorem own_dt_70 : decode prog_24_method_3_code 70 = .ok (.dadd, 1) := by decide +kernel
theorem own_dt_71 : decode prog_24_method_3_code 71 = .ok (.ddiv, 1) := by decide +kernel
theorem own_dt_72 : decode prog_24_method_3_code 72 = .ok (.dstore 7, 2) := by decide +kernel
theorem own_dt_74 : decode prog_24_method_3_code 74 = .ok (.aload_n 0, 1) := by decide +kernel
theorem own_dt_75 : decode prog_24_method_3_code 75 = .ok (.getfield 13, 3) := by decide +kernel
theorem own_dt_78 : decode prog_24_method_3_code 78 = .ok (.dload_n 1, 1) := by decide +kernel
theorem own_dt_79 : decode prog_24_method_3_code 79 = .ok (.aload_n 0, 1) := by decide +kernel
theorem own_dt_80 : decode prog_24_method_3_code 80 = .ok (.getfield 17, 3) := by decide +kernel
theorem own_dt_83 : decode prog_24_method_3_code 83 = .ok (.dsub, 1) := by decide +kernel
theorem own_dt_84 : decode prog_24_method_3_code 84 = .ok (.dload 7, 2) := by decide +kernel
theorem own_dt_86 : decode prog_24_method_3_code 86 = .ok (.ddiv, 1) := by decide +kernel
theorem own_dt_87 : decode prog_24_method_3_code 87 = .ok (.dadd, 1) := by decide +kernel
theorem own_dt_88 : decode prog_24_method_3_code 88 = .ok (.dreturn, 1) := by decide +kernel
theorem own_eft (m : MethodId) (x0 : Addr) (x1 : UInt64) (x2 : UInt64) : entryFrame m #[(.ref x0), (.double x1), (.double x2)] 9 = mkF m 0 #[.val (.ref x0), .val (.double x1), .second, .val (.double x2), .second, .unset, .unset, .unset, .unset] [] := by first | (simp [entryFrame, mkF, argsToLocals, Value.category, maxLocals]; done) | rfl
def own_at (r0 : Addr) (p1 : UInt64) (p2 : UInt64) (bz : Int32) (mC : UInt64) (mT : UInt64) (sq : UInt64) (pr : UInt64) : UInt64 := (if bz = (0 : Int32) then FP.dconst0 else (if (cmpValue (FP.dcmp sq FP.dconst0) .l) = (0 : Int32) then (FP.ddiv (FP.dmul mT p1) mC) else (FP.dadd mT (FP.ddiv (FP.dsub p1 mC) (FP.ddiv (own_A pr (own_W p2) mC mT) (own_B sq (own_W p2) mT))))))
set_option maxRecDepth 65536 in
set_option maxHeartbeats 40000000 in
theorem own_rm_at (l : Launch) (Z : State) (a0 : Array Value) (hw : ∀ d ∈ tables_1, d.before a0 Z = true) (r0 : Addr) (p1 : UInt64) (p2 : UInt64) (bz : Int32) (mC : UInt64) (mT : UInt64) (sq : UInt64) (pr : UInt64) (h0 : Heap) (F0 : Fld Z h0 r0 "com/example/waxwing/waxwing/policy/ThroughputLine" "busy" "Z" (.int bz)) (F1 : Fld Z h0 r0 "com/example/waxwing/waxwing/policy/ThroughputLine" "meanCpu" "D" (.double mC)) (F2 : Fld Z h0 r0 "com/example/waxwing/waxwing/policy/ThroughputLine" "meanThroughput" "D" (.double mT)) (F3 : Fld Z h0 r0 "com/example/waxwing/waxwing/policy/ThroughputLine" "throughputSquares" "D" (.double sq)) (F4 : Fld Z h0 r0 "com/example/waxwing/waxwing/policy/ThroughputLine" "products" "D" (.double pr)) (ok : own_OkA p1 p2 bz mC mT sq pr) : own_Con l Z [] (⟨"com/example/waxwing/waxwing/policy/ThroughputLine", "throughputAt", "(DD)D"⟩ : MethodName) prog_24_method_3_code 9 (some .double) ({ frames := 0, cells := 0, slots := 0, locals := 0 } : Room) #[(.ref r0), (.double p1), (.double p2)] h0 (own_Q1 (some (.double (own_at r0 p1 p2 bz mC mT sq pr))) h0) := by
  refine own_body (plainFor_of_name own_pn_ThroughputLine) ?_
  intro p e s m below meth c s₁ X0 hx hby hml hret hlk hown hnm hZ e0
  refine oS (u' := s₁.setTop (mkF m 0 #[.val (.ref r0), .val (.double p1), .second, .val (.double p2), .second, .unset, .unset, .unset, .unset] [])) (fun _ kst => castTop (own_eft m r0 p1 p2) kst) ?_
  refine oS (u' := s₁.setTop (mkF m 1 #[.val (.ref r0), .val (.double p1), .second, .val (.double p2), .second, .unset, .unset, .unset, .unset] [(.ref r0)])) (fun _ kst => XS.aloadN X0.here hx rfl (hb hby own_dt_0) rfl rfl kst) ?_
  obtain ⟨T23, X23, e23, st23⟩ := getF X0 hx hZ hown (host := "") (Or.inl (hw _ (List.mem_of_getElem? (i := 27) rfl))) Via.refl e0 F0 (g := (mkF m 1 #[.val (.ref r0), .val (.double p1), .second, .val (.double p2), .second, .unset, .unset, .unset, .unset] [(.ref r0)])) rfl rfl (hb hby own_dt_1)
  refine oS (u' := T23.setTop (mkF m 4 #[.val (.ref r0), .val (.double p1), .second, .val (.double p2), .second, .unset, .unset, .unset, .unset] [(.int bz)])) st23 ?_
  by_cases hc24 : bz = (0 : Int32)
  · refine oS (u' := T23.setTop (mkF m 7 #[.val (.ref r0), .val (.double p1), .second, .val (.double p2), .second, .unset, .unset, .unset, .unset] [])) (fun _ kst => XS.ifNo X23.here hx rfl (hb hby own_dt_4) rfl ((if0 _ _).trans (teq hc24).2) kst) ?_
    refine oS (u' := T23.setTop (mkF m 8 #[.val (.ref r0), .val (.double p1), .second, .val (.double p2), .second, .unset, .unset, .unset, .unset] [(.double FP.dconst0)])) (fun _ kst => XS.dconst0 X23.here hx rfl (hb hby own_dt_7) rfl kst) ?_
    refine own_retD X23 hx hlk hret (hb hby own_dt_8) ?_ (by decide) (by decide)
    exact ⟨(by show (some (.double FP.dconst0) : Option Value) = _; unfold own_at; rw [if_pos hc24]), e23, rfl⟩
  · refine oS (u' := T23.setTop (mkF m 9 #[.val (.ref r0), .val (.double p1), .second, .val (.double p2), .second, .unset, .unset, .unset, .unset] [])) (fun _ kst => XS.ifYes X23.here hx rfl (pc0 := 4) (pc' := 9) rfl (hb hby own_dt_4) rfl ((if0 _ _).trans (feq hc24).2) (by decide) (by decide) kst) ?_
    refine oS (u' := T23.setTop (mkF m 10 #[.val (.ref r0), .val (.double p1), .second, .val (.double p2), .second, .unset, .unset, .unset, .unset] [(.ref r0)])) (fun _ kst => XS.aloadN X23.here hx rfl (hb hby own_dt_9) rfl rfl kst) ?_
    obtain ⟨T25, X25, e25, st25⟩ := getF X23 hx hZ hown (host := "") (Or.inl (hw _ (List.mem_of_getElem? (i := 23) rfl))) Via.refl e23 F3 (g := (mkF m 10 #[.val (.ref r0), .val (.double p1), .second, .val (.double p2), .second, .unset, .unset, .unset, .unset] [(.ref r0)])) rfl rfl (hb hby own_dt_10)
    refine oS (u' := T25.setTop (mkF m 13 #[.val (.ref r0), .val (.double p1), .second, .val (.double p2), .second, .unset, .unset, .unset, .unset] [(.double sq)])) st25 ?_
    refine oS (u' := T25.setTop (mkF m 14 #[.val (.ref r0), .val (.double p1), .second, .val (.double p2), .second, .unset, .unset, .unset, .unset] [(.double FP.dconst0), (.double sq)])) (fun _ kst => XS.dconst0 X25.here hx rfl (hb hby own_dt_13) rfl kst) ?_
    refine oS (u' := T25.setTop (mkF m 15 #[.val (.ref r0), .val (.double p1), .second, .val (.double p2), .second, .unset, .unset, .unset, .unset] [(.int (cmpValue (FP.dcmp sq FP.dconst0) .l))])) (fun _ kst => XS.dcmpS X25.here hx rfl (hb hby own_dt_14) rfl rfl kst) ?_
    by_cases hc26 : (cmpValue (FP.dcmp sq FP.dconst0) .l) = (0 : Int32)
    · refine oS (u' := T25.setTop (mkF m 18 #[.val (.ref r0), .val (.double p1), .second, .val (.double p2), .second, .unset, .unset, .unset, .unset] [])) (fun _ kst => XS.ifNo X25.here hx rfl (hb hby own_dt_15) rfl ((if0 _ _).trans (teq hc26).2) kst) ?_
      refine oS (u' := T25.setTop (mkF m 19 #[.val (.ref r0), .val (.double p1), .second, .val (.double p2), .second, .unset, .unset, .unset, .unset] [(.ref r0)])) (fun _ kst => XS.aloadN X25.here hx rfl (hb hby own_dt_18) rfl rfl kst) ?_
      obtain ⟨T27, X27, e27, st27⟩ := getF X25 hx hZ hown (host := "") (Or.inl (hw _ (List.mem_of_getElem? (i := 19) rfl))) Via.refl e25 F2 (g := (mkF m 19 #[.val (.ref r0), .val (.double p1), .second, .val (.double p2), .second, .unset, .unset, .unset, .unset] [(.ref r0)])) rfl rfl (hb hby own_dt_19)
      refine oS (u' := T27.setTop (mkF m 22 #[.val (.ref r0), .val (.double p1), .second, .val (.double p2), .second, .unset, .unset, .unset, .unset] [(.double mT)])) st27 ?_
      refine oS (u' := T27.setTop (mkF m 23 #[.val (.ref r0), .val (.double p1), .second, .val (.double p2), .second, .unset, .unset, .unset, .unset] [(.double p1), (.double mT)])) (fun _ kst => XS.dloadN X27.here hx rfl (hb hby own_dt_22) rfl kst) ?_
      refine oS (u' := T27.setTop (mkF m 24 #[.val (.ref r0), .val (.double p1), .second, .val (.double p2), .second, .unset, .unset, .unset, .unset] [(.double (FP.dmul mT p1))])) (fun _ kst => XS.dmulS X27.here hx rfl (hb hby own_dt_23) rfl ((ok hc24).1 hc26).1 rfl kst) ?_
      refine oS (u' := T27.setTop (mkF m 25 #[.val (.ref r0), .val (.double p1), .second, .val (.double p2), .second, .unset, .unset, .unset, .unset] [(.ref r0), (.double (FP.dmul mT p1))])) (fun _ kst => XS.aloadN X27.here hx rfl (hb hby own_dt_24) rfl rfl kst) ?_
      obtain ⟨T28, X28, e28, st28⟩ := getF X27 hx hZ hown (host := "") (Or.inl (hw _ (List.mem_of_getElem? (i := 21) rfl))) Via.refl e27 F1 (g := (mkF m 25 #[.val (.ref r0), .val (.double p1), .second, .val (.double p2), .second, .unset, .unset, .unset, .unset] [(.ref r0), (.double (FP.dmul mT p1))])) rfl rfl (hb hby own_dt_25)
      refine oS (u' := T28.setTop (mkF m 28 #[.val (.ref r0), .val (.double p1), .second, .val (.double p2), .second, .unset, .unset, .unset, .unset] [(.double mC), (.double (FP.dmul mT p1))])) st28 ?_
      refine oS (u' := T28.setTop (mkF m 29 #[.val (.ref r0), .val (.double p1), .second, .val (.double p2), .second, .unset, .unset, .unset, .unset] [(.double (FP.ddiv (FP.dmul mT p1) mC))])) (fun _ kst => XS.ddivS X28.here hx rfl (hb hby own_dt_28) rfl ((ok hc24).1 hc26).2 rfl kst) ?_
      refine own_retD X28 hx hlk hret (hb hby own_dt_29) ?_ (by decide) (by decide)
      exact ⟨(by show (some (.double (FP.ddiv (FP.dmul mT p1) mC)) : Option Value) = _; unfold own_at; rw [if_neg hc24, if_pos hc26]), e28, rfl⟩
    · refine oS (u' := T25.setTop (mkF m 30 #[.val (.ref r0), .val (.double p1), .second, .val (.double p2), .second, .unset, .unset, .unset, .unset] [])) (fun _ kst => XS.ifYes X25.here hx rfl (pc0 := 15) (pc' := 30) rfl (hb hby own_dt_15) rfl ((if0 _ _).trans (feq hc26).2) (by decide) (by decide) kst) ?_
      refine oS (u' := T25.setTop (mkF m 31 #[.val (.ref r0), .val (.double p1), .second, .val (.double p2), .second, .unset, .unset, .unset, .unset] [(.double p2)])) (fun _ kst => XS.dloadN X25.here hx rfl (hb hby own_dt_30) rfl kst) ?_
      refine oS (u' := T25.setTop (mkF m 34 #[.val (.ref r0), .val (.double p1), .second, .val (.double p2), .second, .unset, .unset, .unset, .unset] [(.double (4576918229304087676 : UInt64)), (.double p2)])) (fun _ kst => X25.ldc2DoubleC hx hown (mvT hZ (hw _ (List.mem_of_getElem? (i := 34) rfl))) (g := (mkF m 31 #[.val (.ref r0), .val (.double p1), .second, .val (.double p2), .second, .unset, .unset, .unset, .unset] [(.double p2)])) rfl (hb hby own_dt_31) _ kst) ?_
      refine oS (u' := T25.setTop (mkF m 35 #[.val (.ref r0), .val (.double p1), .second, .val (.double p2), .second, .unset, .unset, .unset, .unset] [(.double (own_W p2))])) (fun _ kst => XS.ddivS X25.here hx rfl (hb hby own_dt_34) rfl ((ok hc24).2 hc26).1 rfl kst) ?_
      refine oS (u' := T25.setTop (mkF m 37 #[.val (.ref r0), .val (.double p1), .second, .val (.double p2), .second, .val (.double (own_W p2)), .second, .unset, .unset] [])) (fun _ kst => XS.dstore X25.here hx rfl (hb hby own_dt_35) rfl (l' := #[.val (.ref r0), .val (.double p1), .second, .val (.double p2), .second, .val (.double (own_W p2)), .second, .unset, .unset]) rfl kst) ?_
      refine oS (u' := T25.setTop (mkF m 38 #[.val (.ref r0), .val (.double p1), .second, .val (.double p2), .second, .val (.double (own_W p2)), .second, .unset, .unset] [(.ref r0)])) (fun _ kst => XS.aloadN X25.here hx rfl (hb hby own_dt_37) rfl rfl kst) ?_
      obtain ⟨T29, X29, e29, st29⟩ := getF X25 hx hZ hown (host := "") (Or.inl (hw _ (List.mem_of_getElem? (i := 25) rfl))) Via.refl e25 F4 (g := (mkF m 38 #[.val (.ref r0), .val (.double p1), .second, .val (.double p2), .second, .val (.double (own_W p2)), .second, .unset, .unset] [(.ref r0)])) rfl rfl (hb hby own_dt_38)
      refine oS (u' := T29.setTop (mkF m 41 #[.val (.ref r0), .val (.double p1), .second, .val (.double p2), .second, .val (.double (own_W p2)), .second, .unset, .unset] [(.double pr)])) st29 ?_
      refine oS (u' := T29.setTop (mkF m 43 #[.val (.ref r0), .val (.double p1), .second, .val (.double p2), .second, .val (.double (own_W p2)), .second, .unset, .unset] [(.double (own_W p2)), (.double pr)])) (fun _ kst => XS.dload X29.here hx rfl (hb hby own_dt_41) rfl kst) ?_
      refine oS (u' := T29.setTop (mkF m 44 #[.val (.ref r0), .val (.double p1), .second, .val (.double p2), .second, .val (.double (own_W p2)), .second, .unset, .unset] [(.ref r0), (.double (own_W p2)), (.double pr)])) (fun _ kst => XS.aloadN X29.here hx rfl (hb hby own_dt_43) rfl rfl kst) ?_
      obtain ⟨T30, X30, e30, st30⟩ := getF X29 hx hZ hown (host := "") (Or.inl (hw _ (List.mem_of_getElem? (i := 21) rfl))) Via.refl e29 F1 (g := (mkF m 44 #[.val (.ref r0), .val (.double p1), .second, .val (.double p2), .second, .val (.double (own_W p2)), .second, .unset, .unset] [(.ref r0), (.double (own_W p2)), (.double pr)])) rfl rfl (hb hby own_dt_44)
      refine oS (u' := T30.setTop (mkF m 47 #[.val (.ref r0), .val (.double p1), .second, .val (.double p2), .second, .val (.double (own_W p2)), .second, .unset, .unset] [(.double mC), (.double (own_W p2)), (.double pr)])) st30 ?_
      refine oS (u' := T30.setTop (mkF m 48 #[.val (.ref r0), .val (.double p1), .second, .val (.double p2), .second, .val (.double (own_W p2)), .second, .unset, .unset] [(.double (FP.dmul (own_W p2) mC)), (.double pr)])) (fun _ kst => XS.dmulS X30.here hx rfl (hb hby own_dt_47) rfl ((ok hc24).2 hc26).2.1 rfl kst) ?_
      refine oS (u' := T30.setTop (mkF m 49 #[.val (.ref r0), .val (.double p1), .second, .val (.double p2), .second, .val (.double (own_W p2)), .second, .unset, .unset] [(.ref r0), (.double (FP.dmul (own_W p2) mC)), (.double pr)])) (fun _ kst => XS.aloadN X30.here hx rfl (hb hby own_dt_48) rfl rfl kst) ?_
      obtain ⟨T31, X31, e31, st31⟩ := getF X30 hx hZ hown (host := "") (Or.inl (hw _ (List.mem_of_getElem? (i := 19) rfl))) Via.refl e30 F2 (g := (mkF m 49 #[.val (.ref r0), .val (.double p1), .second, .val (.double p2), .second, .val (.double (own_W p2)), .second, .unset, .unset] [(.ref r0), (.double (FP.dmul (own_W p2) mC)), (.double pr)])) rfl rfl (hb hby own_dt_49)
      refine oS (u' := T31.setTop (mkF m 52 #[.val (.ref r0), .val (.double p1), .second, .val (.double p2), .second, .val (.double (own_W p2)), .second, .unset, .unset] [(.double mT), (.double (FP.dmul (own_W p2) mC)), (.double pr)])) st31 ?_
      refine oS (u' := T31.setTop (mkF m 53 #[.val (.ref r0), .val (.double p1), .second, .val (.double p2), .second, .val (.double (own_W p2)), .second, .unset, .unset] [(.double (FP.dmul (FP.dmul (own_W p2) mC) mT)), (.double pr)])) (fun _ kst => XS.dmulS X31.here hx rfl (hb hby own_dt_52) rfl ((ok hc24).2 hc26).2.2.1 rfl kst) ?_
      refine oS (u' := T31.setTop (mkF m 54 #[.val (.ref r0), .val (.double p1), .second, .val (.double p2), .second, .val (.double (own_W p2)), .second, .unset, .unset] [(.double (own_A pr (own_W p2) mC mT))])) (fun _ kst => XS.daddS X31.here hx rfl (hb hby own_dt_53) rfl ((ok hc24).2 hc26).2.2.2.1 rfl kst) ?_
      refine oS (u' := T31.setTop (mkF m 55 #[.val (.ref r0), .val (.double p1), .second, .val (.double p2), .second, .val (.double (own_W p2)), .second, .unset, .unset] [(.ref r0), (.double (own_A pr (own_W p2) mC mT))])) (fun _ kst => XS.aloadN X31.here hx rfl (hb hby own_dt_54) rfl rfl kst) ?_
      obtain ⟨T32, X32, e32, st32⟩ := getF X31 hx hZ hown (host := "") (Or.inl (hw _ (List.mem_of_getElem? (i := 23) rfl))) Via.refl e31 F3 (g := (mkF m 55 #[.val (.ref r0), .val (.double p1), .second, .val (.double p2), .second, .val (.double (own_W p2)), .second, .unset, .unset] [(.ref r0), (.double (own_A pr (own_W p2) mC mT))])) rfl rfl (hb hby own_dt_55)
      refine oS (u' := T32.setTop (mkF m 58 #[.val (.ref r0), .val (.double p1), .second, .val (.double p2), .second, .val (.double (own_W p2)), .second, .unset, .unset] [(.double sq), (.double (own_A pr (own_W p2) mC mT))])) st32 ?_
      refine oS (u' := T32.setTop (mkF m 60 #[.val (.ref r0), .val (.double p1), .second, .val (.double p2), .second, .val (.double (own_W p2)), .second, .unset, .unset] [(.double (own_W p2)), (.double sq), (.double (own_A pr (own_W p2) mC mT))])) (fun _ kst => XS.dload X32.here hx rfl (hb hby own_dt_58) rfl kst) ?_
      refine oS (u' := T32.setTop (mkF m 61 #[.val (.ref r0), .val (.double p1), .second, .val (.double p2), .second, .val (.double (own_W p2)), .second, .unset, .unset] [(.ref r0), (.double (own_W p2)), (.double sq), (.double (own_A pr (own_W p2) mC mT))])) (fun _ kst => XS.aloadN X32.here hx rfl (hb hby own_dt_60) rfl rfl kst) ?_
      obtain ⟨T33, X33, e33, st33⟩ := getF X32 hx hZ hown (host := "") (Or.inl (hw _ (List.mem_of_getElem? (i := 19) rfl))) Via.refl e32 F2 (g := (mkF m 61 #[.val (.ref r0), .val (.double p1), .second, .val (.double p2), .second, .val (.double (own_W p2)), .second, .unset, .unset] [(.ref r0), (.double (own_W p2)), (.double sq), (.double (own_A pr (own_W p2) mC mT))])) rfl rfl (hb hby own_dt_61)
      refine oS (u' := T33.setTop (mkF m 64 #[.val (.ref r0), .val (.double p1), .second, .val (.double p2), .second, .val (.double (own_W p2)), .second, .unset, .unset] [(.double mT), (.double (own_W p2)), (.double sq), (.double (own_A pr (own_W p2) mC mT))])) st33 ?_
      refine oS (u' := T33.setTop (mkF m 65 #[.val (.ref r0), .val (.double p1), .second, .val (.double p2), .second, .val (.double (own_W p2)), .second, .unset, .unset] [(.double (FP.dmul (own_W p2) mT)), (.double sq), (.double (own_A pr (own_W p2) mC mT))])) (fun _ kst => XS.dmulS X33.here hx rfl (hb hby own_dt_64) rfl ((ok hc24).2 hc26).2.2.2.2.1 rfl kst) ?_
      refine oS (u' := T33.setTop (mkF m 66 #[.val (.ref r0), .val (.double p1), .second, .val (.double p2), .second, .val (.double (own_W p2)), .second, .unset, .unset] [(.ref r0), (.double (FP.dmul (own_W p2) mT)), (.double sq), (.double (own_A pr (own_W p2) mC mT))])) (fun _ kst => XS.aloadN X33.here hx rfl (hb hby own_dt_65) rfl rfl kst) ?_
      obtain ⟨T34, X34, e34, st34⟩ := getF X33 hx hZ hown (host := "") (Or.inl (hw _ (List.mem_of_getElem? (i := 19) rfl))) Via.refl e33 F2 (g := (mkF m 66 #[.val (.ref r0), .val (.double p1), .second, .val (.double p2), .second, .val (.double (own_W p2)), .second, .unset, .unset] [(.ref r0), (.double (FP.dmul (own_W p2) mT)), (.double sq), (.double (own_A pr (own_W p2) mC mT))])) rfl rfl (hb hby own_dt_66)
      refine oS (u' := T34.setTop (mkF m 69 #[.val (.ref r0), .val (.double p1), .second, .val (.double p2), .second, .val (.double (own_W p2)), .second, .unset, .unset] [(.double mT), (.double (FP.dmul (own_W p2) mT)), (.double sq), (.double (own_A pr (own_W p2) mC mT))])) st34 ?_
      refine oS (u' := T34.setTop (mkF m 70 #[.val (.ref r0), .val (.double p1), .second, .val (.double p2), .second, .val (.double (own_W p2)), .second, .unset, .unset] [(.double (FP.dmul (FP.dmul (own_W p2) mT) mT)), (.double sq), (.double (own_A pr (own_W p2) mC mT))])) (fun _ kst => XS.dmulS X34.here hx rfl (hb hby own_dt_69) rfl ((ok hc24).2 hc26).2.2.2.2.2.1 rfl kst) ?_
      refine oS (u' := T34.setTop (mkF m 71 #[.val (.ref r0), .val (.double p1), .second, .val (.double p2), .second, .val (.double (own_W p2)), .second, .unset, .unset] [(.double (own_B sq (own_W p2) mT)), (.double (own_A pr (own_W p2) mC mT))])) (fun _ kst => XS.daddS X34.here hx rfl (hb hby own_dt_70) rfl ((ok hc24).2 hc26).2.2.2.2.2.2.1 rfl kst) ?_
      refine oS (u' := T34.setTop (mkF m 72 #[.val (.ref r0), .val (.double p1), .second, .val (.double p2), .second, .val (.double (own_W p2)), .second, .unset, .unset] [(.double (FP.ddiv (own_A pr (own_W p2) mC mT) (own_B sq (own_W p2) mT)))])) (fun _ kst => XS.ddivS X34.here hx rfl (hb hby own_dt_71) rfl ((ok hc24).2 hc26).2.2.2.2.2.2.2.1 rfl kst) ?_
      refine oS (u' := T34.setTop (mkF m 74 #[.val (.ref r0), .val (.double p1), .second, .val (.double p2), .second, .val (.double (own_W p2)), .second, .val (.double (FP.ddiv (own_A pr (own_W p2) mC mT) (own_B sq (own_W p2) mT))), .second] [])) (fun _ kst => XS.dstore X34.here hx rfl (hb hby own_dt_72) rfl (l' := #[.val (.ref r0), .val (.double p1), .second, .val (.double p2), .second, .val (.double (own_W p2)), .second, .val (.double (FP.ddiv (own_A pr (own_W p2) mC mT) (own_B sq (own_W p2) mT))), .second]) rfl kst) ?_
      refine oS (u' := T34.setTop (mkF m 75 #[.val (.ref r0), .val (.double p1), .second, .val (.double p2), .second, .val (.double (own_W p2)), .second, .val (.double (FP.ddiv (own_A pr (own_W p2) mC mT) (own_B sq (own_W p2) mT))), .second] [(.ref r0)])) (fun _ kst => XS.aloadN X34.here hx rfl (hb hby own_dt_74) rfl rfl kst) ?_
      obtain ⟨T35, X35, e35, st35⟩ := getF X34 hx hZ hown (host := "") (Or.inl (hw _ (List.mem_of_getElem? (i := 19) rfl))) Via.refl e34 F2 (g := (mkF m 75 #[.val (.ref r0), .val (.double p1), .second, .val (.double p2), .second, .val (.double (own_W p2)), .second, .val (.double (FP.ddiv (own_A pr (own_W p2) mC mT) (own_B sq (own_W p2) mT))), .second] [(.ref r0)])) rfl rfl (hb hby own_dt_75)
      refine oS (u' := T35.setTop (mkF m 78 #[.val (.ref r0), .val (.double p1), .second, .val (.double p2), .second, .val (.double (own_W p2)), .second, .val (.double (FP.ddiv (own_A pr (own_W p2) mC mT) (own_B sq (own_W p2) mT))), .second] [(.double mT)])) st35 ?_
      refine oS (u' := T35.setTop (mkF m 79 #[.val (.ref r0), .val (.double p1), .second, .val (.double p2), .second, .val (.double (own_W p2)), .second, .val (.double (FP.ddiv (own_A pr (own_W p2) mC mT) (own_B sq (own_W p2) mT))), .second] [(.double p1), (.double mT)])) (fun _ kst => XS.dloadN X35.here hx rfl (hb hby own_dt_78) rfl kst) ?_
      refine oS (u' := T35.setTop (mkF m 80 #[.val (.ref r0), .val (.double p1), .second, .val (.double p2), .second, .val (.double (own_W p2)), .second, .val (.double (FP.ddiv (own_A pr (own_W p2) mC mT) (own_B sq (own_W p2) mT))), .second] [(.ref r0), (.double p1), (.double mT)])) (fun _ kst => XS.aloadN X35.here hx rfl (hb hby own_dt_79) rfl rfl kst) ?_
      obtain ⟨T36, X36, e36, st36⟩ := getF X35 hx hZ hown (host := "") (Or.inl (hw _ (List.mem_of_getElem? (i := 21) rfl))) Via.refl e35 F1 (g := (mkF m 80 #[.val (.ref r0), .val (.double p1), .second, .val (.double p2), .second, .val (.double (own_W p2)), .second, .val (.double (FP.ddiv (own_A pr (own_W p2) mC mT) (own_B sq (own_W p2) mT))), .second] [(.ref r0), (.double p1), (.double mT)])) rfl rfl (hb hby own_dt_80)
      refine oS (u' := T36.setTop (mkF m 83 #[.val (.ref r0), .val (.double p1), .second, .val (.double p2), .second, .val (.double (own_W p2)), .second, .val (.double (FP.ddiv (own_A pr (own_W p2) mC mT) (own_B sq (own_W p2) mT))), .second] [(.double mC), (.double p1), (.double mT)])) st36 ?_
      refine oS (u' := T36.setTop (mkF m 84 #[.val (.ref r0), .val (.double p1), .second, .val (.double p2), .second, .val (.double (own_W p2)), .second, .val (.double (FP.ddiv (own_A pr (own_W p2) mC mT) (own_B sq (own_W p2) mT))), .second] [(.double (FP.dsub p1 mC)), (.double mT)])) (fun _ kst => XS.dsubS X36.here hx rfl (hb hby own_dt_83) rfl ((ok hc24).2 hc26).2.2.2.2.2.2.2.2.1 rfl kst) ?_
      refine oS (u' := T36.setTop (mkF m 86 #[.val (.ref r0), .val (.double p1), .second, .val (.double p2), .second, .val (.double (own_W p2)), .second, .val (.double (FP.ddiv (own_A pr (own_W p2) mC mT) (own_B sq (own_W p2) mT))), .second] [(.double (FP.ddiv (own_A pr (own_W p2) mC mT) (own_B sq (own_W p2) mT))), (.double (FP.dsub p1 mC)), (.double mT)])) (fun _ kst => XS.dload X36.here hx rfl (hb hby own_dt_84) rfl kst) ?_
      refine oS (u' := T36.setTop (mkF m 87 #[.val (.ref r0), .val (.double p1), .second, .val (.double p2), .second, .val (.double (own_W p2)), .second, .val (.double (FP.ddiv (own_A pr (own_W p2) mC mT) (own_B sq (own_W p2) mT))), .second] [(.double (FP.ddiv (FP.dsub p1 mC) (FP.ddiv (own_A pr (own_W p2) mC mT) (own_B sq (own_W p2) mT)))), (.double mT)])) (fun _ kst => XS.ddivS X36.here hx rfl (hb hby own_dt_86) rfl ((ok hc24).2 hc26).2.2.2.2.2.2.2.2.2.1 rfl kst) ?_
      refine oS (u' := T36.setTop (mkF m 88 #[.val (.ref r0), .val (.double p1), .second, .val (.double p2), .second, .val (.double (own_W p2)), .second, .val (.double (FP.ddiv (own_A pr (own_W p2) mC mT) (own_B sq (own_W p2) mT))), .second] [(.double (FP.dadd mT (FP.ddiv (FP.dsub p1 mC) (FP.ddiv (own_A pr (own_W p2) mC mT) (own_B sq (own_W p2) mT)))))])) (fun _ kst => XS.daddS X36.here hx rfl (hb hby own_dt_87) rfl ((ok hc24).2 hc26).2.2.2.2.2.2.2.2.2.2 rfl kst) ?_
      refine own_retD X36 hx hlk hret (hb hby own_dt_88) ?_ (by decide) (by decide)
      exact ⟨(by show (some (.double (FP.dadd mT (FP.ddiv (FP.dsub p1 mC) (FP.ddiv (own_A pr (own_W p2) mC mT) (own_B sq (own_W p2) mT))))) : Option Value) = _; unfold own_at; rw [if_neg hc24, if_neg hc26]), e36, rfl⟩
theorem own_V_K : own_V (4576918229304087676 : UInt64) 5764607523034236 59 := ⟨false, 5764607523034236, -59, by decide +kernel, by decide⟩
theorem own_V_16 : own_V (4625196817309499392 : UInt64) 16 0 := ⟨false, 4503599627370496, -48, by decide +kernel, by decide⟩
theorem own_W0 (k : Nat) : own_V (own_W FP.dconst0) 0 k := own_V_z (own_V_div (n := 0) (j := 0) own_V_d0 own_V_K (by decide) (by decide) (by decide) (by decide))
theorem own_first {c t : UInt64} {Y X : Int} (ht : own_V t X 4) (hc : own_V c Y 5) (bX : X.natAbs < 2 ^ 40) (bY : Y.natAbs < 2 ^ 40) :
    own_OkT c t (0 : Int64) (0 : UInt64) (0 : UInt64) (0 : UInt64) (0 : UInt64) ∧ own_V (own_mu t (0 : Int64) (0 : UInt64)) X 4 ∧ own_V (own_mu c (0 : Int64) (0 : UInt64)) Y 5 ∧ own_V (own_sd t (0 : Int64) (0 : UInt64) (0 : UInt64)) 0 8 ∧ own_V (own_pr c t (0 : Int64) (0 : UInt64) (0 : UInt64) (0 : UInt64)) 0 9 := by
  have e : X - (0 + X) = 0 := by omega
  obtain ⟨h1, h2, h3, h4, h5⟩ := own_stepT (n := (0 : Int64)) (N := 1) (Q := X) (R := Y) (S := 0) (P := 0) ht (own_V_zero 4) (own_V_zero _) hc (own_V_zero 5) (own_V_zero _) (by decide) (by decide) (by decide) (by decide) (by decide) (by omega) (by omega)
    (by omega) (by omega) (by omega) (by omega) (by rw [e, Int.mul_zero]; decide) (by rw [e, Int.mul_zero]; decide) (by omega) (by omega) (by omega) (by rw [e, Int.mul_zero]; decide) (by rw [e, Int.mul_zero]; decide)
  rw [e, Int.mul_zero, Int.zero_add] at h4 h5
  rw [Int.zero_add] at h2 h3
  exact ⟨h1, h2, h3, h4, h5⟩
theorem own_second {c t mC mT sq pr : UInt64} {X M Q Y L R : Int} (ht : own_V t X 4) (hM : own_V mT M 4) (hS : own_V sq 0 8) (hc : own_V c Y 5) (hL : own_V mC L 5) (hP : own_V pr 0 9) (hq : X - M = 2 * Q) (hr : Y - L = 2 * R)
    (bX : M.natAbs < 2 ^ 40) (bQ : Q.natAbs ≤ 16777216) (bL : L.natAbs ≤ 64) (bR : R.natAbs ≤ 64) :
    own_OkT c t ((0 : Int64) + (1 : Int64)) mC mT sq pr ∧ own_V (own_mu t ((0 : Int64) + (1 : Int64)) mT) (M + Q) 4 ∧ own_V (own_mu c ((0 : Int64) + (1 : Int64)) mC) (L + R) 5 ∧ own_V (own_sd t ((0 : Int64) + (1 : Int64)) mT sq) (2 * Q * Q) 8 ∧ own_V (own_pr c t ((0 : Int64) + (1 : Int64)) mC mT pr) (2 * R * Q) 9 := by
  have e : X - (M + Q) = Q := by omega
  have c1 := own_mul_le (a := 2 * Q) (b := Q) (m := 33554432) (n := 16777216) (by omega) bQ
  have c2 := own_mul_le (a := 2 * R) (b := Q) (m := 128) (n := 16777216) (by omega) bQ
  obtain ⟨h1, h2, h3, h4, h5⟩ := own_stepT (n := (0 : Int64) + (1 : Int64)) (N := 2) (Q := Q) (R := R) (S := 0) (P := 0) (kt := 4) (kc := 5) ht hM hS hc hL hP (by decide) (by decide) (by decide) (by decide) (by decide) hq hr
    (by omega) (by omega) (by omega) (by omega) (by rw [e, hq]; omega) (by rw [e, hq]; omega) (by omega) (by omega) (by omega) (by rw [e, hr]; omega) (by rw [e, hr]; omega)
  rw [e, hq, Int.zero_add] at h4
  rw [e, hr, Int.zero_add] at h5
  exact ⟨h1, h2, h3, h4, h5⟩
theorem own_ci_pos {a b : Int} : (0 : Int32) < own_ci a b ↔ b < a := by
  unfold own_ci
  by_cases h1 : a < b
  · rw [if_pos h1]; exact ⟨fun h => absurd h (by decide), fun h => by omega⟩
  · rw [if_neg h1]
    by_cases h2 : a = b
    · rw [if_pos h2]; exact ⟨fun h => absurd h (by decide), fun h => by omega⟩
    · rw [if_neg h2]; exact ⟨fun _ => by omega, fun _ => by decide⟩
theorem own_bz_iff {c : UInt64} {n : Int} {k : Nat} (h : own_V c n k) {b : Int32} (hb : b = 0 ∨ b = 1) : own_bz c b = 0 ↔ (b = 0 ∧ ¬ 0 < n) := by
  unfold own_bz
  rw [own_V_ci .l h (own_V_z own_V_d0)]
  by_cases hn : 0 < n
  · rw [if_pos (own_ci_pos.mpr hn)]
    rcases hb with rfl | rfl
    · exact ⟨fun q => absurd q (by decide), fun q => absurd hn q.2⟩
    · exact ⟨fun q => absurd q (by decide), fun q => absurd hn q.2⟩
  · rw [if_neg (fun q => hn (own_ci_pos.mp q))]
    rcases hb with rfl | rfl
    · exact ⟨fun _ => ⟨rfl, hn⟩, fun _ => by decide⟩
    · exact ⟨fun q => absurd q (by decide), fun q => absurd q.1 (by decide)⟩
theorem own_sq0 {sq : UInt64} {k : Nat} (hs : own_V sq 0 k) : cmpValue (FP.dcmp sq FP.dconst0) .l = (0 : Int32) := (own_V_ci .l hs (own_V_z own_V_d0)).trans (own_ci_self _)
theorem own_flat {x z t1 m : UInt64} {bz : Int32} {mC mT sq pr : UInt64} {X n B : Int} (hx : own_V x X 4) (ht : own_V t1 B 4) (hT : own_V mT B 4) (hC : own_V mC n 5) (hm : own_V m n 5) (hs : own_V sq 0 8) (bX : X.natAbs ≤ 64) (bB : B.natAbs < 2 ^ 40) (hbz : bz = 0 ↔ ¬ 0 < n) :
    own_OkA x z bz mC mT sq pr ∧ (0 < n → Jvm.Free.Fl.NoNaN64 (FP.dmul t1 x) ∧ Jvm.Free.Fl.NoNaN64 (FP.ddiv (FP.dmul t1 x) m) ∧ ∀ r, cmpValue (FP.dcmp (own_at r x z bz mC mT sq pr) (FP.ddiv (FP.dmul t1 x) m)) .l = (0 : Int32)) ∧
      (¬ 0 < n → ∀ r, cmpValue (FP.dcmp (own_at r x z bz mC mT sq pr) FP.dconst0) .l = (0 : Int32)) := by
  have c := own_mul_le (a := B) (b := X) (m := 1099511627776) (n := 64) (by omega) bX
  have v := own_V_mul hT hx (by decide) (by omega)
  have v' := own_V_mul ht hx (by decide) (by omega)
  refine ⟨?_, ?_, ?_⟩
  · intro hb
    have hn : 0 < n := Decidable.byContradiction fun q => hb (hbz.mpr q)
    exact ⟨fun _ => ⟨own_V_no v, own_div_no v hC (by omega)⟩, fun q => absurd (own_sq0 hs) q⟩
  · intro hn
    refine ⟨own_V_no v', own_div_no v' hm (by omega), fun r => ?_⟩
    unfold own_at
    rw [if_neg (fun q => (hbz.mp q) hn), if_pos (own_sq0 hs)]
    exact own_div_eq .l v hC v' hm (by omega)
  · intro hn r
    unfold own_at
    rw [if_pos (hbz.mpr hn)]
    exact (own_V_ci .l own_V_d0 own_V_d0).trans (own_ci_self _)
theorem own_line {x : UInt64} {bz : Int32} {mC mT sq pr : UInt64} {T Q L R X η : Int} {s : Nat} (hx : own_V x X 5) (hT : own_V mT T 4) (hC : own_V mC L 5) (hs : own_V sq (2 * Q * Q) 8) (hp : own_V pr (2 * R * Q) 9) (hb : ¬ bz = 0)
    (hQ : Q = ((2 ^ s : Nat) : Int) ∨ Q = -((2 ^ s : Nat) : Int)) (hs20 : s ≤ 20) (hX : X - L = η * R) (hη : η = 1 ∨ η = -1) (hR : R ≠ 0) (bR : R.natAbs ≤ 64) (bT : T.natAbs < 2 ^ 40) (bL : L.natAbs ≤ 200) :
    own_OkA x FP.dconst0 bz mC mT sq pr ∧ ∀ r, own_V (own_at r x FP.dconst0 bz mC mT sq pr) (T + η * Q) 4 := by
  have hP1 : (2 : Nat) ^ s ≤ 2 ^ 20 := Nat.pow_le_pow_right (by decide) hs20
  have hP0 := Nat.two_pow_pos s
  have e20 : (2 : Nat) ^ 20 = 1048576 := by decide
  have bQ : Q.natAbs ≤ 1048576 := by omega
  have bQ0 : Q ≠ 0 := by omega
  have c1 := own_mul_le (a := 2 * Q) (b := Q) (m := 2097152) (n := 1048576) (by omega) bQ
  have c2 := own_mul_le (a := 2 * R) (b := Q) (m := 128) (n := 1048576) (by omega) bQ
  have bR2 : (η * R).natAbs ≤ 64 := by rcases hη with rfl | rfl <;> omega
  have bQ2 : (η * Q).natAbs ≤ 1048576 := by rcases hη with rfl | rfl <;> omega
  have w0 := own_W0 0
  have z0 : ∀ {y : UInt64} {n : Int} {k : Nat}, own_V y n k → k ≤ 20 → own_V (FP.dmul (own_W FP.dconst0) y) 0 k := by
    intro y n k h hk
    have := own_V_mul w0 h (by omega) (by rw [Int.zero_mul]; decide)
    rw [Int.zero_mul, Nat.zero_add] at this; exact this
  have z1 : ∀ {y u : UInt64} {n : Int} {k j : Nat}, own_V u 0 j → own_V y n k → k ≤ 20 → j ≤ 20 → own_V (FP.dmul u y) 0 (j + k) := by
    intro y u n k j hu h hk hj
    have := own_V_mul hu h (by omega) (by rw [Int.zero_mul]; decide)
    rw [Int.zero_mul] at this; exact this
  have a1 := z0 hC (by decide)
  have a2 := z1 a1 hT (by decide) (by decide)
  have a3 : own_V (own_A pr (own_W FP.dconst0) mC mT) (2 * R * Q) 9 := by
    have := own_V_add hp a2 (by decide) (by omega)
    rw [Int.add_zero] at this; exact this
  have b1 := z0 hT (by decide)
  have b2 := z1 b1 hT (by decide) (by decide)
  have b3 : own_V (own_B sq (own_W FP.dconst0) mT) (2 * Q * Q) 8 := by
    have := own_V_add hs b2 (by decide) (by omega)
    rw [Int.add_zero] at this; exact this
  have qq : 2 * Q * Q ≠ 0 := fun h => by
    rcases Int.mul_eq_zero.mp h with h | h <;> omega
  obtain ⟨ε, hε, hQε⟩ : ∃ ε : Int, (ε = 1 ∨ ε = -1) ∧ Q = ε * ((2 ^ s : Nat) : Int) := by
    rcases hQ with h | h
    · exact ⟨1, Or.inl rfl, by omega⟩
    · exact ⟨-1, Or.inr rfl, by omega⟩
  have eP : ∀ k : Nat, ((2 ^ (k + s) : Nat) : Int) = ((2 ^ k : Nat) : Int) * ((2 ^ s : Nat) : Int) := fun k => by rw [Nat.pow_add, Int.natCast_mul]
  have hεε : ε * ε = 1 := by rcases hε with rfl | rfl <;> rfl
  have hηη : η * η = 1 := by rcases hη with rfl | rfl <;> rfl
  have bε : (ε * R).natAbs ≤ 64 := by rcases hε with rfl | rfl <;> omega
  have sl : own_V (FP.ddiv (own_A pr (own_W FP.dconst0) mC mT) (own_B sq (own_W FP.dconst0) mT)) (ε * R) (1 + s) := by
    refine own_V_div a3 b3 qq (by omega) (by omega) ?_
    rw [show 8 + (1 + s) = 9 + s by omega, eP 9, hQε]
    generalize ((2 ^ s : Nat) : Int) = P
    show 2 * R * (ε * P) * (512 * P) = ε * R * (2 * (ε * P) * (ε * P)) * 512
    have : ε * R * (2 * (ε * P) * (ε * P)) * 512 = (ε * ε) * (2 * R * (ε * P) * (512 * P)) := by grind
    rw [this, hεε, Int.one_mul]
  have d1 := own_V_sub hx hC (by decide) (by rw [hX]; omega)
  rw [hX] at d1
  have εR : ε * R ≠ 0 := by rcases hε with rfl | rfl <;> omega
  have d2 : own_V (FP.ddiv (FP.dsub x mC) (FP.ddiv (own_A pr (own_W FP.dconst0) mC mT) (own_B sq (own_W FP.dconst0) mT))) (η * Q) 4 := by
    refine own_V_div d1 sl εR (by decide) (by omega) ?_
    rw [show 1 + s + 4 = 5 + s by omega, eP 5, hQε]
    generalize ((2 ^ s : Nat) : Int) = P
    show η * R * (32 * P) = η * (ε * P) * (ε * R) * 32
    have : η * (ε * P) * (ε * R) * 32 = (ε * ε) * (η * R * (32 * P)) := by grind
    rw [this, hεε, Int.one_mul]
  have d3 := own_V_add hT d2 (by decide) (by omega)
  have hc : ¬ cmpValue (FP.dcmp sq FP.dconst0) .l = (0 : Int32) := by
    rw [own_V_ci .l hs (own_V_z own_V_d0)]
    exact fun q => qq (own_ci_eq.mp q)
  refine ⟨fun _ => ⟨fun q => absurd q hc, fun _ => ⟨own_V_no w0, own_V_no a1, own_V_no a2, own_V_no a3, own_V_no b1, own_V_no b2, own_V_no b3, own_V_no sl, own_V_no d1, own_V_no d2, own_V_no d3⟩⟩, fun r => ?_⟩
  unfold own_at
  rw [if_neg hb, if_neg hc]
  exact d3
def own_k (p : Int32) : Int32 := own_min (p &&& (31 : Int32)) (16 : Int32)
def own_c (p : Int32) : UInt64 := FP.ddiv (FP.i2d (own_k p)) (4625196817309499392 : UInt64)
theorem own_k_in (p : Int32) : 0 ≤ (own_k p).toInt ∧ (own_k p).toInt ≤ 16 := by
  have e1 : (p &&& (31 : Int32)).toInt = p.toInt % 2 ^ 5 := Jvm.Kit.i32_mask p 31 (k := 5) (by decide) (by decide)
  have e2 : (16 : Int32).toInt = 16 := rfl
  unfold own_k own_min
  split
  · rw [e2]; omega
  · rename_i h
    rw [Int32.lt_iff_toInt_lt, e2] at h; omega
theorem own_16th {a : Int32} (h : 0 ≤ a.toInt ∧ a.toInt ≤ 16) : own_V (FP.ddiv (FP.i2d a) (4625196817309499392 : UInt64)) a.toInt 4 :=
  own_V_div (own_V_i2d a) own_V_16 (by decide) (by decide) (by omega) (by rw [show 0 + 4 = 4 from rfl]; show a.toInt * 16 = a.toInt * 16 * 1; omega)
theorem own_c_V (p : Int32) : own_V (own_c p) (own_k p).toInt 4 := own_16th (own_k_in p)
theorem own_c_V5 (p : Int32) : own_V (own_c p) ((own_k p).toInt * 2) 5 := own_V_up 1 (own_c_V p)
theorem own_t_V (p : Int32) : own_V (FP.i2d p) (p.toInt * 16) 4 := own_V_up 4 (own_V_i2d p)
theorem own_t_in (p : Int32) : (p.toInt * 16).natAbs < 2 ^ 40 := by have := Int32.le_toInt p; have := Int32.toInt_lt p; omega
def own_a1 (p1 p2 : Int32) := own_first (own_t_V p2) (own_c_V5 p1) (own_t_in p2) (by have := own_k_in p1; omega)
def own_a2 (p1 p2 p3 : Int32) := own_second (Q := 0) (R := (own_k p3).toInt - (own_k p1).toInt) (own_t_V p2) (own_a1 p1 p2).2.1 (own_a1 p1 p2).2.2.2.1 (own_c_V5 p3) (own_a1 p1 p2).2.2.1 (own_a1 p1 p2).2.2.2.2 (by omega) (by omega) (own_t_in p2) (by decide) (by have := own_k_in p1; omega) (by have := own_k_in p1; have := own_k_in p3; omega)
theorem own_avg_s (p1 p3 : Int32) : own_V (FP.dadd (own_c p1) (own_c p3)) ((own_k p1).toInt + (own_k p3).toInt) 4 := own_V_add (own_c_V p1) (own_c_V p3) (by decide) (by have := own_k_in p1; have := own_k_in p3; omega)
theorem own_avg (p1 p3 : Int32) : own_V (FP.ddiv (FP.dadd (own_c p1) (own_c p3)) (4611686018427387904 : UInt64)) ((own_k p1).toInt + (own_k p3).toInt) 5 :=
  own_V_div (own_avg_s p1 p3) own_V_two (by decide) (by decide) (by have := own_k_in p1; have := own_k_in p3; omega) (by
    generalize (own_k p1).toInt + (own_k p3).toInt = a; show a * 32 = a * 2 * 16; omega)
def own_f1 (p1 p2 p4 : Int32) (z : UInt64) := own_flat (z := z) (pr := own_pr (own_c p1) (FP.i2d p2) (0 : Int64) (0 : UInt64) (0 : UInt64) (0 : UInt64)) (bz := own_bz (own_c p1) (0 : Int32)) (own_c_V p4) (own_t_V p2) (own_a1 p1 p2).2.1 (own_a1 p1 p2).2.2.1 (own_c_V5 p1) (own_a1 p1 p2).2.2.2.1 (by have := own_k_in p4; omega) (own_t_in p2)
  ((own_bz_iff (own_c_V5 p1) (Or.inl rfl)).trans ⟨fun h => h.2, fun h => ⟨rfl, h⟩⟩)
theorem own_T2 (p1 p2 p3 : Int32) : own_V (own_mu (FP.i2d p2) ((0 : Int64) + (1 : Int64)) (own_mu (FP.i2d p2) (0 : Int64) (0 : UInt64))) (p2.toInt * 16) 4 := by
  have h := (own_a2 p1 p2 p3).2.1
  rw [Int.add_zero] at h; exact h
theorem own_C2 (p1 p2 p3 : Int32) : own_V (own_mu (own_c p3) ((0 : Int64) + (1 : Int64)) (own_mu (own_c p1) (0 : Int64) (0 : UInt64))) ((own_k p1).toInt + (own_k p3).toInt) 5 := by
  have h := (own_a2 p1 p2 p3).2.2.1
  rw [show (own_k p1).toInt * 2 + ((own_k p3).toInt - (own_k p1).toInt) = (own_k p1).toInt + (own_k p3).toInt by omega] at h; exact h
theorem own_S2 (p1 p2 p3 : Int32) : own_V (own_sd (FP.i2d p2) ((0 : Int64) + (1 : Int64)) (own_mu (FP.i2d p2) (0 : Int64) (0 : UInt64)) (own_sd (FP.i2d p2) (0 : Int64) (0 : UInt64) (0 : UInt64))) 0 8 := (own_a2 p1 p2 p3).2.2.2.1
def own_f2 (p1 p2 p3 p4 : Int32) (z : UInt64) := own_flat (z := z) (pr := own_pr (own_c p3) (FP.i2d p2) ((0 : Int64) + (1 : Int64)) (own_mu (own_c p1) (0 : Int64) (0 : UInt64)) (own_mu (FP.i2d p2) (0 : Int64) (0 : UInt64)) (own_pr (own_c p1) (FP.i2d p2) (0 : Int64) (0 : UInt64) (0 : UInt64) (0 : UInt64))) (bz := own_bz (own_c p3) (own_bz (own_c p1) (0 : Int32))) (own_c_V p4) (own_t_V p2) (own_T2 p1 p2 p3) (own_C2 p1 p2 p3) (own_avg p1 p3) (own_S2 p1 p2 p3) (by have := own_k_in p4; omega) (own_t_in p2)
  ((own_bz_iff (own_c_V5 p3) (own_bz01 (Or.inl rfl))).trans (by
    rw [own_bz_iff (own_c_V5 p1) (Or.inl rfl)]
    have := own_k_in p1; have := own_k_in p3
    exact ⟨fun h => by have h1 := h.1.2; have h2 := h.2; omega, fun h => ⟨⟨rfl, by omega⟩, by omega⟩⟩))
/-! the second half -/
def own_i (p : Int32) : Int32 := p &&& (15 : Int32)
def own_j (p1 p3 : Int32) : Int32 := (own_i p1 + (1 : Int32)) + ((p3 &&& (2147483647 : Int32)) % ((16 : Int32) - own_i p1))
def own_lo (p1 : Int32) : UInt64 := FP.ddiv (FP.i2d (own_i p1)) (4625196817309499392 : UInt64)
def own_hi (p1 p3 : Int32) : UInt64 := FP.ddiv (FP.i2d (own_j p1 p3)) (4625196817309499392 : UInt64)
theorem own_i_in (p : Int32) : 0 ≤ (own_i p).toInt ∧ (own_i p).toInt ≤ 15 := by
  have e1 : (p &&& (15 : Int32)).toInt = p.toInt % 2 ^ 4 := Jvm.Kit.i32_mask p 15 (k := 4) (by decide) (by decide)
  unfold own_i; omega
theorem own_16_i (p : Int32) : ((16 : Int32) - own_i p).toInt = 16 - (own_i p).toInt := by
  have := own_i_in p
  rw [Int32.toInt_sub, show (16 : Int32).toInt = 16 from rfl]; exact Int.bmod_eq_of_le (by omega) (by omega)
theorem own_16nz (p : Int32) : (16 : Int32) - own_i p ≠ 0 := fun h => by
  have := own_16_i p; rw [h, show (0 : Int32).toInt = 0 from rfl] at this; have := own_i_in p; omega
theorem own_j_in (p1 p3 : Int32) : (own_i p1).toInt < (own_j p1 p3).toInt ∧ (own_j p1 p3).toInt ≤ 16 := by
  have h := own_i_in p1
  have h16 := own_16_i p1
  have e1 : (p3 &&& (2147483647 : Int32)).toInt = p3.toInt % 2 ^ 31 := Jvm.Kit.i32_mask p3 2147483647 (k := 31) (by decide) (by decide)
  have em : ((p3 &&& (2147483647 : Int32)) % ((16 : Int32) - own_i p1)).toInt = (p3.toInt % 2 ^ 31) % (16 - (own_i p1).toInt) := by
    rw [Jvm.Kit.i32_rem_nonneg (by omega), e1, h16]
  have m1 := Int.emod_nonneg (p3.toInt % 2 ^ 31) (show (16 - (own_i p1).toInt) ≠ 0 by omega)
  have m2 := Int.emod_lt_of_pos (p3.toInt % 2 ^ 31) (show 0 < (16 - (own_i p1).toInt) by omega)
  have e2 : (own_i p1 + (1 : Int32)).toInt = (own_i p1).toInt + 1 := by
    rw [Int32.toInt_add, show (1 : Int32).toInt = 1 from rfl]; exact Int.bmod_eq_of_le (by omega) (by omega)
  have e3 : (own_j p1 p3).toInt = (own_i p1).toInt + 1 + (p3.toInt % 2 ^ 31) % (16 - (own_i p1).toInt) := by
    unfold own_j; rw [Int32.toInt_add, e2, em]; exact Int.bmod_eq_of_le (by omega) (by omega)
  omega
theorem own_lo_V (p1 : Int32) : own_V (own_lo p1) (own_i p1).toInt 4 := own_16th (by have := own_i_in p1; omega)
theorem own_hi_V (p1 p3 : Int32) : own_V (own_hi p1 p3) (own_j p1 p3).toInt 4 := own_16th (by have := own_i_in p1; have := own_j_in p1 p3; omega)
def own_c1 (p1 p3 p6 : Int32) : UInt64 := if (p6 &&& (2 : Int32)) = (0 : Int32) then own_lo p1 else own_hi p1 p3
def own_c2 (p1 p3 p6 : Int32) : UInt64 := if (p6 &&& (2 : Int32)) = (0 : Int32) then own_hi p1 p3 else own_lo p1
def own_y1 (p1 p3 p6 : Int32) : Int := if (p6 &&& (2 : Int32)) = (0 : Int32) then (own_i p1).toInt else (own_j p1 p3).toInt
def own_y2 (p1 p3 p6 : Int32) : Int := if (p6 &&& (2 : Int32)) = (0 : Int32) then (own_j p1 p3).toInt else (own_i p1).toInt
theorem own_c1_V (p1 p3 p6 : Int32) : own_V (own_c1 p1 p3 p6) (own_y1 p1 p3 p6 * 2) 5 := by
  unfold own_c1 own_y1; split
  · exact own_V_up 1 (own_lo_V p1)
  · exact own_V_up 1 (own_hi_V p1 p3)
theorem own_c2_V (p1 p3 p6 : Int32) : own_V (own_c2 p1 p3 p6) (own_y2 p1 p3 p6 * 2) 5 := by
  unfold own_c2 own_y2; split
  · exact own_V_up 1 (own_hi_V p1 p3)
  · exact own_V_up 1 (own_lo_V p1)
theorem own_y_in (p1 p3 p6 : Int32) : 0 ≤ own_y1 p1 p3 p6 ∧ own_y1 p1 p3 p6 ≤ 16 ∧ 0 ≤ own_y2 p1 p3 p6 ∧ own_y2 p1 p3 p6 ≤ 16 ∧ own_y2 p1 p3 p6 - own_y1 p1 p3 p6 ≠ 0 ∧ (0 < own_y1 p1 p3 p6 ∨ 0 < own_y2 p1 p3 p6) := by
  have := own_i_in p1; have := own_j_in p1 p3
  unfold own_y1 own_y2; split <;> omega
def own_st (p5 : Int32) : UInt64 := FP.ddiv (FP.i2d ((1 : Int32) <<< ((p5 &&& (15 : Int32)) &&& 31))) (4620693217682128896 : UInt64)
def own_sN (p5 : Int32) : Nat := (p5 &&& (15 : Int32)).toInt.toNat
theorem own_pow_all : ∀ t : Fin 16, ((1 : Int32) <<< (Int32.ofNat t.val &&& 31)).toInt = ((2 ^ t.val : Nat) : Int) := by decide +kernel
theorem own_sN_in (p5 : Int32) : own_sN p5 < 16 ∧ (p5 &&& (15 : Int32)) = Int32.ofNat (own_sN p5) := by
  have e1 : (p5 &&& (15 : Int32)).toInt = p5.toInt % 2 ^ 4 := Jvm.Kit.i32_mask p5 15 (k := 4) (by decide) (by decide)
  have h : own_sN p5 < 16 := by unfold own_sN; omega
  refine ⟨h, Int32.toInt_inj.mp ?_⟩
  rw [Int32.toInt_ofNat_of_lt (by omega)]
  unfold own_sN; omega
theorem own_V_8 : own_V (4620693217682128896 : UInt64) 8 0 := ⟨false, 4503599627370496, -49, by decide +kernel, by decide⟩
theorem own_st_V (p5 : Int32) : own_V (own_st p5) ((2 ^ own_sN p5 : Nat) : Int) 3 := by
  obtain ⟨h, e⟩ := own_sN_in p5
  have hp : (2 : Nat) ^ own_sN p5 ≤ 2 ^ 16 := Nat.pow_le_pow_right (by decide) (by omega)
  have e16 : (2 : Nat) ^ 16 = 65536 := by decide
  unfold own_st
  have hv := own_V_i2d ((1 : Int32) <<< ((p5 &&& (15 : Int32)) &&& 31))
  rw [e, own_pow_all ⟨own_sN p5, h⟩, ← e] at hv
  refine own_V_div hv own_V_8 (by decide) (by decide) (by rw [Int.natAbs_natCast]; omega) ?_
  generalize ((2 ^ own_sN p5 : Nat) : Int) = P
  show P * 8 = P * 8 * 1
  omega
def own_dT (p5 p6 : Int32) : UInt64 := if (p6 &&& (4 : Int32)) = (0 : Int32) then own_st p5 else FP.dneg (own_st p5)
def own_sg (p5 p6 : Int32) : Int := if (p6 &&& (4 : Int32)) = (0 : Int32) then ((2 ^ own_sN p5 : Nat) : Int) else -((2 ^ own_sN p5 : Nat) : Int)
theorem own_dT_V (p5 p6 : Int32) : own_V (own_dT p5 p6) (own_sg p5 p6) 3 := by
  unfold own_dT own_sg; split
  · exact own_st_V p5
  · exact own_V_neg (own_st_V p5)
theorem own_sg_in (p5 p6 : Int32) : (own_sg p5 p6).natAbs ≤ 65536 ∧ (own_sg p5 p6 = ((2 ^ own_sN p5 : Nat) : Int) ∨ own_sg p5 p6 = -((2 ^ own_sN p5 : Nat) : Int)) := by
  have hp : (2 : Nat) ^ own_sN p5 ≤ 2 ^ 16 := Nat.pow_le_pow_right (by decide) (by have := (own_sN_in p5).1; omega)
  have e16 : (2 : Nat) ^ 16 = 65536 := by decide
  unfold own_sg; split
  · exact ⟨by rw [Int.natAbs_natCast]; omega, Or.inl rfl⟩
  · exact ⟨by rw [Int.natAbs_neg, Int.natAbs_natCast]; omega, Or.inr rfl⟩
def own_t2 (p2 p5 p6 : Int32) : UInt64 := FP.dadd (FP.i2d p2) (own_dT p5 p6)
theorem own_t2_V3 (p2 p5 p6 : Int32) : own_V (own_t2 p2 p5 p6) (p2.toInt * 8 + own_sg p5 p6) 3 :=
  own_V_add (own_V_up 3 (own_V_i2d p2)) (own_dT_V p5 p6) (by decide) (by have := own_t_in p2; have := (own_sg_in p5 p6).1; show (p2.toInt * 8 + own_sg p5 p6).natAbs < _; omega)
theorem own_t2_V (p2 p5 p6 : Int32) : own_V (own_t2 p2 p5 p6) (p2.toInt * 16 + 2 * own_sg p5 p6) 4 := by
  have h := own_V_up 1 (own_t2_V3 p2 p5 p6)
  have e : (p2.toInt * 8 + own_sg p5 p6) * ((2 ^ 1 : Nat) : Int) = p2.toInt * 16 + 2 * own_sg p5 p6 := by show _ * 2 = _; omega
  rw [e] at h; exact h
def own_b1 (p1 p2 p3 p6 : Int32) := own_first (own_t_V p2) (own_c1_V p1 p3 p6) (own_t_in p2) (by have := own_y_in p1 p3 p6; omega)
def own_b2 (p1 p2 p3 p5 p6 : Int32) := own_second (Q := own_sg p5 p6) (R := own_y2 p1 p3 p6 - own_y1 p1 p3 p6) (own_t2_V p2 p5 p6) (own_b1 p1 p2 p3 p6).2.1 (own_b1 p1 p2 p3 p6).2.2.2.1 (own_c2_V p1 p3 p6) (own_b1 p1 p2 p3 p6).2.2.1 (own_b1 p1 p2 p3 p6).2.2.2.2 (by omega) (by omega) (own_t_in p2) (by have := own_sg_in p5 p6; omega) (by have := own_y_in p1 p3 p6; omega) (by have := own_y_in p1 p3 p6; omega)
theorem own_busy (p1 p3 p6 : Int32) : ¬ own_bz (own_c2 p1 p3 p6) (own_bz (own_c1 p1 p3 p6) (0 : Int32)) = 0 := by
  rw [own_bz_iff (own_c2_V p1 p3 p6) (own_bz01 (Or.inl rfl)), own_bz_iff (own_c1_V p1 p3 p6) (Or.inl rfl)]
  have := own_y_in p1 p3 p6
  rintro ⟨⟨-, h1⟩, h2⟩; omega
def own_g1 (p1 p2 p3 p5 p6 : Int32) := own_line (η := -1) (own_c1_V p1 p3 p6) (own_b2 p1 p2 p3 p5 p6).2.1 (own_b2 p1 p2 p3 p5 p6).2.2.1 (own_b2 p1 p2 p3 p5 p6).2.2.2.1 (own_b2 p1 p2 p3 p5 p6).2.2.2.2 (own_busy p1 p3 p6) (own_sg_in p5 p6).2 (by have := (own_sN_in p5).1; omega) (by omega) (Or.inr rfl) (by have := own_y_in p1 p3 p6; omega) (by have := own_y_in p1 p3 p6; omega) (by have := own_t_in p2; have := (own_sg_in p5 p6).1; have := Int32.le_toInt p2; have := Int32.toInt_lt p2; omega) (by have := own_y_in p1 p3 p6; omega)
def own_g2 (p1 p2 p3 p5 p6 : Int32) := own_line (η := 1) (own_c2_V p1 p3 p6) (own_b2 p1 p2 p3 p5 p6).2.1 (own_b2 p1 p2 p3 p5 p6).2.2.1 (own_b2 p1 p2 p3 p5 p6).2.2.2.1 (own_b2 p1 p2 p3 p5 p6).2.2.2.2 (own_busy p1 p3 p6) (own_sg_in p5 p6).2 (by have := (own_sN_in p5).1; omega) (by omega) (Or.inl rfl) (by have := own_y_in p1 p3 p6; omega) (by have := own_y_in p1 p3 p6; omega) (by have := own_t_in p2; have := (own_sg_in p5 p6).1; have := Int32.le_toInt p2; have := Int32.toInt_lt p2; omega) (by have := own_y_in p1 p3 p6; omega)
theorem own_e1 {y : UInt64} {p2 : Int32} {q : Int} (h : own_V y (p2.toInt * 16 + q + -1 * q) 4) : cmpValue (FP.dcmp y (FP.i2d p2)) .l = (0 : Int32) := by
  rw [show p2.toInt * 16 + q + -1 * q = p2.toInt * 16 by omega] at h
  exact (own_V_ci .l h (own_t_V p2)).trans (own_ci_self _)
theorem own_e2 {y : UInt64} {p2 p5 p6 : Int32} (h : own_V y (p2.toInt * 16 + own_sg p5 p6 + 1 * own_sg p5 p6) 4) : cmpValue (FP.dcmp y (own_t2 p2 p5 p6)) .l = (0 : Int32) := by
  rw [show p2.toInt * 16 + own_sg p5 p6 + 1 * own_sg p5 p6 = p2.toInt * 16 + 2 * own_sg p5 p6 by omega] at h
  exact (own_V_ci .l h (own_t2_V p2 p5 p6)).trans (own_ci_self _)

theorem own_pn_ThroughputLineAddPinLaw : plainName "com/example/waxwing/waxwing/policy/ThroughputLineAddPinLaw" = true := by first | (simp [plainName, overriddenIn]; done) | decide +kernel
theorem own_ef0 (m : MethodId) (x0 : Int32) (x1 : Int32) (x2 : Int32) (x3 : Int32) (x4 : Int32) (x5 : Int32) : entryFrame m #[(.int x0), (.int x1), (.int x2), (.int x3), (.int x4), (.int x5)] maxLocals = mkF m 0 #[.val (.int x0), .val (.int x1), .val (.int x2), .val (.int x3), .val (.int x4), .val (.int x5), .unset, .unset, .unset, .unset, .unset, .unset, .unset, .unset, .unset, .unset, .unset, .unset, .unset, .unset, .unset, .unset, .unset, .unset, .unset] [] := by first | (simp [entryFrame, mkF, argsToLocals, Value.category, maxLocals]; done) | rfl
theorem own_pd1 : parseMethodDescriptor "(II)I" = some ⟨[.int, .int], some .int⟩ := by decide +kernel
theorem own_pd2 : parseMethodDescriptor "(DD)V" = some ⟨[.double, .double], none⟩ := by decide +kernel
theorem own_pd3 : parseMethodDescriptor "(DD)D" = some ⟨[.double, .double], some .double⟩ := by decide +kernel
set_option maxRecDepth 65536 in
set_option maxHeartbeats 40000000 in
theorem own_law (l : Launch) (Z : State) (a0 : Array Value) (hw : ∀ d ∈ tables_1, d.before a0 Z = true) (p1 : Int32) (p2 : Int32) (p3 : Int32) (p4 : Int32) (p5 : Int32) (p6 : Int32) (h0 : Heap) (n0 : Nat) (Z0 : n0 ≤ h0.size) : own_Con l Z tables_1 x code maxLocals ret room_1 #[(.int p1), (.int p2), (.int p3), (.int p4), (.int p5), (.int p6)] h0 (fun v _ L => v = some (.int (1 : Int32)) ∧ Fr n0 L) := by
  refine own_body (plainFor_of_name own_pn_ThroughputLineAddPinLaw) ?_
  intro p e s m below meth c s₁ X0 hx hby hml hret hlk hown hnm hZ e0
  have N0 := Fr.nil n0
  refine oS (u' := s₁.setTop (mkF m 0 #[.val (.int p1), .val (.int p2), .val (.int p3), .val (.int p4), .val (.int p5), .val (.int p6), .unset, .unset, .unset, .unset, .unset, .unset, .unset, .unset, .unset, .unset, .unset, .unset, .unset, .unset, .unset, .unset, .unset, .unset, .unset] [])) (fun _ kst => castTop (own_ef0 m p1 p2 p3 p4 p5 p6) kst) ?_
  obtain ⟨T37, h37, X37, e37, E37, A37, D37, -, st37⟩ := newO X0 hx hZ hown (hw _ (List.mem_of_getElem? (i := 0) rfl)) (hw _ (List.mem_of_getElem? (i := 1) rfl)) (hw _ (List.mem_of_getElem? (i := 2) rfl)) e0 (g := (mkF m 0 #[.val (.int p1), .val (.int p2), .val (.int p3), .val (.int p4), .val (.int p5), .val (.int p6), .unset, .unset, .unset, .unset, .unset, .unset, .unset, .unset, .unset, .unset, .unset, .unset, .unset, .unset, .unset, .unset, .unset, .unset, .unset] [])) rfl (hb hby at_0) (by decide) (by decide)
  obtain ⟨b37, g37⟩ : ∃ z, z = h0.size := ⟨_, rfl⟩
  rw [← g37] at A37 D37 st37
  have gb_b37 : n0 ≤ b37 := Nat.le_trans Z0 (Nat.le_of_eq g37.symm)
  have Z37 := Nat.le_trans Z0 E37.1
  have f37_F_samples : Fld Z h37 b37 "com/example/waxwing/waxwing/policy/ThroughputLine" "samples" "J" (.long (0 : Int64)) := D37 (Or.inl (hw _ (List.mem_of_getElem? (i := 18) rfl))) (ty := .long) (by decide)
  have f37_F_meanThroughput : Fld Z h37 b37 "com/example/waxwing/waxwing/policy/ThroughputLine" "meanThroughput" "D" (.double (0 : UInt64)) := D37 (Or.inl (hw _ (List.mem_of_getElem? (i := 20) rfl))) (ty := .double) (by decide)
  have f37_F_meanCpu : Fld Z h37 b37 "com/example/waxwing/waxwing/policy/ThroughputLine" "meanCpu" "D" (.double (0 : UInt64)) := D37 (Or.inl (hw _ (List.mem_of_getElem? (i := 22) rfl))) (ty := .double) (by decide)
  have f37_F_throughputSquares : Fld Z h37 b37 "com/example/waxwing/waxwing/policy/ThroughputLine" "throughputSquares" "D" (.double (0 : UInt64)) := D37 (Or.inl (hw _ (List.mem_of_getElem? (i := 24) rfl))) (ty := .double) (by decide)
  have f37_F_products : Fld Z h37 b37 "com/example/waxwing/waxwing/policy/ThroughputLine" "products" "D" (.double (0 : UInt64)) := D37 (Or.inl (hw _ (List.mem_of_getElem? (i := 26) rfl))) (ty := .double) (by decide)
  have f37_F_busy : Fld Z h37 b37 "com/example/waxwing/waxwing/policy/ThroughputLine" "busy" "Z" (.int (0 : Int32)) := D37 (Or.inl (hw _ (List.mem_of_getElem? (i := 28) rfl))) (ty := .boolean) (by decide)
  refine oS (u' := T37.setTop (mkF m 3 #[.val (.int p1), .val (.int p2), .val (.int p3), .val (.int p4), .val (.int p5), .val (.int p6), .unset, .unset, .unset, .unset, .unset, .unset, .unset, .unset, .unset, .unset, .unset, .unset, .unset, .unset, .unset, .unset, .unset, .unset, .unset] [(.ref b37)])) st37 ?_
  refine oS (u' := T37.setTop (mkF m 4 #[.val (.int p1), .val (.int p2), .val (.int p3), .val (.int p4), .val (.int p5), .val (.int p6), .unset, .unset, .unset, .unset, .unset, .unset, .unset, .unset, .unset, .unset, .unset, .unset, .unset, .unset, .unset, .unset, .unset, .unset, .unset] [(.ref b37), (.ref b37)])) (fun _ kst => XS.dup X37.here hx rfl (hb hby at_3) rfl rfl kst) ?_
  obtain ⟨T38, X38, e38, st38⟩ := own_callIP X37 hx hZ (y := (⟨"com/example/waxwing/waxwing/policy/ThroughputLine", "<init>", "()V"⟩ : MethodName)) rfl hown (hw _ (List.mem_of_getElem? (i := 3) rfl)) (hw _ (List.mem_of_getElem? (i := 4) rfl)) (hw _ (List.mem_of_getElem? (i := 5) rfl)) (hw _ (List.mem_of_getElem? (i := 2) rfl)) (by decide) e37 (W := 1) (own_rm_tlinit l Z a0 hw b37 h37) (by decide) (by decide) (g := (mkF m 4 #[.val (.int p1), .val (.int p2), .val (.int p3), .val (.int p4), .val (.int p5), .val (.int p6), .unset, .unset, .unset, .unset, .unset, .unset, .unset, .unset, .unset, .unset, .unset, .unset, .unset, .unset, .unset, .unset, .unset, .unset, .unset] [(.ref b37), (.ref b37)])) rfl (by rw [hml]; rfl) (a := b37) (argsL := []) (rest := [(.ref b37)]) (lenOf own_pd0 rfl) rfl (by show 2 * 0 + _ ≤ _; exact Nat.le_of_eq rfl) (hb hby at_4) (by decide) (by decide)
  refine oS (u' := T38.setTop (mkF m 7 #[.val (.int p1), .val (.int p2), .val (.int p3), .val (.int p4), .val (.int p5), .val (.int p6), .unset, .unset, .unset, .unset, .unset, .unset, .unset, .unset, .unset, .unset, .unset, .unset, .unset, .unset, .unset, .unset, .unset, .unset, .unset] [(.ref b37)])) st38 ?_
  refine oS (u' := T38.setTop (mkF m 9 #[.val (.int p1), .val (.int p2), .val (.int p3), .val (.int p4), .val (.int p5), .val (.int p6), .val (.ref b37), .unset, .unset, .unset, .unset, .unset, .unset, .unset, .unset, .unset, .unset, .unset, .unset, .unset, .unset, .unset, .unset, .unset, .unset] [])) (fun _ kst => XS.astore X38.here hx rfl (hb hby at_7) rfl rfl (l' := #[.val (.int p1), .val (.int p2), .val (.int p3), .val (.int p4), .val (.int p5), .val (.int p6), .val (.ref b37), .unset, .unset, .unset, .unset, .unset, .unset, .unset, .unset, .unset, .unset, .unset, .unset, .unset, .unset, .unset, .unset, .unset, .unset]) rfl kst) ?_
  refine oS (u' := T38.setTop (mkF m 10 #[.val (.int p1), .val (.int p2), .val (.int p3), .val (.int p4), .val (.int p5), .val (.int p6), .val (.ref b37), .unset, .unset, .unset, .unset, .unset, .unset, .unset, .unset, .unset, .unset, .unset, .unset, .unset, .unset, .unset, .unset, .unset, .unset] [(.int p2)])) (fun _ kst => XS.iloadN X38.here hx rfl (hb hby at_9) rfl kst) ?_
  refine oS (u' := T38.setTop (mkF m 11 #[.val (.int p1), .val (.int p2), .val (.int p3), .val (.int p4), .val (.int p5), .val (.int p6), .val (.ref b37), .unset, .unset, .unset, .unset, .unset, .unset, .unset, .unset, .unset, .unset, .unset, .unset, .unset, .unset, .unset, .unset, .unset, .unset] [(.double (FP.i2d p2))])) (fun _ kst => XS.i2dS X38.here hx rfl (hb hby at_10) rfl rfl kst) ?_
  refine oS (u' := T38.setTop (mkF m 13 #[.val (.int p1), .val (.int p2), .val (.int p3), .val (.int p4), .val (.int p5), .val (.int p6), .val (.ref b37), .val (.double (FP.i2d p2)), .second, .unset, .unset, .unset, .unset, .unset, .unset, .unset, .unset, .unset, .unset, .unset, .unset, .unset, .unset, .unset, .unset] [])) (fun _ kst => XS.dstore X38.here hx rfl (hb hby at_11) rfl (l' := #[.val (.int p1), .val (.int p2), .val (.int p3), .val (.int p4), .val (.int p5), .val (.int p6), .val (.ref b37), .val (.double (FP.i2d p2)), .second, .unset, .unset, .unset, .unset, .unset, .unset, .unset, .unset, .unset, .unset, .unset, .unset, .unset, .unset, .unset, .unset]) rfl kst) ?_
  refine oS (u' := T38.setTop (mkF m 15 #[.val (.int p1), .val (.int p2), .val (.int p3), .val (.int p4), .val (.int p5), .val (.int p6), .val (.ref b37), .val (.double (FP.i2d p2)), .second, .unset, .unset, .unset, .unset, .unset, .unset, .unset, .unset, .unset, .unset, .unset, .unset, .unset, .unset, .unset, .unset] [(.int p6)])) (fun _ kst => XS.iload X38.here hx rfl (hb hby at_13) rfl kst) ?_
  refine oS (u' := T38.setTop (mkF m 16 #[.val (.int p1), .val (.int p2), .val (.int p3), .val (.int p4), .val (.int p5), .val (.int p6), .val (.ref b37), .val (.double (FP.i2d p2)), .second, .unset, .unset, .unset, .unset, .unset, .unset, .unset, .unset, .unset, .unset, .unset, .unset, .unset, .unset, .unset, .unset] [(.int (1 : Int32)), (.int p6)])) (fun _ kst => XS.iconst X38.here hx rfl (hb hby at_15) kst) ?_
  refine oS (u' := T38.setTop (mkF m 17 #[.val (.int p1), .val (.int p2), .val (.int p3), .val (.int p4), .val (.int p5), .val (.int p6), .val (.ref b37), .val (.double (FP.i2d p2)), .second, .unset, .unset, .unset, .unset, .unset, .unset, .unset, .unset, .unset, .unset, .unset, .unset, .unset, .unset, .unset, .unset] [(.int (p6 &&& (1 : Int32)))])) (fun _ kst => XS.iand X38.here hx rfl (hb hby at_16) rfl kst) ?_
  by_cases hc39 : (p6 &&& (1 : Int32)) = (0 : Int32)
  · refine oS (u' := T38.setTop (mkF m 20 #[.val (.int p1), .val (.int p2), .val (.int p3), .val (.int p4), .val (.int p5), .val (.int p6), .val (.ref b37), .val (.double (FP.i2d p2)), .second, .unset, .unset, .unset, .unset, .unset, .unset, .unset, .unset, .unset, .unset, .unset, .unset, .unset, .unset, .unset, .unset] [])) (fun _ kst => XS.ifNo X38.here hx rfl (hb hby at_17) rfl ((if0 _ _).trans (teq hc39).2) kst) ?_
    refine oS (u' := T38.setTop (mkF m 21 #[.val (.int p1), .val (.int p2), .val (.int p3), .val (.int p4), .val (.int p5), .val (.int p6), .val (.ref b37), .val (.double (FP.i2d p2)), .second, .unset, .unset, .unset, .unset, .unset, .unset, .unset, .unset, .unset, .unset, .unset, .unset, .unset, .unset, .unset, .unset] [(.int p1)])) (fun _ kst => XS.iloadN X38.here hx rfl (hb hby at_20) rfl kst) ?_
    refine oS (u' := T38.setTop (mkF m 23 #[.val (.int p1), .val (.int p2), .val (.int p3), .val (.int p4), .val (.int p5), .val (.int p6), .val (.ref b37), .val (.double (FP.i2d p2)), .second, .unset, .unset, .unset, .unset, .unset, .unset, .unset, .unset, .unset, .unset, .unset, .unset, .unset, .unset, .unset, .unset] [(.int (31 : Int32)), (.int p1)])) (fun _ kst => XS.bipush X38.here hx rfl (hb hby at_21) kst) ?_
    refine oS (u' := T38.setTop (mkF m 24 #[.val (.int p1), .val (.int p2), .val (.int p3), .val (.int p4), .val (.int p5), .val (.int p6), .val (.ref b37), .val (.double (FP.i2d p2)), .second, .unset, .unset, .unset, .unset, .unset, .unset, .unset, .unset, .unset, .unset, .unset, .unset, .unset, .unset, .unset, .unset] [(.int (p1 &&& (31 : Int32)))])) (fun _ kst => XS.iand X38.here hx rfl (hb hby at_23) rfl kst) ?_
    refine oS (u' := T38.setTop (mkF m 26 #[.val (.int p1), .val (.int p2), .val (.int p3), .val (.int p4), .val (.int p5), .val (.int p6), .val (.ref b37), .val (.double (FP.i2d p2)), .second, .unset, .unset, .unset, .unset, .unset, .unset, .unset, .unset, .unset, .unset, .unset, .unset, .unset, .unset, .unset, .unset] [(.int (16 : Int32)), (.int (p1 &&& (31 : Int32)))])) (fun _ kst => XS.bipush X38.here hx rfl (hb hby at_24) kst) ?_
    obtain ⟨T40, X40, e40, st40⟩ := own_callSP X38 hx hZ (y := (⟨"java/lang/Math", "min", "(II)I"⟩ : MethodName)) hown (hw _ (List.mem_of_getElem? (i := 35) rfl)) (hw _ (List.mem_of_getElem? (i := 36) rfl)) (hw _ (List.mem_of_getElem? (i := 38) rfl)) (hw _ (List.mem_of_getElem? (i := 37) rfl)) (by decide) e38 (W := 0) (own_rm_min l Z a0 hw (p1 &&& (31 : Int32)) (16 : Int32) h37 ) (by decide) (by decide) (g := (mkF m 26 #[.val (.int p1), .val (.int p2), .val (.int p3), .val (.int p4), .val (.int p5), .val (.int p6), .val (.ref b37), .val (.double (FP.i2d p2)), .second, .unset, .unset, .unset, .unset, .unset, .unset, .unset, .unset, .unset, .unset, .unset, .unset, .unset, .unset, .unset, .unset] [(.int (16 : Int32)), (.int (p1 &&& (31 : Int32)))])) rfl (by rw [hml]; rfl) (argsL := [(.int (p1 &&& (31 : Int32))), (.int (16 : Int32))]) (rest := []) (lenOf own_pd1 rfl) rfl (by show 2 * 0 + _ ≤ _; exact Nat.le_of_eq rfl) (hb hby at_26) (by decide) (by decide)
    refine oS (u' := T40.setTop (mkF m 29 #[.val (.int p1), .val (.int p2), .val (.int p3), .val (.int p4), .val (.int p5), .val (.int p6), .val (.ref b37), .val (.double (FP.i2d p2)), .second, .unset, .unset, .unset, .unset, .unset, .unset, .unset, .unset, .unset, .unset, .unset, .unset, .unset, .unset, .unset, .unset] [(.int (own_k p1))])) st40 ?_
    refine oS (u' := T40.setTop (mkF m 30 #[.val (.int p1), .val (.int p2), .val (.int p3), .val (.int p4), .val (.int p5), .val (.int p6), .val (.ref b37), .val (.double (FP.i2d p2)), .second, .unset, .unset, .unset, .unset, .unset, .unset, .unset, .unset, .unset, .unset, .unset, .unset, .unset, .unset, .unset, .unset] [(.double (FP.i2d (own_k p1)))])) (fun _ kst => XS.i2dS X40.here hx rfl (hb hby at_29) rfl rfl kst) ?_
    refine oS (u' := T40.setTop (mkF m 33 #[.val (.int p1), .val (.int p2), .val (.int p3), .val (.int p4), .val (.int p5), .val (.int p6), .val (.ref b37), .val (.double (FP.i2d p2)), .second, .unset, .unset, .unset, .unset, .unset, .unset, .unset, .unset, .unset, .unset, .unset, .unset, .unset, .unset, .unset, .unset] [(.double (4625196817309499392 : UInt64)), (.double (FP.i2d (own_k p1)))])) (fun _ kst => X40.ldc2DoubleC hx hown (mvT hZ (hw _ (List.mem_of_getElem? (i := 10) rfl))) (g := (mkF m 30 #[.val (.int p1), .val (.int p2), .val (.int p3), .val (.int p4), .val (.int p5), .val (.int p6), .val (.ref b37), .val (.double (FP.i2d p2)), .second, .unset, .unset, .unset, .unset, .unset, .unset, .unset, .unset, .unset, .unset, .unset, .unset, .unset, .unset, .unset, .unset] [(.double (FP.i2d (own_k p1)))])) rfl (hb hby at_30) _ kst) ?_
    refine oS (u' := T40.setTop (mkF m 34 #[.val (.int p1), .val (.int p2), .val (.int p3), .val (.int p4), .val (.int p5), .val (.int p6), .val (.ref b37), .val (.double (FP.i2d p2)), .second, .unset, .unset, .unset, .unset, .unset, .unset, .unset, .unset, .unset, .unset, .unset, .unset, .unset, .unset, .unset, .unset] [(.double (own_c p1))])) (fun _ kst => XS.ddivS X40.here hx rfl (hb hby at_33) rfl (own_V_no (own_c_V p1)) rfl kst) ?_
    refine oS (u' := T40.setTop (mkF m 36 #[.val (.int p1), .val (.int p2), .val (.int p3), .val (.int p4), .val (.int p5), .val (.int p6), .val (.ref b37), .val (.double (FP.i2d p2)), .second, .val (.double (own_c p1)), .second, .unset, .unset, .unset, .unset, .unset, .unset, .unset, .unset, .unset, .unset, .unset, .unset, .unset, .unset] [])) (fun _ kst => XS.dstore X40.here hx rfl (hb hby at_34) rfl (l' := #[.val (.int p1), .val (.int p2), .val (.int p3), .val (.int p4), .val (.int p5), .val (.int p6), .val (.ref b37), .val (.double (FP.i2d p2)), .second, .val (.double (own_c p1)), .second, .unset, .unset, .unset, .unset, .unset, .unset, .unset, .unset, .unset, .unset, .unset, .unset, .unset, .unset]) rfl kst) ?_
    refine oS (u' := T40.setTop (mkF m 37 #[.val (.int p1), .val (.int p2), .val (.int p3), .val (.int p4), .val (.int p5), .val (.int p6), .val (.ref b37), .val (.double (FP.i2d p2)), .second, .val (.double (own_c p1)), .second, .unset, .unset, .unset, .unset, .unset, .unset, .unset, .unset, .unset, .unset, .unset, .unset, .unset, .unset] [(.int p3)])) (fun _ kst => XS.iloadN X40.here hx rfl (hb hby at_36) rfl kst) ?_
    refine oS (u' := T40.setTop (mkF m 39 #[.val (.int p1), .val (.int p2), .val (.int p3), .val (.int p4), .val (.int p5), .val (.int p6), .val (.ref b37), .val (.double (FP.i2d p2)), .second, .val (.double (own_c p1)), .second, .unset, .unset, .unset, .unset, .unset, .unset, .unset, .unset, .unset, .unset, .unset, .unset, .unset, .unset] [(.int (31 : Int32)), (.int p3)])) (fun _ kst => XS.bipush X40.here hx rfl (hb hby at_37) kst) ?_
    refine oS (u' := T40.setTop (mkF m 40 #[.val (.int p1), .val (.int p2), .val (.int p3), .val (.int p4), .val (.int p5), .val (.int p6), .val (.ref b37), .val (.double (FP.i2d p2)), .second, .val (.double (own_c p1)), .second, .unset, .unset, .unset, .unset, .unset, .unset, .unset, .unset, .unset, .unset, .unset, .unset, .unset, .unset] [(.int (p3 &&& (31 : Int32)))])) (fun _ kst => XS.iand X40.here hx rfl (hb hby at_39) rfl kst) ?_
    refine oS (u' := T40.setTop (mkF m 42 #[.val (.int p1), .val (.int p2), .val (.int p3), .val (.int p4), .val (.int p5), .val (.int p6), .val (.ref b37), .val (.double (FP.i2d p2)), .second, .val (.double (own_c p1)), .second, .unset, .unset, .unset, .unset, .unset, .unset, .unset, .unset, .unset, .unset, .unset, .unset, .unset, .unset] [(.int (16 : Int32)), (.int (p3 &&& (31 : Int32)))])) (fun _ kst => XS.bipush X40.here hx rfl (hb hby at_40) kst) ?_
    obtain ⟨T41, X41, e41, st41⟩ := own_callSP X40 hx hZ (y := (⟨"java/lang/Math", "min", "(II)I"⟩ : MethodName)) hown (hw _ (List.mem_of_getElem? (i := 35) rfl)) (hw _ (List.mem_of_getElem? (i := 36) rfl)) (hw _ (List.mem_of_getElem? (i := 38) rfl)) (hw _ (List.mem_of_getElem? (i := 37) rfl)) (by decide) e40 (W := 0) (own_rm_min l Z a0 hw (p3 &&& (31 : Int32)) (16 : Int32) h37 ) (by decide) (by decide) (g := (mkF m 42 #[.val (.int p1), .val (.int p2), .val (.int p3), .val (.int p4), .val (.int p5), .val (.int p6), .val (.ref b37), .val (.double (FP.i2d p2)), .second, .val (.double (own_c p1)), .second, .unset, .unset, .unset, .unset, .unset, .unset, .unset, .unset, .unset, .unset, .unset, .unset, .unset, .unset] [(.int (16 : Int32)), (.int (p3 &&& (31 : Int32)))])) rfl (by rw [hml]; rfl) (argsL := [(.int (p3 &&& (31 : Int32))), (.int (16 : Int32))]) (rest := []) (lenOf own_pd1 rfl) rfl (by show 2 * 0 + _ ≤ _; exact Nat.le_of_eq rfl) (hb hby at_42) (by decide) (by decide)
    refine oS (u' := T41.setTop (mkF m 45 #[.val (.int p1), .val (.int p2), .val (.int p3), .val (.int p4), .val (.int p5), .val (.int p6), .val (.ref b37), .val (.double (FP.i2d p2)), .second, .val (.double (own_c p1)), .second, .unset, .unset, .unset, .unset, .unset, .unset, .unset, .unset, .unset, .unset, .unset, .unset, .unset, .unset] [(.int (own_k p3))])) st41 ?_
    refine oS (u' := T41.setTop (mkF m 46 #[.val (.int p1), .val (.int p2), .val (.int p3), .val (.int p4), .val (.int p5), .val (.int p6), .val (.ref b37), .val (.double (FP.i2d p2)), .second, .val (.double (own_c p1)), .second, .unset, .unset, .unset, .unset, .unset, .unset, .unset, .unset, .unset, .unset, .unset, .unset, .unset, .unset] [(.double (FP.i2d (own_k p3)))])) (fun _ kst => XS.i2dS X41.here hx rfl (hb hby at_45) rfl rfl kst) ?_
    refine oS (u' := T41.setTop (mkF m 49 #[.val (.int p1), .val (.int p2), .val (.int p3), .val (.int p4), .val (.int p5), .val (.int p6), .val (.ref b37), .val (.double (FP.i2d p2)), .second, .val (.double (own_c p1)), .second, .unset, .unset, .unset, .unset, .unset, .unset, .unset, .unset, .unset, .unset, .unset, .unset, .unset, .unset] [(.double (4625196817309499392 : UInt64)), (.double (FP.i2d (own_k p3)))])) (fun _ kst => X41.ldc2DoubleC hx hown (mvT hZ (hw _ (List.mem_of_getElem? (i := 10) rfl))) (g := (mkF m 46 #[.val (.int p1), .val (.int p2), .val (.int p3), .val (.int p4), .val (.int p5), .val (.int p6), .val (.ref b37), .val (.double (FP.i2d p2)), .second, .val (.double (own_c p1)), .second, .unset, .unset, .unset, .unset, .unset, .unset, .unset, .unset, .unset, .unset, .unset, .unset, .unset, .unset] [(.double (FP.i2d (own_k p3)))])) rfl (hb hby at_46) _ kst) ?_
    refine oS (u' := T41.setTop (mkF m 50 #[.val (.int p1), .val (.int p2), .val (.int p3), .val (.int p4), .val (.int p5), .val (.int p6), .val (.ref b37), .val (.double (FP.i2d p2)), .second, .val (.double (own_c p1)), .second, .unset, .unset, .unset, .unset, .unset, .unset, .unset, .unset, .unset, .unset, .unset, .unset, .unset, .unset] [(.double (own_c p3))])) (fun _ kst => XS.ddivS X41.here hx rfl (hb hby at_49) rfl (own_V_no (own_c_V p3)) rfl kst) ?_
    refine oS (u' := T41.setTop (mkF m 52 #[.val (.int p1), .val (.int p2), .val (.int p3), .val (.int p4), .val (.int p5), .val (.int p6), .val (.ref b37), .val (.double (FP.i2d p2)), .second, .val (.double (own_c p1)), .second, .val (.double (own_c p3)), .second, .unset, .unset, .unset, .unset, .unset, .unset, .unset, .unset, .unset, .unset, .unset, .unset] [])) (fun _ kst => XS.dstore X41.here hx rfl (hb hby at_50) rfl (l' := #[.val (.int p1), .val (.int p2), .val (.int p3), .val (.int p4), .val (.int p5), .val (.int p6), .val (.ref b37), .val (.double (FP.i2d p2)), .second, .val (.double (own_c p1)), .second, .val (.double (own_c p3)), .second, .unset, .unset, .unset, .unset, .unset, .unset, .unset, .unset, .unset, .unset, .unset, .unset]) rfl kst) ?_
    refine oS (u' := T41.setTop (mkF m 53 #[.val (.int p1), .val (.int p2), .val (.int p3), .val (.int p4), .val (.int p5), .val (.int p6), .val (.ref b37), .val (.double (FP.i2d p2)), .second, .val (.double (own_c p1)), .second, .val (.double (own_c p3)), .second, .unset, .unset, .unset, .unset, .unset, .unset, .unset, .unset, .unset, .unset, .unset, .unset] [(.int p4)])) (fun _ kst => XS.iloadN X41.here hx rfl (hb hby at_52) rfl kst) ?_
    refine oS (u' := T41.setTop (mkF m 55 #[.val (.int p1), .val (.int p2), .val (.int p3), .val (.int p4), .val (.int p5), .val (.int p6), .val (.ref b37), .val (.double (FP.i2d p2)), .second, .val (.double (own_c p1)), .second, .val (.double (own_c p3)), .second, .unset, .unset, .unset, .unset, .unset, .unset, .unset, .unset, .unset, .unset, .unset, .unset] [(.int (31 : Int32)), (.int p4)])) (fun _ kst => XS.bipush X41.here hx rfl (hb hby at_53) kst) ?_
    refine oS (u' := T41.setTop (mkF m 56 #[.val (.int p1), .val (.int p2), .val (.int p3), .val (.int p4), .val (.int p5), .val (.int p6), .val (.ref b37), .val (.double (FP.i2d p2)), .second, .val (.double (own_c p1)), .second, .val (.double (own_c p3)), .second, .unset, .unset, .unset, .unset, .unset, .unset, .unset, .unset, .unset, .unset, .unset, .unset] [(.int (p4 &&& (31 : Int32)))])) (fun _ kst => XS.iand X41.here hx rfl (hb hby at_55) rfl kst) ?_
    refine oS (u' := T41.setTop (mkF m 58 #[.val (.int p1), .val (.int p2), .val (.int p3), .val (.int p4), .val (.int p5), .val (.int p6), .val (.ref b37), .val (.double (FP.i2d p2)), .second, .val (.double (own_c p1)), .second, .val (.double (own_c p3)), .second, .unset, .unset, .unset, .unset, .unset, .unset, .unset, .unset, .unset, .unset, .unset, .unset] [(.int (16 : Int32)), (.int (p4 &&& (31 : Int32)))])) (fun _ kst => XS.bipush X41.here hx rfl (hb hby at_56) kst) ?_
    obtain ⟨T42, X42, e42, st42⟩ := own_callSP X41 hx hZ (y := (⟨"java/lang/Math", "min", "(II)I"⟩ : MethodName)) hown (hw _ (List.mem_of_getElem? (i := 35) rfl)) (hw _ (List.mem_of_getElem? (i := 36) rfl)) (hw _ (List.mem_of_getElem? (i := 38) rfl)) (hw _ (List.mem_of_getElem? (i := 37) rfl)) (by decide) e41 (W := 0) (own_rm_min l Z a0 hw (p4 &&& (31 : Int32)) (16 : Int32) h37 ) (by decide) (by decide) (g := (mkF m 58 #[.val (.int p1), .val (.int p2), .val (.int p3), .val (.int p4), .val (.int p5), .val (.int p6), .val (.ref b37), .val (.double (FP.i2d p2)), .second, .val (.double (own_c p1)), .second, .val (.double (own_c p3)), .second, .unset, .unset, .unset, .unset, .unset, .unset, .unset, .unset, .unset, .unset, .unset, .unset] [(.int (16 : Int32)), (.int (p4 &&& (31 : Int32)))])) rfl (by rw [hml]; rfl) (argsL := [(.int (p4 &&& (31 : Int32))), (.int (16 : Int32))]) (rest := []) (lenOf own_pd1 rfl) rfl (by show 2 * 0 + _ ≤ _; exact Nat.le_of_eq rfl) (hb hby at_58) (by decide) (by decide)
    refine oS (u' := T42.setTop (mkF m 61 #[.val (.int p1), .val (.int p2), .val (.int p3), .val (.int p4), .val (.int p5), .val (.int p6), .val (.ref b37), .val (.double (FP.i2d p2)), .second, .val (.double (own_c p1)), .second, .val (.double (own_c p3)), .second, .unset, .unset, .unset, .unset, .unset, .unset, .unset, .unset, .unset, .unset, .unset, .unset] [(.int (own_k p4))])) st42 ?_
    refine oS (u' := T42.setTop (mkF m 62 #[.val (.int p1), .val (.int p2), .val (.int p3), .val (.int p4), .val (.int p5), .val (.int p6), .val (.ref b37), .val (.double (FP.i2d p2)), .second, .val (.double (own_c p1)), .second, .val (.double (own_c p3)), .second, .unset, .unset, .unset, .unset, .unset, .unset, .unset, .unset, .unset, .unset, .unset, .unset] [(.double (FP.i2d (own_k p4)))])) (fun _ kst => XS.i2dS X42.here hx rfl (hb hby at_61) rfl rfl kst) ?_
    refine oS (u' := T42.setTop (mkF m 65 #[.val (.int p1), .val (.int p2), .val (.int p3), .val (.int p4), .val (.int p5), .val (.int p6), .val (.ref b37), .val (.double (FP.i2d p2)), .second, .val (.double (own_c p1)), .second, .val (.double (own_c p3)), .second, .unset, .unset, .unset, .unset, .unset, .unset, .unset, .unset, .unset, .unset, .unset, .unset] [(.double (4625196817309499392 : UInt64)), (.double (FP.i2d (own_k p4)))])) (fun _ kst => X42.ldc2DoubleC hx hown (mvT hZ (hw _ (List.mem_of_getElem? (i := 10) rfl))) (g := (mkF m 62 #[.val (.int p1), .val (.int p2), .val (.int p3), .val (.int p4), .val (.int p5), .val (.int p6), .val (.ref b37), .val (.double (FP.i2d p2)), .second, .val (.double (own_c p1)), .second, .val (.double (own_c p3)), .second, .unset, .unset, .unset, .unset, .unset, .unset, .unset, .unset, .unset, .unset, .unset, .unset] [(.double (FP.i2d (own_k p4)))])) rfl (hb hby at_62) _ kst) ?_
    refine oS (u' := T42.setTop (mkF m 66 #[.val (.int p1), .val (.int p2), .val (.int p3), .val (.int p4), .val (.int p5), .val (.int p6), .val (.ref b37), .val (.double (FP.i2d p2)), .second, .val (.double (own_c p1)), .second, .val (.double (own_c p3)), .second, .unset, .unset, .unset, .unset, .unset, .unset, .unset, .unset, .unset, .unset, .unset, .unset] [(.double (own_c p4))])) (fun _ kst => XS.ddivS X42.here hx rfl (hb hby at_65) rfl (own_V_no (own_c_V p4)) rfl kst) ?_
    refine oS (u' := T42.setTop (mkF m 68 #[.val (.int p1), .val (.int p2), .val (.int p3), .val (.int p4), .val (.int p5), .val (.int p6), .val (.ref b37), .val (.double (FP.i2d p2)), .second, .val (.double (own_c p1)), .second, .val (.double (own_c p3)), .second, .val (.double (own_c p4)), .second, .unset, .unset, .unset, .unset, .unset, .unset, .unset, .unset, .unset, .unset] [])) (fun _ kst => XS.dstore X42.here hx rfl (hb hby at_66) rfl (l' := #[.val (.int p1), .val (.int p2), .val (.int p3), .val (.int p4), .val (.int p5), .val (.int p6), .val (.ref b37), .val (.double (FP.i2d p2)), .second, .val (.double (own_c p1)), .second, .val (.double (own_c p3)), .second, .val (.double (own_c p4)), .second, .unset, .unset, .unset, .unset, .unset, .unset, .unset, .unset, .unset, .unset]) rfl kst) ?_
    refine oS (u' := T42.setTop (mkF m 70 #[.val (.int p1), .val (.int p2), .val (.int p3), .val (.int p4), .val (.int p5), .val (.int p6), .val (.ref b37), .val (.double (FP.i2d p2)), .second, .val (.double (own_c p1)), .second, .val (.double (own_c p3)), .second, .val (.double (own_c p4)), .second, .unset, .unset, .unset, .unset, .unset, .unset, .unset, .unset, .unset, .unset] [(.int p5)])) (fun _ kst => XS.iload X42.here hx rfl (hb hby at_68) rfl kst) ?_
    refine oS (u' := T42.setTop (mkF m 72 #[.val (.int p1), .val (.int p2), .val (.int p3), .val (.int p4), .val (.int p5), .val (.int p6), .val (.ref b37), .val (.double (FP.i2d p2)), .second, .val (.double (own_c p1)), .second, .val (.double (own_c p3)), .second, .val (.double (own_c p4)), .second, .unset, .unset, .unset, .unset, .unset, .unset, .unset, .unset, .unset, .unset] [(.int (7 : Int32)), (.int p5)])) (fun _ kst => XS.bipush X42.here hx rfl (hb hby at_70) kst) ?_
    refine oS (u' := T42.setTop (mkF m 73 #[.val (.int p1), .val (.int p2), .val (.int p3), .val (.int p4), .val (.int p5), .val (.int p6), .val (.ref b37), .val (.double (FP.i2d p2)), .second, .val (.double (own_c p1)), .second, .val (.double (own_c p3)), .second, .val (.double (own_c p4)), .second, .unset, .unset, .unset, .unset, .unset, .unset, .unset, .unset, .unset, .unset] [(.int (p5 &&& (7 : Int32)))])) (fun _ kst => XS.iand X42.here hx rfl (hb hby at_72) rfl kst) ?_
    refine oS (u' := T42.setTop (mkF m 74 #[.val (.int p1), .val (.int p2), .val (.int p3), .val (.int p4), .val (.int p5), .val (.int p6), .val (.ref b37), .val (.double (FP.i2d p2)), .second, .val (.double (own_c p1)), .second, .val (.double (own_c p3)), .second, .val (.double (own_c p4)), .second, .unset, .unset, .unset, .unset, .unset, .unset, .unset, .unset, .unset, .unset] [(.double (FP.i2d (p5 &&& (7 : Int32))))])) (fun _ kst => XS.i2dS X42.here hx rfl (hb hby at_73) rfl rfl kst) ?_
    refine oS (u' := T42.setTop (mkF m 76 #[.val (.int p1), .val (.int p2), .val (.int p3), .val (.int p4), .val (.int p5), .val (.int p6), .val (.ref b37), .val (.double (FP.i2d p2)), .second, .val (.double (own_c p1)), .second, .val (.double (own_c p3)), .second, .val (.double (own_c p4)), .second, .val (.double (FP.i2d (p5 &&& (7 : Int32)))), .second, .unset, .unset, .unset, .unset, .unset, .unset, .unset, .unset] [])) (fun _ kst => XS.dstore X42.here hx rfl (hb hby at_74) rfl (l' := #[.val (.int p1), .val (.int p2), .val (.int p3), .val (.int p4), .val (.int p5), .val (.int p6), .val (.ref b37), .val (.double (FP.i2d p2)), .second, .val (.double (own_c p1)), .second, .val (.double (own_c p3)), .second, .val (.double (own_c p4)), .second, .val (.double (FP.i2d (p5 &&& (7 : Int32)))), .second, .unset, .unset, .unset, .unset, .unset, .unset, .unset, .unset]) rfl kst) ?_
    refine oS (u' := T42.setTop (mkF m 78 #[.val (.int p1), .val (.int p2), .val (.int p3), .val (.int p4), .val (.int p5), .val (.int p6), .val (.ref b37), .val (.double (FP.i2d p2)), .second, .val (.double (own_c p1)), .second, .val (.double (own_c p3)), .second, .val (.double (own_c p4)), .second, .val (.double (FP.i2d (p5 &&& (7 : Int32)))), .second, .unset, .unset, .unset, .unset, .unset, .unset, .unset, .unset] [(.ref b37)])) (fun _ kst => XS.aload X42.here hx rfl (hb hby at_76) rfl rfl kst) ?_
    refine oS (u' := T42.setTop (mkF m 80 #[.val (.int p1), .val (.int p2), .val (.int p3), .val (.int p4), .val (.int p5), .val (.int p6), .val (.ref b37), .val (.double (FP.i2d p2)), .second, .val (.double (own_c p1)), .second, .val (.double (own_c p3)), .second, .val (.double (own_c p4)), .second, .val (.double (FP.i2d (p5 &&& (7 : Int32)))), .second, .unset, .unset, .unset, .unset, .unset, .unset, .unset, .unset] [(.double (own_c p1)), (.ref b37)])) (fun _ kst => XS.dload X42.here hx rfl (hb hby at_78) rfl kst) ?_
    refine oS (u' := T42.setTop (mkF m 82 #[.val (.int p1), .val (.int p2), .val (.int p3), .val (.int p4), .val (.int p5), .val (.int p6), .val (.ref b37), .val (.double (FP.i2d p2)), .second, .val (.double (own_c p1)), .second, .val (.double (own_c p3)), .second, .val (.double (own_c p4)), .second, .val (.double (FP.i2d (p5 &&& (7 : Int32)))), .second, .unset, .unset, .unset, .unset, .unset, .unset, .unset, .unset] [(.double (FP.i2d p2)), (.double (own_c p1)), (.ref b37)])) (fun _ kst => XS.dload X42.here hx rfl (hb hby at_80) rfl kst) ?_
    obtain ⟨v43, T43, L43, X43, hQ43, st43⟩ := own_callV X42 hx hZ (y := (⟨"com/example/waxwing/waxwing/policy/ThroughputLine", "add", "(DD)V"⟩ : MethodName)) (z := (⟨"com/example/waxwing/waxwing/policy/ThroughputLine", "add", "(DD)V"⟩ : MethodName)) hown (hw _ (List.mem_of_getElem? (i := 12) rfl)) (hw _ (List.mem_of_getElem? (i := 13) rfl)) (notFace_of_selects (args := #[]) (mvT hZ (hw _ (List.mem_of_getElem? (i := 15) rfl)))) (hw _ (List.mem_of_getElem? (i := 15) rfl)) (hw _ (List.mem_of_getElem? (i := 14) rfl)) (by decide) e42 A37 (W := 0) (own_rm_tladd l Z a0 hw b37 (own_c p1) (FP.i2d p2) (0 : Int64) (0 : UInt64) (0 : UInt64) (0 : UInt64) (0 : UInt64) (0 : Int32) h37 n0 Z37 A37 f37_F_samples f37_F_meanCpu f37_F_meanThroughput f37_F_throughputSquares f37_F_products f37_F_busy gb_b37 (own_a1 p1 p2).1 (Or.inl rfl)) (hw _ (List.mem_of_getElem? (i := 16) rfl)) (hw _ (List.mem_of_getElem? (i := 2) rfl)) (by decide) (by decide) (g := (mkF m 82 #[.val (.int p1), .val (.int p2), .val (.int p3), .val (.int p4), .val (.int p5), .val (.int p6), .val (.ref b37), .val (.double (FP.i2d p2)), .second, .val (.double (own_c p1)), .second, .val (.double (own_c p3)), .second, .val (.double (own_c p4)), .second, .val (.double (FP.i2d (p5 &&& (7 : Int32)))), .second, .unset, .unset, .unset, .unset, .unset, .unset, .unset, .unset] [(.double (FP.i2d p2)), (.double (own_c p1)), (.ref b37)])) rfl (by rw [hml]; rfl) (b := b37) (argsL := [(.double (own_c p1)), (.double (FP.i2d p2))]) (rest := []) (lenOf own_pd2 rfl) rfl (by show 2 * 0 + _ ≤ _; exact Nat.le_of_eq rfl) (hb hby at_82) (by decide) (by decide)
    obtain ⟨rfl, Nq43, Kq43, q43_0, q43_1, q43_2, q43_3, q43_4, q43_5⟩ := hQ43
    have f43_E_b37 := A37.keep Kq43
    have Z43 := Nat.le_trans Z37 Kq43.1
    have N43 := Fr.app N0 Nq43
    refine oS (u' := T43.setTop (mkF m 85 #[.val (.int p1), .val (.int p2), .val (.int p3), .val (.int p4), .val (.int p5), .val (.int p6), .val (.ref b37), .val (.double (FP.i2d p2)), .second, .val (.double (own_c p1)), .second, .val (.double (own_c p3)), .second, .val (.double (own_c p4)), .second, .val (.double (FP.i2d (p5 &&& (7 : Int32)))), .second, .unset, .unset, .unset, .unset, .unset, .unset, .unset, .unset] [])) st43 ?_
    refine oS (u' := T43.setTop (mkF m 87 #[.val (.int p1), .val (.int p2), .val (.int p3), .val (.int p4), .val (.int p5), .val (.int p6), .val (.ref b37), .val (.double (FP.i2d p2)), .second, .val (.double (own_c p1)), .second, .val (.double (own_c p3)), .second, .val (.double (own_c p4)), .second, .val (.double (FP.i2d (p5 &&& (7 : Int32)))), .second, .unset, .unset, .unset, .unset, .unset, .unset, .unset, .unset] [(.double (own_c p1))])) (fun _ kst => XS.dload X43.here hx rfl (hb hby at_85) rfl kst) ?_
    refine oS (u' := T43.setTop (mkF m 89 #[.val (.int p1), .val (.int p2), .val (.int p3), .val (.int p4), .val (.int p5), .val (.int p6), .val (.ref b37), .val (.double (FP.i2d p2)), .second, .val (.double (own_c p1)), .second, .val (.double (own_c p3)), .second, .val (.double (own_c p4)), .second, .val (.double (FP.i2d (p5 &&& (7 : Int32)))), .second, .val (.double (own_c p1)), .second, .unset, .unset, .unset, .unset, .unset, .unset] [])) (fun _ kst => XS.dstore X43.here hx rfl (hb hby at_87) rfl (l' := #[.val (.int p1), .val (.int p2), .val (.int p3), .val (.int p4), .val (.int p5), .val (.int p6), .val (.ref b37), .val (.double (FP.i2d p2)), .second, .val (.double (own_c p1)), .second, .val (.double (own_c p3)), .second, .val (.double (own_c p4)), .second, .val (.double (FP.i2d (p5 &&& (7 : Int32)))), .second, .val (.double (own_c p1)), .second, .unset, .unset, .unset, .unset, .unset, .unset]) rfl kst) ?_
    refine oS (u' := T43.setTop (mkF m 91 #[.val (.int p1), .val (.int p2), .val (.int p3), .val (.int p4), .val (.int p5), .val (.int p6), .val (.ref b37), .val (.double (FP.i2d p2)), .second, .val (.double (own_c p1)), .second, .val (.double (own_c p3)), .second, .val (.double (own_c p4)), .second, .val (.double (FP.i2d (p5 &&& (7 : Int32)))), .second, .val (.double (own_c p1)), .second, .unset, .unset, .unset, .unset, .unset, .unset] [(.int p6)])) (fun _ kst => XS.iload X43.here hx rfl (hb hby at_89) rfl kst) ?_
    refine oS (u' := T43.setTop (mkF m 92 #[.val (.int p1), .val (.int p2), .val (.int p3), .val (.int p4), .val (.int p5), .val (.int p6), .val (.ref b37), .val (.double (FP.i2d p2)), .second, .val (.double (own_c p1)), .second, .val (.double (own_c p3)), .second, .val (.double (own_c p4)), .second, .val (.double (FP.i2d (p5 &&& (7 : Int32)))), .second, .val (.double (own_c p1)), .second, .unset, .unset, .unset, .unset, .unset, .unset] [(.int (2 : Int32)), (.int p6)])) (fun _ kst => XS.iconst X43.here hx rfl (hb hby at_91) kst) ?_
    refine oS (u' := T43.setTop (mkF m 93 #[.val (.int p1), .val (.int p2), .val (.int p3), .val (.int p4), .val (.int p5), .val (.int p6), .val (.ref b37), .val (.double (FP.i2d p2)), .second, .val (.double (own_c p1)), .second, .val (.double (own_c p3)), .second, .val (.double (own_c p4)), .second, .val (.double (FP.i2d (p5 &&& (7 : Int32)))), .second, .val (.double (own_c p1)), .second, .unset, .unset, .unset, .unset, .unset, .unset] [(.int (p6 &&& (2 : Int32)))])) (fun _ kst => XS.iand X43.here hx rfl (hb hby at_92) rfl kst) ?_
    by_cases hc44 : (p6 &&& (2 : Int32)) = (0 : Int32)
    · refine oS (u' := T43.setTop (mkF m 116 #[.val (.int p1), .val (.int p2), .val (.int p3), .val (.int p4), .val (.int p5), .val (.int p6), .val (.ref b37), .val (.double (FP.i2d p2)), .second, .val (.double (own_c p1)), .second, .val (.double (own_c p3)), .second, .val (.double (own_c p4)), .second, .val (.double (FP.i2d (p5 &&& (7 : Int32)))), .second, .val (.double (own_c p1)), .second, .unset, .unset, .unset, .unset, .unset, .unset] [])) (fun _ kst => XS.ifYes X43.here hx rfl (pc0 := 93) (pc' := 116) rfl (hb hby at_93) rfl ((if0 _ _).trans (teq hc44).1) (by decide) (by decide) kst) ?_
      refine oS (u' := T43.setTop (mkF m 118 #[.val (.int p1), .val (.int p2), .val (.int p3), .val (.int p4), .val (.int p5), .val (.int p6), .val (.ref b37), .val (.double (FP.i2d p2)), .second, .val (.double (own_c p1)), .second, .val (.double (own_c p3)), .second, .val (.double (own_c p4)), .second, .val (.double (FP.i2d (p5 &&& (7 : Int32)))), .second, .val (.double (own_c p1)), .second, .unset, .unset, .unset, .unset, .unset, .unset] [(.double (own_c p1))])) (fun _ kst => XS.dload X43.here hx rfl (hb hby at_116) rfl kst) ?_
      refine oS (u' := T43.setTop (mkF m 119 #[.val (.int p1), .val (.int p2), .val (.int p3), .val (.int p4), .val (.int p5), .val (.int p6), .val (.ref b37), .val (.double (FP.i2d p2)), .second, .val (.double (own_c p1)), .second, .val (.double (own_c p3)), .second, .val (.double (own_c p4)), .second, .val (.double (FP.i2d (p5 &&& (7 : Int32)))), .second, .val (.double (own_c p1)), .second, .unset, .unset, .unset, .unset, .unset, .unset] [(.double FP.dconst0), (.double (own_c p1))])) (fun _ kst => XS.dconst0 X43.here hx rfl (hb hby at_118) rfl kst) ?_
      refine oS (u' := T43.setTop (mkF m 120 #[.val (.int p1), .val (.int p2), .val (.int p3), .val (.int p4), .val (.int p5), .val (.int p6), .val (.ref b37), .val (.double (FP.i2d p2)), .second, .val (.double (own_c p1)), .second, .val (.double (own_c p3)), .second, .val (.double (own_c p4)), .second, .val (.double (FP.i2d (p5 &&& (7 : Int32)))), .second, .val (.double (own_c p1)), .second, .unset, .unset, .unset, .unset, .unset, .unset] [(.int (own_ci ((own_k p1).toInt * 2) 0))])) (fun _ kst => XS.dcmpS X43.here hx rfl (hb hby at_119) rfl (own_V_ci .l (own_c_V5 p1) (own_V_z own_V_d0)) kst) ?_
      by_cases hc45 : (0 : Int32) < (own_ci ((own_k p1).toInt * 2) 0)
      · refine oS (u' := T43.setTop (mkF m 123 #[.val (.int p1), .val (.int p2), .val (.int p3), .val (.int p4), .val (.int p5), .val (.int p6), .val (.ref b37), .val (.double (FP.i2d p2)), .second, .val (.double (own_c p1)), .second, .val (.double (own_c p3)), .second, .val (.double (own_c p4)), .second, .val (.double (FP.i2d (p5 &&& (7 : Int32)))), .second, .val (.double (own_c p1)), .second, .unset, .unset, .unset, .unset, .unset, .unset] [])) (fun _ kst => XS.ifNo X43.here hx rfl (hb hby at_120) rfl ((if0 _ _).trans (tlt hc45).2.2.2) kst) ?_
        refine oS (u' := T43.setTop (mkF m 125 #[.val (.int p1), .val (.int p2), .val (.int p3), .val (.int p4), .val (.int p5), .val (.int p6), .val (.ref b37), .val (.double (FP.i2d p2)), .second, .val (.double (own_c p1)), .second, .val (.double (own_c p3)), .second, .val (.double (own_c p4)), .second, .val (.double (FP.i2d (p5 &&& (7 : Int32)))), .second, .val (.double (own_c p1)), .second, .unset, .unset, .unset, .unset, .unset, .unset] [(.double (FP.i2d p2))])) (fun _ kst => XS.dload X43.here hx rfl (hb hby at_123) rfl kst) ?_
        refine oS (u' := T43.setTop (mkF m 127 #[.val (.int p1), .val (.int p2), .val (.int p3), .val (.int p4), .val (.int p5), .val (.int p6), .val (.ref b37), .val (.double (FP.i2d p2)), .second, .val (.double (own_c p1)), .second, .val (.double (own_c p3)), .second, .val (.double (own_c p4)), .second, .val (.double (FP.i2d (p5 &&& (7 : Int32)))), .second, .val (.double (own_c p1)), .second, .unset, .unset, .unset, .unset, .unset, .unset] [(.double (own_c p4)), (.double (FP.i2d p2))])) (fun _ kst => XS.dload X43.here hx rfl (hb hby at_125) rfl kst) ?_
        refine oS (u' := T43.setTop (mkF m 128 #[.val (.int p1), .val (.int p2), .val (.int p3), .val (.int p4), .val (.int p5), .val (.int p6), .val (.ref b37), .val (.double (FP.i2d p2)), .second, .val (.double (own_c p1)), .second, .val (.double (own_c p3)), .second, .val (.double (own_c p4)), .second, .val (.double (FP.i2d (p5 &&& (7 : Int32)))), .second, .val (.double (own_c p1)), .second, .unset, .unset, .unset, .unset, .unset, .unset] [(.double (FP.dmul (FP.i2d p2) (own_c p4)))])) (fun _ kst => XS.dmulS X43.here hx rfl (hb hby at_127) rfl ((own_f1 p1 p2 p4 (FP.i2d (p5 &&& (7 : Int32)))).2.1 (own_ci_pos.mp hc45)).1 rfl kst) ?_
        refine oS (u' := T43.setTop (mkF m 130 #[.val (.int p1), .val (.int p2), .val (.int p3), .val (.int p4), .val (.int p5), .val (.int p6), .val (.ref b37), .val (.double (FP.i2d p2)), .second, .val (.double (own_c p1)), .second, .val (.double (own_c p3)), .second, .val (.double (own_c p4)), .second, .val (.double (FP.i2d (p5 &&& (7 : Int32)))), .second, .val (.double (own_c p1)), .second, .unset, .unset, .unset, .unset, .unset, .unset] [(.double (own_c p1)), (.double (FP.dmul (FP.i2d p2) (own_c p4)))])) (fun _ kst => XS.dload X43.here hx rfl (hb hby at_128) rfl kst) ?_
        refine oS (u' := T43.setTop (mkF m 131 #[.val (.int p1), .val (.int p2), .val (.int p3), .val (.int p4), .val (.int p5), .val (.int p6), .val (.ref b37), .val (.double (FP.i2d p2)), .second, .val (.double (own_c p1)), .second, .val (.double (own_c p3)), .second, .val (.double (own_c p4)), .second, .val (.double (FP.i2d (p5 &&& (7 : Int32)))), .second, .val (.double (own_c p1)), .second, .unset, .unset, .unset, .unset, .unset, .unset] [(.double (FP.ddiv (FP.dmul (FP.i2d p2) (own_c p4)) (own_c p1)))])) (fun _ kst => XS.ddivS X43.here hx rfl (hb hby at_130) rfl ((own_f1 p1 p2 p4 (FP.i2d (p5 &&& (7 : Int32)))).2.1 (own_ci_pos.mp hc45)).2.1 rfl kst) ?_
        refine oS (u' := T43.setTop (mkF m 135 #[.val (.int p1), .val (.int p2), .val (.int p3), .val (.int p4), .val (.int p5), .val (.int p6), .val (.ref b37), .val (.double (FP.i2d p2)), .second, .val (.double (own_c p1)), .second, .val (.double (own_c p3)), .second, .val (.double (own_c p4)), .second, .val (.double (FP.i2d (p5 &&& (7 : Int32)))), .second, .val (.double (own_c p1)), .second, .unset, .unset, .unset, .unset, .unset, .unset] [(.double (FP.ddiv (FP.dmul (FP.i2d p2) (own_c p4)) (own_c p1)))])) (fun _ kst => XS.goto X43.here hx rfl (pc0 := 131) (pc' := 135) rfl (hb hby at_131) (by decide) (by decide) kst) ?_
        refine oS (u' := T43.setTop (mkF m 137 #[.val (.int p1), .val (.int p2), .val (.int p3), .val (.int p4), .val (.int p5), .val (.int p6), .val (.ref b37), .val (.double (FP.i2d p2)), .second, .val (.double (own_c p1)), .second, .val (.double (own_c p3)), .second, .val (.double (own_c p4)), .second, .val (.double (FP.i2d (p5 &&& (7 : Int32)))), .second, .val (.double (own_c p1)), .second, .val (.double (FP.ddiv (FP.dmul (FP.i2d p2) (own_c p4)) (own_c p1))), .second, .unset, .unset, .unset, .unset] [])) (fun _ kst => XS.dstore X43.here hx rfl (hb hby at_135) rfl (l' := #[.val (.int p1), .val (.int p2), .val (.int p3), .val (.int p4), .val (.int p5), .val (.int p6), .val (.ref b37), .val (.double (FP.i2d p2)), .second, .val (.double (own_c p1)), .second, .val (.double (own_c p3)), .second, .val (.double (own_c p4)), .second, .val (.double (FP.i2d (p5 &&& (7 : Int32)))), .second, .val (.double (own_c p1)), .second, .val (.double (FP.ddiv (FP.dmul (FP.i2d p2) (own_c p4)) (own_c p1))), .second, .unset, .unset, .unset, .unset]) rfl kst) ?_
        refine oS (u' := T43.setTop (mkF m 139 #[.val (.int p1), .val (.int p2), .val (.int p3), .val (.int p4), .val (.int p5), .val (.int p6), .val (.ref b37), .val (.double (FP.i2d p2)), .second, .val (.double (own_c p1)), .second, .val (.double (own_c p3)), .second, .val (.double (own_c p4)), .second, .val (.double (FP.i2d (p5 &&& (7 : Int32)))), .second, .val (.double (own_c p1)), .second, .val (.double (FP.ddiv (FP.dmul (FP.i2d p2) (own_c p4)) (own_c p1))), .second, .unset, .unset, .unset, .unset] [(.ref b37)])) (fun _ kst => XS.aload X43.here hx rfl (hb hby at_137) rfl rfl kst) ?_
        refine oS (u' := T43.setTop (mkF m 141 #[.val (.int p1), .val (.int p2), .val (.int p3), .val (.int p4), .val (.int p5), .val (.int p6), .val (.ref b37), .val (.double (FP.i2d p2)), .second, .val (.double (own_c p1)), .second, .val (.double (own_c p3)), .second, .val (.double (own_c p4)), .second, .val (.double (FP.i2d (p5 &&& (7 : Int32)))), .second, .val (.double (own_c p1)), .second, .val (.double (FP.ddiv (FP.dmul (FP.i2d p2) (own_c p4)) (own_c p1))), .second, .unset, .unset, .unset, .unset] [(.double (own_c p4)), (.ref b37)])) (fun _ kst => XS.dload X43.here hx rfl (hb hby at_139) rfl kst) ?_
        refine oS (u' := T43.setTop (mkF m 143 #[.val (.int p1), .val (.int p2), .val (.int p3), .val (.int p4), .val (.int p5), .val (.int p6), .val (.ref b37), .val (.double (FP.i2d p2)), .second, .val (.double (own_c p1)), .second, .val (.double (own_c p3)), .second, .val (.double (own_c p4)), .second, .val (.double (FP.i2d (p5 &&& (7 : Int32)))), .second, .val (.double (own_c p1)), .second, .val (.double (FP.ddiv (FP.dmul (FP.i2d p2) (own_c p4)) (own_c p1))), .second, .unset, .unset, .unset, .unset] [(.double (FP.i2d (p5 &&& (7 : Int32)))), (.double (own_c p4)), (.ref b37)])) (fun _ kst => XS.dload X43.here hx rfl (hb hby at_141) rfl kst) ?_
        obtain ⟨T46, X46, e46, st46⟩ := own_callVP X43 hx hZ (y := (⟨"com/example/waxwing/waxwing/policy/ThroughputLine", "throughputAt", "(DD)D"⟩ : MethodName)) (z := (⟨"com/example/waxwing/waxwing/policy/ThroughputLine", "throughputAt", "(DD)D"⟩ : MethodName)) hown (hw _ (List.mem_of_getElem? (i := 29) rfl)) (hw _ (List.mem_of_getElem? (i := 30) rfl)) (notFace_of_selects (args := #[]) (mvT hZ (hw _ (List.mem_of_getElem? (i := 32) rfl)))) (hw _ (List.mem_of_getElem? (i := 32) rfl)) (hw _ (List.mem_of_getElem? (i := 31) rfl)) (by decide) rfl f43_E_b37 (W := 0) (own_rm_at l Z a0 hw b37 (own_c p4) (FP.i2d (p5 &&& (7 : Int32))) (own_bz (own_c p1) (0 : Int32)) (own_mu (own_c p1) (0 : Int64) (0 : UInt64)) (own_mu (FP.i2d p2) (0 : Int64) (0 : UInt64)) (own_sd (FP.i2d p2) (0 : Int64) (0 : UInt64) (0 : UInt64)) (own_pr (own_c p1) (FP.i2d p2) (0 : Int64) (0 : UInt64) (0 : UInt64) (0 : UInt64)) T43.heap q43_5 q43_1 q43_2 q43_3 q43_4 (own_f1 p1 p2 p4 (FP.i2d (p5 &&& (7 : Int32)))).1) (hw _ (List.mem_of_getElem? (i := 33) rfl)) (hw _ (List.mem_of_getElem? (i := 2) rfl)) (by decide) (by decide) (g := (mkF m 143 #[.val (.int p1), .val (.int p2), .val (.int p3), .val (.int p4), .val (.int p5), .val (.int p6), .val (.ref b37), .val (.double (FP.i2d p2)), .second, .val (.double (own_c p1)), .second, .val (.double (own_c p3)), .second, .val (.double (own_c p4)), .second, .val (.double (FP.i2d (p5 &&& (7 : Int32)))), .second, .val (.double (own_c p1)), .second, .val (.double (FP.ddiv (FP.dmul (FP.i2d p2) (own_c p4)) (own_c p1))), .second, .unset, .unset, .unset, .unset] [(.double (FP.i2d (p5 &&& (7 : Int32)))), (.double (own_c p4)), (.ref b37)])) rfl (by rw [hml]; rfl) (b := b37) (argsL := [(.double (own_c p4)), (.double (FP.i2d (p5 &&& (7 : Int32))))]) (rest := []) (lenOf own_pd3 rfl) rfl (by show 2 * 0 + _ ≤ _; exact Nat.le_of_eq rfl) (hb hby at_143) (by decide) (by decide)
        refine oS (u' := T46.setTop (mkF m 146 #[.val (.int p1), .val (.int p2), .val (.int p3), .val (.int p4), .val (.int p5), .val (.int p6), .val (.ref b37), .val (.double (FP.i2d p2)), .second, .val (.double (own_c p1)), .second, .val (.double (own_c p3)), .second, .val (.double (own_c p4)), .second, .val (.double (FP.i2d (p5 &&& (7 : Int32)))), .second, .val (.double (own_c p1)), .second, .val (.double (FP.ddiv (FP.dmul (FP.i2d p2) (own_c p4)) (own_c p1))), .second, .unset, .unset, .unset, .unset] [(.double (own_at b37 (own_c p4) (FP.i2d (p5 &&& (7 : Int32))) (own_bz (own_c p1) (0 : Int32)) (own_mu (own_c p1) (0 : Int64) (0 : UInt64)) (own_mu (FP.i2d p2) (0 : Int64) (0 : UInt64)) (own_sd (FP.i2d p2) (0 : Int64) (0 : UInt64) (0 : UInt64)) (own_pr (own_c p1) (FP.i2d p2) (0 : Int64) (0 : UInt64) (0 : UInt64) (0 : UInt64))))])) st46 ?_
        refine oS (u' := T46.setTop (mkF m 148 #[.val (.int p1), .val (.int p2), .val (.int p3), .val (.int p4), .val (.int p5), .val (.int p6), .val (.ref b37), .val (.double (FP.i2d p2)), .second, .val (.double (own_c p1)), .second, .val (.double (own_c p3)), .second, .val (.double (own_c p4)), .second, .val (.double (FP.i2d (p5 &&& (7 : Int32)))), .second, .val (.double (own_c p1)), .second, .val (.double (FP.ddiv (FP.dmul (FP.i2d p2) (own_c p4)) (own_c p1))), .second, .unset, .unset, .unset, .unset] [(.double (FP.ddiv (FP.dmul (FP.i2d p2) (own_c p4)) (own_c p1))), (.double (own_at b37 (own_c p4) (FP.i2d (p5 &&& (7 : Int32))) (own_bz (own_c p1) (0 : Int32)) (own_mu (own_c p1) (0 : Int64) (0 : UInt64)) (own_mu (FP.i2d p2) (0 : Int64) (0 : UInt64)) (own_sd (FP.i2d p2) (0 : Int64) (0 : UInt64) (0 : UInt64)) (own_pr (own_c p1) (FP.i2d p2) (0 : Int64) (0 : UInt64) (0 : UInt64) (0 : UInt64))))])) (fun _ kst => XS.dload X46.here hx rfl (hb hby at_146) rfl kst) ?_
        refine oS (u' := T46.setTop (mkF m 149 #[.val (.int p1), .val (.int p2), .val (.int p3), .val (.int p4), .val (.int p5), .val (.int p6), .val (.ref b37), .val (.double (FP.i2d p2)), .second, .val (.double (own_c p1)), .second, .val (.double (own_c p3)), .second, .val (.double (own_c p4)), .second, .val (.double (FP.i2d (p5 &&& (7 : Int32)))), .second, .val (.double (own_c p1)), .second, .val (.double (FP.ddiv (FP.dmul (FP.i2d p2) (own_c p4)) (own_c p1))), .second, .unset, .unset, .unset, .unset] [(.int (0 : Int32))])) (fun _ kst => XS.dcmpS X46.here hx rfl (hb hby at_148) rfl (((own_f1 p1 p2 p4 (FP.i2d (p5 &&& (7 : Int32)))).2.1 (own_ci_pos.mp hc45)).2.2 _) kst) ?_
        refine oS (u' := T46.setTop (mkF m 152 #[.val (.int p1), .val (.int p2), .val (.int p3), .val (.int p4), .val (.int p5), .val (.int p6), .val (.ref b37), .val (.double (FP.i2d p2)), .second, .val (.double (own_c p1)), .second, .val (.double (own_c p3)), .second, .val (.double (own_c p4)), .second, .val (.double (FP.i2d (p5 &&& (7 : Int32)))), .second, .val (.double (own_c p1)), .second, .val (.double (FP.ddiv (FP.dmul (FP.i2d p2) (own_c p4)) (own_c p1))), .second, .unset, .unset, .unset, .unset] [])) (fun _ kst => XS.ifNo X46.here hx rfl (hb hby at_149) rfl ((if0 _ _).trans (teq rfl).2) kst) ?_
        refine oS (u' := T46.setTop (mkF m 153 #[.val (.int p1), .val (.int p2), .val (.int p3), .val (.int p4), .val (.int p5), .val (.int p6), .val (.ref b37), .val (.double (FP.i2d p2)), .second, .val (.double (own_c p1)), .second, .val (.double (own_c p3)), .second, .val (.double (own_c p4)), .second, .val (.double (FP.i2d (p5 &&& (7 : Int32)))), .second, .val (.double (own_c p1)), .second, .val (.double (FP.ddiv (FP.dmul (FP.i2d p2) (own_c p4)) (own_c p1))), .second, .unset, .unset, .unset, .unset] [(.int (1 : Int32))])) (fun _ kst => XS.iconst X46.here hx rfl (hb hby at_152) kst) ?_
        refine oS (u' := T46.setTop (mkF m 157 #[.val (.int p1), .val (.int p2), .val (.int p3), .val (.int p4), .val (.int p5), .val (.int p6), .val (.ref b37), .val (.double (FP.i2d p2)), .second, .val (.double (own_c p1)), .second, .val (.double (own_c p3)), .second, .val (.double (own_c p4)), .second, .val (.double (FP.i2d (p5 &&& (7 : Int32)))), .second, .val (.double (own_c p1)), .second, .val (.double (FP.ddiv (FP.dmul (FP.i2d p2) (own_c p4)) (own_c p1))), .second, .unset, .unset, .unset, .unset] [(.int (1 : Int32))])) (fun _ kst => XS.goto X46.here hx rfl (pc0 := 153) (pc' := 157) rfl (hb hby at_153) (by decide) (by decide) kst) ?_
        refine own_retN X46 hx hlk (t := .boolean) hret (by simp) (hb hby at_157) ?_ (by decide) (by decide)
        exact ⟨rfl, N43⟩
      · refine oS (u' := T43.setTop (mkF m 134 #[.val (.int p1), .val (.int p2), .val (.int p3), .val (.int p4), .val (.int p5), .val (.int p6), .val (.ref b37), .val (.double (FP.i2d p2)), .second, .val (.double (own_c p1)), .second, .val (.double (own_c p3)), .second, .val (.double (own_c p4)), .second, .val (.double (FP.i2d (p5 &&& (7 : Int32)))), .second, .val (.double (own_c p1)), .second, .unset, .unset, .unset, .unset, .unset, .unset] [])) (fun _ kst => XS.ifYes X43.here hx rfl (pc0 := 120) (pc' := 134) rfl (hb hby at_120) rfl ((if0 _ _).trans (flt hc45).2.2.2) (by decide) (by decide) kst) ?_
        refine oS (u' := T43.setTop (mkF m 135 #[.val (.int p1), .val (.int p2), .val (.int p3), .val (.int p4), .val (.int p5), .val (.int p6), .val (.ref b37), .val (.double (FP.i2d p2)), .second, .val (.double (own_c p1)), .second, .val (.double (own_c p3)), .second, .val (.double (own_c p4)), .second, .val (.double (FP.i2d (p5 &&& (7 : Int32)))), .second, .val (.double (own_c p1)), .second, .unset, .unset, .unset, .unset, .unset, .unset] [(.double FP.dconst0)])) (fun _ kst => XS.dconst0 X43.here hx rfl (hb hby at_134) rfl kst) ?_
        refine oS (u' := T43.setTop (mkF m 137 #[.val (.int p1), .val (.int p2), .val (.int p3), .val (.int p4), .val (.int p5), .val (.int p6), .val (.ref b37), .val (.double (FP.i2d p2)), .second, .val (.double (own_c p1)), .second, .val (.double (own_c p3)), .second, .val (.double (own_c p4)), .second, .val (.double (FP.i2d (p5 &&& (7 : Int32)))), .second, .val (.double (own_c p1)), .second, .val (.double FP.dconst0), .second, .unset, .unset, .unset, .unset] [])) (fun _ kst => XS.dstore X43.here hx rfl (hb hby at_135) rfl (l' := #[.val (.int p1), .val (.int p2), .val (.int p3), .val (.int p4), .val (.int p5), .val (.int p6), .val (.ref b37), .val (.double (FP.i2d p2)), .second, .val (.double (own_c p1)), .second, .val (.double (own_c p3)), .second, .val (.double (own_c p4)), .second, .val (.double (FP.i2d (p5 &&& (7 : Int32)))), .second, .val (.double (own_c p1)), .second, .val (.double FP.dconst0), .second, .unset, .unset, .unset, .unset]) rfl kst) ?_
        refine oS (u' := T43.setTop (mkF m 139 #[.val (.int p1), .val (.int p2), .val (.int p3), .val (.int p4), .val (.int p5), .val (.int p6), .val (.ref b37), .val (.double (FP.i2d p2)), .second, .val (.double (own_c p1)), .second, .val (.double (own_c p3)), .second, .val (.double (own_c p4)), .second, .val (.double (FP.i2d (p5 &&& (7 : Int32)))), .second, .val (.double (own_c p1)), .second, .val (.double FP.dconst0), .second, .unset, .unset, .unset, .unset] [(.ref b37)])) (fun _ kst => XS.aload X43.here hx rfl (hb hby at_137) rfl rfl kst) ?_
        refine oS (u' := T43.setTop (mkF m 141 #[.val (.int p1), .val (.int p2), .val (.int p3), .val (.int p4), .val (.int p5), .val (.int p6), .val (.ref b37), .val (.double (FP.i2d p2)), .second, .val (.double (own_c p1)), .second, .val (.double (own_c p3)), .second, .val (.double (own_c p4)), .second, .val (.double (FP.i2d (p5 &&& (7 : Int32)))), .second, .val (.double (own_c p1)), .second, .val (.double FP.dconst0), .second, .unset, .unset, .unset, .unset] [(.double (own_c p4)), (.ref b37)])) (fun _ kst => XS.dload X43.here hx rfl (hb hby at_139) rfl kst) ?_
        refine oS (u' := T43.setTop (mkF m 143 #[.val (.int p1), .val (.int p2), .val (.int p3), .val (.int p4), .val (.int p5), .val (.int p6), .val (.ref b37), .val (.double (FP.i2d p2)), .second, .val (.double (own_c p1)), .second, .val (.double (own_c p3)), .second, .val (.double (own_c p4)), .second, .val (.double (FP.i2d (p5 &&& (7 : Int32)))), .second, .val (.double (own_c p1)), .second, .val (.double FP.dconst0), .second, .unset, .unset, .unset, .unset] [(.double (FP.i2d (p5 &&& (7 : Int32)))), (.double (own_c p4)), (.ref b37)])) (fun _ kst => XS.dload X43.here hx rfl (hb hby at_141) rfl kst) ?_
        obtain ⟨T47, X47, e47, st47⟩ := own_callVP X43 hx hZ (y := (⟨"com/example/waxwing/waxwing/policy/ThroughputLine", "throughputAt", "(DD)D"⟩ : MethodName)) (z := (⟨"com/example/waxwing/waxwing/policy/ThroughputLine", "throughputAt", "(DD)D"⟩ : MethodName)) hown (hw _ (List.mem_of_getElem? (i := 29) rfl)) (hw _ (List.mem_of_getElem? (i := 30) rfl)) (notFace_of_selects (args := #[]) (mvT hZ (hw _ (List.mem_of_getElem? (i := 32) rfl)))) (hw _ (List.mem_of_getElem? (i := 32) rfl)) (hw _ (List.mem_of_getElem? (i := 31) rfl)) (by decide) rfl f43_E_b37 (W := 0) (own_rm_at l Z a0 hw b37 (own_c p4) (FP.i2d (p5 &&& (7 : Int32))) (own_bz (own_c p1) (0 : Int32)) (own_mu (own_c p1) (0 : Int64) (0 : UInt64)) (own_mu (FP.i2d p2) (0 : Int64) (0 : UInt64)) (own_sd (FP.i2d p2) (0 : Int64) (0 : UInt64) (0 : UInt64)) (own_pr (own_c p1) (FP.i2d p2) (0 : Int64) (0 : UInt64) (0 : UInt64) (0 : UInt64)) T43.heap q43_5 q43_1 q43_2 q43_3 q43_4 (own_f1 p1 p2 p4 (FP.i2d (p5 &&& (7 : Int32)))).1) (hw _ (List.mem_of_getElem? (i := 33) rfl)) (hw _ (List.mem_of_getElem? (i := 2) rfl)) (by decide) (by decide) (g := (mkF m 143 #[.val (.int p1), .val (.int p2), .val (.int p3), .val (.int p4), .val (.int p5), .val (.int p6), .val (.ref b37), .val (.double (FP.i2d p2)), .second, .val (.double (own_c p1)), .second, .val (.double (own_c p3)), .second, .val (.double (own_c p4)), .second, .val (.double (FP.i2d (p5 &&& (7 : Int32)))), .second, .val (.double (own_c p1)), .second, .val (.double FP.dconst0), .second, .unset, .unset, .unset, .unset] [(.double (FP.i2d (p5 &&& (7 : Int32)))), (.double (own_c p4)), (.ref b37)])) rfl (by rw [hml]; rfl) (b := b37) (argsL := [(.double (own_c p4)), (.double (FP.i2d (p5 &&& (7 : Int32))))]) (rest := []) (lenOf own_pd3 rfl) rfl (by show 2 * 0 + _ ≤ _; exact Nat.le_of_eq rfl) (hb hby at_143) (by decide) (by decide)
        refine oS (u' := T47.setTop (mkF m 146 #[.val (.int p1), .val (.int p2), .val (.int p3), .val (.int p4), .val (.int p5), .val (.int p6), .val (.ref b37), .val (.double (FP.i2d p2)), .second, .val (.double (own_c p1)), .second, .val (.double (own_c p3)), .second, .val (.double (own_c p4)), .second, .val (.double (FP.i2d (p5 &&& (7 : Int32)))), .second, .val (.double (own_c p1)), .second, .val (.double FP.dconst0), .second, .unset, .unset, .unset, .unset] [(.double (own_at b37 (own_c p4) (FP.i2d (p5 &&& (7 : Int32))) (own_bz (own_c p1) (0 : Int32)) (own_mu (own_c p1) (0 : Int64) (0 : UInt64)) (own_mu (FP.i2d p2) (0 : Int64) (0 : UInt64)) (own_sd (FP.i2d p2) (0 : Int64) (0 : UInt64) (0 : UInt64)) (own_pr (own_c p1) (FP.i2d p2) (0 : Int64) (0 : UInt64) (0 : UInt64) (0 : UInt64))))])) st47 ?_
        refine oS (u' := T47.setTop (mkF m 148 #[.val (.int p1), .val (.int p2), .val (.int p3), .val (.int p4), .val (.int p5), .val (.int p6), .val (.ref b37), .val (.double (FP.i2d p2)), .second, .val (.double (own_c p1)), .second, .val (.double (own_c p3)), .second, .val (.double (own_c p4)), .second, .val (.double (FP.i2d (p5 &&& (7 : Int32)))), .second, .val (.double (own_c p1)), .second, .val (.double FP.dconst0), .second, .unset, .unset, .unset, .unset] [(.double FP.dconst0), (.double (own_at b37 (own_c p4) (FP.i2d (p5 &&& (7 : Int32))) (own_bz (own_c p1) (0 : Int32)) (own_mu (own_c p1) (0 : Int64) (0 : UInt64)) (own_mu (FP.i2d p2) (0 : Int64) (0 : UInt64)) (own_sd (FP.i2d p2) (0 : Int64) (0 : UInt64) (0 : UInt64)) (own_pr (own_c p1) (FP.i2d p2) (0 : Int64) (0 : UInt64) (0 : UInt64) (0 : UInt64))))])) (fun _ kst => XS.dload X47.here hx rfl (hb hby at_146) rfl kst) ?_
        refine oS (u' := T47.setTop (mkF m 149 #[.val (.int p1), .val (.int p2), .val (.int p3), .val (.int p4), .val (.int p5), .val (.int p6), .val (.ref b37), .val (.double (FP.i2d p2)), .second, .val (.double (own_c p1)), .second, .val (.double (own_c p3)), .second, .val (.double (own_c p4)), .second, .val (.double (FP.i2d (p5 &&& (7 : Int32)))), .second, .val (.double (own_c p1)), .second, .val (.double FP.dconst0), .second, .unset, .unset, .unset, .unset] [(.int (0 : Int32))])) (fun _ kst => XS.dcmpS X47.here hx rfl (hb hby at_148) rfl ((own_f1 p1 p2 p4 (FP.i2d (p5 &&& (7 : Int32)))).2.2 (fun q => hc45 (own_ci_pos.mpr q)) _) kst) ?_
        refine oS (u' := T47.setTop (mkF m 152 #[.val (.int p1), .val (.int p2), .val (.int p3), .val (.int p4), .val (.int p5), .val (.int p6), .val (.ref b37), .val (.double (FP.i2d p2)), .second, .val (.double (own_c p1)), .second, .val (.double (own_c p3)), .second, .val (.double (own_c p4)), .second, .val (.double (FP.i2d (p5 &&& (7 : Int32)))), .second, .val (.double (own_c p1)), .second, .val (.double FP.dconst0), .second, .unset, .unset, .unset, .unset] [])) (fun _ kst => XS.ifNo X47.here hx rfl (hb hby at_149) rfl ((if0 _ _).trans (teq rfl).2) kst) ?_
        refine oS (u' := T47.setTop (mkF m 153 #[.val (.int p1), .val (.int p2), .val (.int p3), .val (.int p4), .val (.int p5), .val (.int p6), .val (.ref b37), .val (.double (FP.i2d p2)), .second, .val (.double (own_c p1)), .second, .val (.double (own_c p3)), .second, .val (.double (own_c p4)), .second, .val (.double (FP.i2d (p5 &&& (7 : Int32)))), .second, .val (.double (own_c p1)), .second, .val (.double FP.dconst0), .second, .unset, .unset, .unset, .unset] [(.int (1 : Int32))])) (fun _ kst => XS.iconst X47.here hx rfl (hb hby at_152) kst) ?_
        refine oS (u' := T47.setTop (mkF m 157 #[.val (.int p1), .val (.int p2), .val (.int p3), .val (.int p4), .val (.int p5), .val (.int p6), .val (.ref b37), .val (.double (FP.i2d p2)), .second, .val (.double (own_c p1)), .second, .val (.double (own_c p3)), .second, .val (.double (own_c p4)), .second, .val (.double (FP.i2d (p5 &&& (7 : Int32)))), .second, .val (.double (own_c p1)), .second, .val (.double FP.dconst0), .second, .unset, .unset, .unset, .unset] [(.int (1 : Int32))])) (fun _ kst => XS.goto X47.here hx rfl (pc0 := 153) (pc' := 157) rfl (hb hby at_153) (by decide) (by decide) kst) ?_
        refine own_retN X47 hx hlk (t := .boolean) hret (by simp) (hb hby at_157) ?_ (by decide) (by decide)
        exact ⟨rfl, N43⟩
    · refine oS (u' := T43.setTop (mkF m 96 #[.val (.int p1), .val (.int p2), .val (.int p3), .val (.int p4), .val (.int p5), .val (.int p6), .val (.ref b37), .val (.double (FP.i2d p2)), .second, .val (.double (own_c p1)), .second, .val (.double (own_c p3)), .second, .val (.double (own_c p4)), .second, .val (.double (FP.i2d (p5 &&& (7 : Int32)))), .second, .val (.double (own_c p1)), .second, .unset, .unset, .unset, .unset, .unset, .unset] [])) (fun _ kst => XS.ifNo X43.here hx rfl (hb hby at_93) rfl ((if0 _ _).trans (feq hc44).1) kst) ?_
      refine oS (u' := T43.setTop (mkF m 98 #[.val (.int p1), .val (.int p2), .val (.int p3), .val (.int p4), .val (.int p5), .val (.int p6), .val (.ref b37), .val (.double (FP.i2d p2)), .second, .val (.double (own_c p1)), .second, .val (.double (own_c p3)), .second, .val (.double (own_c p4)), .second, .val (.double (FP.i2d (p5 &&& (7 : Int32)))), .second, .val (.double (own_c p1)), .second, .unset, .unset, .unset, .unset, .unset, .unset] [(.ref b37)])) (fun _ kst => XS.aload X43.here hx rfl (hb hby at_96) rfl rfl kst) ?_
      refine oS (u' := T43.setTop (mkF m 100 #[.val (.int p1), .val (.int p2), .val (.int p3), .val (.int p4), .val (.int p5), .val (.int p6), .val (.ref b37), .val (.double (FP.i2d p2)), .second, .val (.double (own_c p1)), .second, .val (.double (own_c p3)), .second, .val (.double (own_c p4)), .second, .val (.double (FP.i2d (p5 &&& (7 : Int32)))), .second, .val (.double (own_c p1)), .second, .unset, .unset, .unset, .unset, .unset, .unset] [(.double (own_c p3)), (.ref b37)])) (fun _ kst => XS.dload X43.here hx rfl (hb hby at_98) rfl kst) ?_
      refine oS (u' := T43.setTop (mkF m 102 #[.val (.int p1), .val (.int p2), .val (.int p3), .val (.int p4), .val (.int p5), .val (.int p6), .val (.ref b37), .val (.double (FP.i2d p2)), .second, .val (.double (own_c p1)), .second, .val (.double (own_c p3)), .second, .val (.double (own_c p4)), .second, .val (.double (FP.i2d (p5 &&& (7 : Int32)))), .second, .val (.double (own_c p1)), .second, .unset, .unset, .unset, .unset, .unset, .unset] [(.double (FP.i2d p2)), (.double (own_c p3)), (.ref b37)])) (fun _ kst => XS.dload X43.here hx rfl (hb hby at_100) rfl kst) ?_
      obtain ⟨v48, T48, L48, X48, hQ48, st48⟩ := own_callV X43 hx hZ (y := (⟨"com/example/waxwing/waxwing/policy/ThroughputLine", "add", "(DD)V"⟩ : MethodName)) (z := (⟨"com/example/waxwing/waxwing/policy/ThroughputLine", "add", "(DD)V"⟩ : MethodName)) hown (hw _ (List.mem_of_getElem? (i := 12) rfl)) (hw _ (List.mem_of_getElem? (i := 13) rfl)) (notFace_of_selects (args := #[]) (mvT hZ (hw _ (List.mem_of_getElem? (i := 15) rfl)))) (hw _ (List.mem_of_getElem? (i := 15) rfl)) (hw _ (List.mem_of_getElem? (i := 14) rfl)) (by decide) rfl f43_E_b37 (W := 0) (own_rm_tladd l Z a0 hw b37 (own_c p3) (FP.i2d p2) ((0 : Int64) + (1 : Int64)) (own_mu (own_c p1) (0 : Int64) (0 : UInt64)) (own_mu (FP.i2d p2) (0 : Int64) (0 : UInt64)) (own_sd (FP.i2d p2) (0 : Int64) (0 : UInt64) (0 : UInt64)) (own_pr (own_c p1) (FP.i2d p2) (0 : Int64) (0 : UInt64) (0 : UInt64) (0 : UInt64)) (own_bz (own_c p1) (0 : Int32)) T43.heap n0 Z43 f43_E_b37 q43_0 q43_1 q43_2 q43_3 q43_4 q43_5 gb_b37 (own_a2 p1 p2 p3).1 (own_bz01 (Or.inl rfl))) (hw _ (List.mem_of_getElem? (i := 16) rfl)) (hw _ (List.mem_of_getElem? (i := 2) rfl)) (by decide) (by decide) (g := (mkF m 102 #[.val (.int p1), .val (.int p2), .val (.int p3), .val (.int p4), .val (.int p5), .val (.int p6), .val (.ref b37), .val (.double (FP.i2d p2)), .second, .val (.double (own_c p1)), .second, .val (.double (own_c p3)), .second, .val (.double (own_c p4)), .second, .val (.double (FP.i2d (p5 &&& (7 : Int32)))), .second, .val (.double (own_c p1)), .second, .unset, .unset, .unset, .unset, .unset, .unset] [(.double (FP.i2d p2)), (.double (own_c p3)), (.ref b37)])) rfl (by rw [hml]; rfl) (b := b37) (argsL := [(.double (own_c p3)), (.double (FP.i2d p2))]) (rest := []) (lenOf own_pd2 rfl) rfl (by show 2 * 0 + _ ≤ _; exact Nat.le_of_eq rfl) (hb hby at_102) (by decide) (by decide)
      obtain ⟨rfl, Nq48, Kq48, q48_0, q48_1, q48_2, q48_3, q48_4, q48_5⟩ := hQ48
      have f48_E_b37 := f43_E_b37.keep Kq48
      have Z48 := Nat.le_trans Z43 Kq48.1
      have N48 := Fr.app N43 Nq48
      refine oS (u' := T48.setTop (mkF m 105 #[.val (.int p1), .val (.int p2), .val (.int p3), .val (.int p4), .val (.int p5), .val (.int p6), .val (.ref b37), .val (.double (FP.i2d p2)), .second, .val (.double (own_c p1)), .second, .val (.double (own_c p3)), .second, .val (.double (own_c p4)), .second, .val (.double (FP.i2d (p5 &&& (7 : Int32)))), .second, .val (.double (own_c p1)), .second, .unset, .unset, .unset, .unset, .unset, .unset] [])) st48 ?_
      refine oS (u' := T48.setTop (mkF m 107 #[.val (.int p1), .val (.int p2), .val (.int p3), .val (.int p4), .val (.int p5), .val (.int p6), .val (.ref b37), .val (.double (FP.i2d p2)), .second, .val (.double (own_c p1)), .second, .val (.double (own_c p3)), .second, .val (.double (own_c p4)), .second, .val (.double (FP.i2d (p5 &&& (7 : Int32)))), .second, .val (.double (own_c p1)), .second, .unset, .unset, .unset, .unset, .unset, .unset] [(.double (own_c p1))])) (fun _ kst => XS.dload X48.here hx rfl (hb hby at_105) rfl kst) ?_
      refine oS (u' := T48.setTop (mkF m 109 #[.val (.int p1), .val (.int p2), .val (.int p3), .val (.int p4), .val (.int p5), .val (.int p6), .val (.ref b37), .val (.double (FP.i2d p2)), .second, .val (.double (own_c p1)), .second, .val (.double (own_c p3)), .second, .val (.double (own_c p4)), .second, .val (.double (FP.i2d (p5 &&& (7 : Int32)))), .second, .val (.double (own_c p1)), .second, .unset, .unset, .unset, .unset, .unset, .unset] [(.double (own_c p3)), (.double (own_c p1))])) (fun _ kst => XS.dload X48.here hx rfl (hb hby at_107) rfl kst) ?_
      refine oS (u' := T48.setTop (mkF m 110 #[.val (.int p1), .val (.int p2), .val (.int p3), .val (.int p4), .val (.int p5), .val (.int p6), .val (.ref b37), .val (.double (FP.i2d p2)), .second, .val (.double (own_c p1)), .second, .val (.double (own_c p3)), .second, .val (.double (own_c p4)), .second, .val (.double (FP.i2d (p5 &&& (7 : Int32)))), .second, .val (.double (own_c p1)), .second, .unset, .unset, .unset, .unset, .unset, .unset] [(.double (FP.dadd (own_c p1) (own_c p3)))])) (fun _ kst => XS.daddS X48.here hx rfl (hb hby at_109) rfl (own_V_no (own_avg_s p1 p3)) rfl kst) ?_
      refine oS (u' := T48.setTop (mkF m 113 #[.val (.int p1), .val (.int p2), .val (.int p3), .val (.int p4), .val (.int p5), .val (.int p6), .val (.ref b37), .val (.double (FP.i2d p2)), .second, .val (.double (own_c p1)), .second, .val (.double (own_c p3)), .second, .val (.double (own_c p4)), .second, .val (.double (FP.i2d (p5 &&& (7 : Int32)))), .second, .val (.double (own_c p1)), .second, .unset, .unset, .unset, .unset, .unset, .unset] [(.double (4611686018427387904 : UInt64)), (.double (FP.dadd (own_c p1) (own_c p3)))])) (fun _ kst => X48.ldc2DoubleC hx hown (mvT hZ (hw _ (List.mem_of_getElem? (i := 39) rfl))) (g := (mkF m 110 #[.val (.int p1), .val (.int p2), .val (.int p3), .val (.int p4), .val (.int p5), .val (.int p6), .val (.ref b37), .val (.double (FP.i2d p2)), .second, .val (.double (own_c p1)), .second, .val (.double (own_c p3)), .second, .val (.double (own_c p4)), .second, .val (.double (FP.i2d (p5 &&& (7 : Int32)))), .second, .val (.double (own_c p1)), .second, .unset, .unset, .unset, .unset, .unset, .unset] [(.double (FP.dadd (own_c p1) (own_c p3)))])) rfl (hb hby at_110) _ kst) ?_
      refine oS (u' := T48.setTop (mkF m 114 #[.val (.int p1), .val (.int p2), .val (.int p3), .val (.int p4), .val (.int p5), .val (.int p6), .val (.ref b37), .val (.double (FP.i2d p2)), .second, .val (.double (own_c p1)), .second, .val (.double (own_c p3)), .second, .val (.double (own_c p4)), .second, .val (.double (FP.i2d (p5 &&& (7 : Int32)))), .second, .val (.double (own_c p1)), .second, .unset, .unset, .unset, .unset, .unset, .unset] [(.double (FP.ddiv (FP.dadd (own_c p1) (own_c p3)) (4611686018427387904 : UInt64)))])) (fun _ kst => XS.ddivS X48.here hx rfl (hb hby at_113) rfl (own_V_no (own_avg p1 p3)) rfl kst) ?_
      refine oS (u' := T48.setTop (mkF m 116 #[.val (.int p1), .val (.int p2), .val (.int p3), .val (.int p4), .val (.int p5), .val (.int p6), .val (.ref b37), .val (.double (FP.i2d p2)), .second, .val (.double (own_c p1)), .second, .val (.double (own_c p3)), .second, .val (.double (own_c p4)), .second, .val (.double (FP.i2d (p5 &&& (7 : Int32)))), .second, .val (.double (FP.ddiv (FP.dadd (own_c p1) (own_c p3)) (4611686018427387904 : UInt64))), .second, .unset, .unset, .unset, .unset, .unset, .unset] [])) (fun _ kst => XS.dstore X48.here hx rfl (hb hby at_114) rfl (l' := #[.val (.int p1), .val (.int p2), .val (.int p3), .val (.int p4), .val (.int p5), .val (.int p6), .val (.ref b37), .val (.double (FP.i2d p2)), .second, .val (.double (own_c p1)), .second, .val (.double (own_c p3)), .second, .val (.double (own_c p4)), .second, .val (.double (FP.i2d (p5 &&& (7 : Int32)))), .second, .val (.double (FP.ddiv (FP.dadd (own_c p1) (own_c p3)) (4611686018427387904 : UInt64))), .second, .unset, .unset, .unset, .unset, .unset, .unset]) rfl kst) ?_
      refine oS (u' := T48.setTop (mkF m 118 #[.val (.int p1), .val (.int p2), .val (.int p3), .val (.int p4), .val (.int p5), .val (.int p6), .val (.ref b37), .val (.double (FP.i2d p2)), .second, .val (.double (own_c p1)), .second, .val (.double (own_c p3)), .second, .val (.double (own_c p4)), .second, .val (.double (FP.i2d (p5 &&& (7 : Int32)))), .second, .val (.double (FP.ddiv (FP.dadd (own_c p1) (own_c p3)) (4611686018427387904 : UInt64))), .second, .unset, .unset, .unset, .unset, .unset, .unset] [(.double (FP.ddiv (FP.dadd (own_c p1) (own_c p3)) (4611686018427387904 : UInt64)))])) (fun _ kst => XS.dload X48.here hx rfl (hb hby at_116) rfl kst) ?_
      refine oS (u' := T48.setTop (mkF m 119 #[.val (.int p1), .val (.int p2), .val (.int p3), .val (.int p4), .val (.int p5), .val (.int p6), .val (.ref b37), .val (.double (FP.i2d p2)), .second, .val (.double (own_c p1)), .second, .val (.double (own_c p3)), .second, .val (.double (own_c p4)), .second, .val (.double (FP.i2d (p5 &&& (7 : Int32)))), .second, .val (.double (FP.ddiv (FP.dadd (own_c p1) (own_c p3)) (4611686018427387904 : UInt64))), .second, .unset, .unset, .unset, .unset, .unset, .unset] [(.double FP.dconst0), (.double (FP.ddiv (FP.dadd (own_c p1) (own_c p3)) (4611686018427387904 : UInt64)))])) (fun _ kst => XS.dconst0 X48.here hx rfl (hb hby at_118) rfl kst) ?_
      refine oS (u' := T48.setTop (mkF m 120 #[.val (.int p1), .val (.int p2), .val (.int p3), .val (.int p4), .val (.int p5), .val (.int p6), .val (.ref b37), .val (.double (FP.i2d p2)), .second, .val (.double (own_c p1)), .second, .val (.double (own_c p3)), .second, .val (.double (own_c p4)), .second, .val (.double (FP.i2d (p5 &&& (7 : Int32)))), .second, .val (.double (FP.ddiv (FP.dadd (own_c p1) (own_c p3)) (4611686018427387904 : UInt64))), .second, .unset, .unset, .unset, .unset, .unset, .unset] [(.int (own_ci ((own_k p1).toInt + (own_k p3).toInt) 0))])) (fun _ kst => XS.dcmpS X48.here hx rfl (hb hby at_119) rfl (own_V_ci .l (own_avg p1 p3) (own_V_z own_V_d0)) kst) ?_
      by_cases hc49 : (0 : Int32) < (own_ci ((own_k p1).toInt + (own_k p3).toInt) 0)
      · refine oS (u' := T48.setTop (mkF m 123 #[.val (.int p1), .val (.int p2), .val (.int p3), .val (.int p4), .val (.int p5), .val (.int p6), .val (.ref b37), .val (.double (FP.i2d p2)), .second, .val (.double (own_c p1)), .second, .val (.double (own_c p3)), .second, .val (.double (own_c p4)), .second, .val (.double (FP.i2d (p5 &&& (7 : Int32)))), .second, .val (.double (FP.ddiv (FP.dadd (own_c p1) (own_c p3)) (4611686018427387904 : UInt64))), .second, .unset, .unset, .unset, .unset, .unset, .unset] [])) (fun _ kst => XS.ifNo X48.here hx rfl (hb hby at_120) rfl ((if0 _ _).trans (tlt hc49).2.2.2) kst) ?_
        refine oS (u' := T48.setTop (mkF m 125 #[.val (.int p1), .val (.int p2), .val (.int p3), .val (.int p4), .val (.int p5), .val (.int p6), .val (.ref b37), .val (.double (FP.i2d p2)), .second, .val (.double (own_c p1)), .second, .val (.double (own_c p3)), .second, .val (.double (own_c p4)), .second, .val (.double (FP.i2d (p5 &&& (7 : Int32)))), .second, .val (.double (FP.ddiv (FP.dadd (own_c p1) (own_c p3)) (4611686018427387904 : UInt64))), .second, .unset, .unset, .unset, .unset, .unset, .unset] [(.double (FP.i2d p2))])) (fun _ kst => XS.dload X48.here hx rfl (hb hby at_123) rfl kst) ?_
        refine oS (u' := T48.setTop (mkF m 127 #[.val (.int p1), .val (.int p2), .val (.int p3), .val (.int p4), .val (.int p5), .val (.int p6), .val (.ref b37), .val (.double (FP.i2d p2)), .second, .val (.double (own_c p1)), .second, .val (.double (own_c p3)), .second, .val (.double (own_c p4)), .second, .val (.double (FP.i2d (p5 &&& (7 : Int32)))), .second, .val (.double (FP.ddiv (FP.dadd (own_c p1) (own_c p3)) (4611686018427387904 : UInt64))), .second, .unset, .unset, .unset, .unset, .unset, .unset] [(.double (own_c p4)), (.double (FP.i2d p2))])) (fun _ kst => XS.dload X48.here hx rfl (hb hby at_125) rfl kst) ?_
        refine oS (u' := T48.setTop (mkF m 128 #[.val (.int p1), .val (.int p2), .val (.int p3), .val (.int p4), .val (.int p5), .val (.int p6), .val (.ref b37), .val (.double (FP.i2d p2)), .second, .val (.double (own_c p1)), .second, .val (.double (own_c p3)), .second, .val (.double (own_c p4)), .second, .val (.double (FP.i2d (p5 &&& (7 : Int32)))), .second, .val (.double (FP.ddiv (FP.dadd (own_c p1) (own_c p3)) (4611686018427387904 : UInt64))), .second, .unset, .unset, .unset, .unset, .unset, .unset] [(.double (FP.dmul (FP.i2d p2) (own_c p4)))])) (fun _ kst => XS.dmulS X48.here hx rfl (hb hby at_127) rfl ((own_f2 p1 p2 p3 p4 (FP.i2d (p5 &&& (7 : Int32)))).2.1 (own_ci_pos.mp hc49)).1 rfl kst) ?_
        refine oS (u' := T48.setTop (mkF m 130 #[.val (.int p1), .val (.int p2), .val (.int p3), .val (.int p4), .val (.int p5), .val (.int p6), .val (.ref b37), .val (.double (FP.i2d p2)), .second, .val (.double (own_c p1)), .second, .val (.double (own_c p3)), .second, .val (.double (own_c p4)), .second, .val (.double (FP.i2d (p5 &&& (7 : Int32)))), .second, .val (.double (FP.ddiv (FP.dadd (own_c p1) (own_c p3)) (4611686018427387904 : UInt64))), .second, .unset, .unset, .unset, .unset, .unset, .unset] [(.double (FP.ddiv (FP.dadd (own_c p1) (own_c p3)) (4611686018427387904 : UInt64))), (.double (FP.dmul (FP.i2d p2) (own_c p4)))])) (fun _ kst => XS.dload X48.here hx rfl (hb hby at_128) rfl kst) ?_
        refine oS (u' := T48.setTop (mkF m 131 #[.val (.int p1), .val (.int p2), .val (.int p3), .val (.int p4), .val (.int p5), .val (.int p6), .val (.ref b37), .val (.double (FP.i2d p2)), .second, .val (.double (own_c p1)), .second, .val (.double (own_c p3)), .second, .val (.double (own_c p4)), .second, .val (.double (FP.i2d (p5 &&& (7 : Int32)))), .second, .val (.double (FP.ddiv (FP.dadd (own_c p1) (own_c p3)) (4611686018427387904 : UInt64))), .second, .unset, .unset, .unset, .unset, .unset, .unset] [(.double (FP.ddiv (FP.dmul (FP.i2d p2) (own_c p4)) (FP.ddiv (FP.dadd (own_c p1) (own_c p3)) (4611686018427387904 : UInt64))))])) (fun _ kst => XS.ddivS X48.here hx rfl (hb hby at_130) rfl ((own_f2 p1 p2 p3 p4 (FP.i2d (p5 &&& (7 : Int32)))).2.1 (own_ci_pos.mp hc49)).2.1 rfl kst) ?_
        refine oS (u' := T48.setTop (mkF m 135 #[.val (.int p1), .val (.int p2), .val (.int p3), .val (.int p4), .val (.int p5), .val (.int p6), .val (.ref b37), .val (.double (FP.i2d p2)), .second, .val (.double (own_c p1)), .second, .val (.double (own_c p3)), .second, .val (.double (own_c p4)), .second, .val (.double (FP.i2d (p5 &&& (7 : Int32)))), .second, .val (.double (FP.ddiv (FP.dadd (own_c p1) (own_c p3)) (4611686018427387904 : UInt64))), .second, .unset, .unset, .unset, .unset, .unset, .unset] [(.double (FP.ddiv (FP.dmul (FP.i2d p2) (own_c p4)) (FP.ddiv (FP.dadd (own_c p1) (own_c p3)) (4611686018427387904 : UInt64))))])) (fun _ kst => XS.goto X48.here hx rfl (pc0 := 131) (pc' := 135) rfl (hb hby at_131) (by decide) (by decide) kst) ?_
        refine oS (u' := T48.setTop (mkF m 137 #[.val (.int p1), .val (.int p2), .val (.int p3), .val (.int p4), .val (.int p5), .val (.int p6), .val (.ref b37), .val (.double (FP.i2d p2)), .second, .val (.double (own_c p1)), .second, .val (.double (own_c p3)), .second, .val (.double (own_c p4)), .second, .val (.double (FP.i2d (p5 &&& (7 : Int32)))), .second, .val (.double (FP.ddiv (FP.dadd (own_c p1) (own_c p3)) (4611686018427387904 : UInt64))), .second, .val (.double (FP.ddiv (FP.dmul (FP.i2d p2) (own_c p4)) (FP.ddiv (FP.dadd (own_c p1) (own_c p3)) (4611686018427387904 : UInt64)))), .second, .unset, .unset, .unset, .unset] [])) (fun _ kst => XS.dstore X48.here hx rfl (hb hby at_135) rfl (l' := #[.val (.int p1), .val (.int p2), .val (.int p3), .val (.int p4), .val (.int p5), .val (.int p6), .val (.ref b37), .val (.double (FP.i2d p2)), .second, .val (.double (own_c p1)), .second, .val (.double (own_c p3)), .second, .val (.double (own_c p4)), .second, .val (.double (FP.i2d (p5 &&& (7 : Int32)))), .second, .val (.double (FP.ddiv (FP.dadd (own_c p1) (own_c p3)) (4611686018427387904 : UInt64))), .second, .val (.double (FP.ddiv (FP.dmul (FP.i2d p2) (own_c p4)) (FP.ddiv (FP.dadd (own_c p1) (own_c p3)) (4611686018427387904 : UInt64)))), .second, .unset, .unset, .unset, .unset]) rfl kst) ?_
        refine oS (u' := T48.setTop (mkF m 139 #[.val (.int p1), .val (.int p2), .val (.int p3), .val (.int p4), .val (.int p5), .val (.int p6), .val (.ref b37), .val (.double (FP.i2d p2)), .second, .val (.double (own_c p1)), .second, .val (.double (own_c p3)), .second, .val (.double (own_c p4)), .second, .val (.double (FP.i2d (p5 &&& (7 : Int32)))), .second, .val (.double (FP.ddiv (FP.dadd (own_c p1) (own_c p3)) (4611686018427387904 : UInt64))), .second, .val (.double (FP.ddiv (FP.dmul (FP.i2d p2) (own_c p4)) (FP.ddiv (FP.dadd (own_c p1) (own_c p3)) (4611686018427387904 : UInt64)))), .second, .unset, .unset, .unset, .unset] [(.ref b37)])) (fun _ kst => XS.aload X48.here hx rfl (hb hby at_137) rfl rfl kst) ?_
        refine oS (u' := T48.setTop (mkF m 141 #[.val (.int p1), .val (.int p2), .val (.int p3), .val (.int p4), .val (.int p5), .val (.int p6), .val (.ref b37), .val (.double (FP.i2d p2)), .second, .val (.double (own_c p1)), .second, .val (.double (own_c p3)), .second, .val (.double (own_c p4)), .second, .val (.double (FP.i2d (p5 &&& (7 : Int32)))), .second, .val (.double (FP.ddiv (FP.dadd (own_c p1) (own_c p3)) (4611686018427387904 : UInt64))), .second, .val (.double (FP.ddiv (FP.dmul (FP.i2d p2) (own_c p4)) (FP.ddiv (FP.dadd (own_c p1) (own_c p3)) (4611686018427387904 : UInt64)))), .second, .unset, .unset, .unset, .unset] [(.double (own_c p4)), (.ref b37)])) (fun _ kst => XS.dload X48.here hx rfl (hb hby at_139) rfl kst) ?_
        refine oS (u' := T48.setTop (mkF m 143 #[.val (.int p1), .val (.int p2), .val (.int p3), .val (.int p4), .val (.int p5), .val (.int p6), .val (.ref b37), .val (.double (FP.i2d p2)), .second, .val (.double (own_c p1)), .second, .val (.double (own_c p3)), .second, .val (.double (own_c p4)), .second, .val (.double (FP.i2d (p5 &&& (7 : Int32)))), .second, .val (.double (FP.ddiv (FP.dadd (own_c p1) (own_c p3)) (4611686018427387904 : UInt64))), .second, .val (.double (FP.ddiv (FP.dmul (FP.i2d p2) (own_c p4)) (FP.ddiv (FP.dadd (own_c p1) (own_c p3)) (4611686018427387904 : UInt64)))), .second, .unset, .unset, .unset, .unset] [(.double (FP.i2d (p5 &&& (7 : Int32)))), (.double (own_c p4)), (.ref b37)])) (fun _ kst => XS.dload X48.here hx rfl (hb hby at_141) rfl kst) ?_
        obtain ⟨T50, X50, e50, st50⟩ := own_callVP X48 hx hZ (y := (⟨"com/example/waxwing/waxwing/policy/ThroughputLine", "throughputAt", "(DD)D"⟩ : MethodName)) (z := (⟨"com/example/waxwing/waxwing/policy/ThroughputLine", "throughputAt", "(DD)D"⟩ : MethodName)) hown (hw _ (List.mem_of_getElem? (i := 29) rfl)) (hw _ (List.mem_of_getElem? (i := 30) rfl)) (notFace_of_selects (args := #[]) (mvT hZ (hw _ (List.mem_of_getElem? (i := 32) rfl)))) (hw _ (List.mem_of_getElem? (i := 32) rfl)) (hw _ (List.mem_of_getElem? (i := 31) rfl)) (by decide) rfl f48_E_b37 (W := 0) (own_rm_at l Z a0 hw b37 (own_c p4) (FP.i2d (p5 &&& (7 : Int32))) (own_bz (own_c p3) (own_bz (own_c p1) (0 : Int32))) (own_mu (own_c p3) ((0 : Int64) + (1 : Int64)) (own_mu (own_c p1) (0 : Int64) (0 : UInt64))) (own_mu (FP.i2d p2) ((0 : Int64) + (1 : Int64)) (own_mu (FP.i2d p2) (0 : Int64) (0 : UInt64))) (own_sd (FP.i2d p2) ((0 : Int64) + (1 : Int64)) (own_mu (FP.i2d p2) (0 : Int64) (0 : UInt64)) (own_sd (FP.i2d p2) (0 : Int64) (0 : UInt64) (0 : UInt64))) (own_pr (own_c p3) (FP.i2d p2) ((0 : Int64) + (1 : Int64)) (own_mu (own_c p1) (0 : Int64) (0 : UInt64)) (own_mu (FP.i2d p2) (0 : Int64) (0 : UInt64)) (own_pr (own_c p1) (FP.i2d p2) (0 : Int64) (0 : UInt64) (0 : UInt64) (0 : UInt64))) T48.heap q48_5 q48_1 q48_2 q48_3 q48_4 (own_f2 p1 p2 p3 p4 (FP.i2d (p5 &&& (7 : Int32)))).1) (hw _ (List.mem_of_getElem? (i := 33) rfl)) (hw _ (List.mem_of_getElem? (i := 2) rfl)) (by decide) (by decide) (g := (mkF m 143 #[.val (.int p1), .val (.int p2), .val (.int p3), .val (.int p4), .val (.int p5), .val (.int p6), .val (.ref b37), .val (.double (FP.i2d p2)), .second, .val (.double (own_c p1)), .second, .val (.double (own_c p3)), .second, .val (.double (own_c p4)), .second, .val (.double (FP.i2d (p5 &&& (7 : Int32)))), .second, .val (.double (FP.ddiv (FP.dadd (own_c p1) (own_c p3)) (4611686018427387904 : UInt64))), .second, .val (.double (FP.ddiv (FP.dmul (FP.i2d p2) (own_c p4)) (FP.ddiv (FP.dadd (own_c p1) (own_c p3)) (4611686018427387904 : UInt64)))), .second, .unset, .unset, .unset, .unset] [(.double (FP.i2d (p5 &&& (7 : Int32)))), (.double (own_c p4)), (.ref b37)])) rfl (by rw [hml]; rfl) (b := b37) (argsL := [(.double (own_c p4)), (.double (FP.i2d (p5 &&& (7 : Int32))))]) (rest := []) (lenOf own_pd3 rfl) rfl (by show 2 * 0 + _ ≤ _; exact Nat.le_of_eq rfl) (hb hby at_143) (by decide) (by decide)
        refine oS (u' := T50.setTop (mkF m 146 #[.val (.int p1), .val (.int p2), .val (.int p3), .val (.int p4), .val (.int p5), .val (.int p6), .val (.ref b37), .val (.double (FP.i2d p2)), .second, .val (.double (own_c p1)), .second, .val (.double (own_c p3)), .second, .val (.double (own_c p4)), .second, .val (.double (FP.i2d (p5 &&& (7 : Int32)))), .second, .val (.double (FP.ddiv (FP.dadd (own_c p1) (own_c p3)) (4611686018427387904 : UInt64))), .second, .val (.double (FP.ddiv (FP.dmul (FP.i2d p2) (own_c p4)) (FP.ddiv (FP.dadd (own_c p1) (own_c p3)) (4611686018427387904 : UInt64)))), .second, .unset, .unset, .unset, .unset] [(.double (own_at b37 (own_c p4) (FP.i2d (p5 &&& (7 : Int32))) (own_bz (own_c p3) (own_bz (own_c p1) (0 : Int32))) (own_mu (own_c p3) ((0 : Int64) + (1 : Int64)) (own_mu (own_c p1) (0 : Int64) (0 : UInt64))) (own_mu (FP.i2d p2) ((0 : Int64) + (1 : Int64)) (own_mu (FP.i2d p2) (0 : Int64) (0 : UInt64))) (own_sd (FP.i2d p2) ((0 : Int64) + (1 : Int64)) (own_mu (FP.i2d p2) (0 : Int64) (0 : UInt64)) (own_sd (FP.i2d p2) (0 : Int64) (0 : UInt64) (0 : UInt64))) (own_pr (own_c p3) (FP.i2d p2) ((0 : Int64) + (1 : Int64)) (own_mu (own_c p1) (0 : Int64) (0 : UInt64)) (own_mu (FP.i2d p2) (0 : Int64) (0 : UInt64)) (own_pr (own_c p1) (FP.i2d p2) (0 : Int64) (0 : UInt64) (0 : UInt64) (0 : UInt64)))))])) st50 ?_
        refine oS (u' := T50.setTop (mkF m 148 #[.val (.int p1), .val (.int p2), .val (.int p3), .val (.int p4), .val (.int p5), .val (.int p6), .val (.ref b37), .val (.double (FP.i2d p2)), .second, .val (.double (own_c p1)), .second, .val (.double (own_c p3)), .second, .val (.double (own_c p4)), .second, .val (.double (FP.i2d (p5 &&& (7 : Int32)))), .second, .val (.double (FP.ddiv (FP.dadd (own_c p1) (own_c p3)) (4611686018427387904 : UInt64))), .second, .val (.double (FP.ddiv (FP.dmul (FP.i2d p2) (own_c p4)) (FP.ddiv (FP.dadd (own_c p1) (own_c p3)) (4611686018427387904 : UInt64)))), .second, .unset, .unset, .unset, .unset] [(.double (FP.ddiv (FP.dmul (FP.i2d p2) (own_c p4)) (FP.ddiv (FP.dadd (own_c p1) (own_c p3)) (4611686018427387904 : UInt64)))), (.double (own_at b37 (own_c p4) (FP.i2d (p5 &&& (7 : Int32))) (own_bz (own_c p3) (own_bz (own_c p1) (0 : Int32))) (own_mu (own_c p3) ((0 : Int64) + (1 : Int64)) (own_mu (own_c p1) (0 : Int64) (0 : UInt64))) (own_mu (FP.i2d p2) ((0 : Int64) + (1 : Int64)) (own_mu (FP.i2d p2) (0 : Int64) (0 : UInt64))) (own_sd (FP.i2d p2) ((0 : Int64) + (1 : Int64)) (own_mu (FP.i2d p2) (0 : Int64) (0 : UInt64)) (own_sd (FP.i2d p2) (0 : Int64) (0 : UInt64) (0 : UInt64))) (own_pr (own_c p3) (FP.i2d p2) ((0 : Int64) + (1 : Int64)) (own_mu (own_c p1) (0 : Int64) (0 : UInt64)) (own_mu (FP.i2d p2) (0 : Int64) (0 : UInt64)) (own_pr (own_c p1) (FP.i2d p2) (0 : Int64) (0 : UInt64) (0 : UInt64) (0 : UInt64)))))])) (fun _ kst => XS.dload X50.here hx rfl (hb hby at_146) rfl kst) ?_
        refine oS (u' := T50.setTop (mkF m 149 #[.val (.int p1), .val (.int p2), .val (.int p3), .val (.int p4), .val (.int p5), .val (.int p6), .val (.ref b37), .val (.double (FP.i2d p2)), .second, .val (.double (own_c p1)), .second, .val (.double (own_c p3)), .second, .val (.double (own_c p4)), .second, .val (.double (FP.i2d (p5 &&& (7 : Int32)))), .second, .val (.double (FP.ddiv (FP.dadd (own_c p1) (own_c p3)) (4611686018427387904 : UInt64))), .second, .val (.double (FP.ddiv (FP.dmul (FP.i2d p2) (own_c p4)) (FP.ddiv (FP.dadd (own_c p1) (own_c p3)) (4611686018427387904 : UInt64)))), .second, .unset, .unset, .unset, .unset] [(.int (0 : Int32))])) (fun _ kst => XS.dcmpS X50.here hx rfl (hb hby at_148) rfl (((own_f2 p1 p2 p3 p4 (FP.i2d (p5 &&& (7 : Int32)))).2.1 (own_ci_pos.mp hc49)).2.2 _) kst) ?_
        refine oS (u' := T50.setTop (mkF m 152 #[.val (.int p1), .val (.int p2), .val (.int p3), .val (.int p4), .val (.int p5), .val (.int p6), .val (.ref b37), .val (.double (FP.i2d p2)), .second, .val (.double (own_c p1)), .second, .val (.double (own_c p3)), .second, .val (.double (own_c p4)), .second, .val (.double (FP.i2d (p5 &&& (7 : Int32)))), .second, .val (.double (FP.ddiv (FP.dadd (own_c p1) (own_c p3)) (4611686018427387904 : UInt64))), .second, .val (.double (FP.ddiv (FP.dmul (FP.i2d p2) (own_c p4)) (FP.ddiv (FP.dadd (own_c p1) (own_c p3)) (4611686018427387904 : UInt64)))), .second, .unset, .unset, .unset, .unset] [])) (fun _ kst => XS.ifNo X50.here hx rfl (hb hby at_149) rfl ((if0 _ _).trans (teq rfl).2) kst) ?_
        refine oS (u' := T50.setTop (mkF m 153 #[.val (.int p1), .val (.int p2), .val (.int p3), .val (.int p4), .val (.int p5), .val (.int p6), .val (.ref b37), .val (.double (FP.i2d p2)), .second, .val (.double (own_c p1)), .second, .val (.double (own_c p3)), .second, .val (.double (own_c p4)), .second, .val (.double (FP.i2d (p5 &&& (7 : Int32)))), .second, .val (.double (FP.ddiv (FP.dadd (own_c p1) (own_c p3)) (4611686018427387904 : UInt64))), .second, .val (.double (FP.ddiv (FP.dmul (FP.i2d p2) (own_c p4)) (FP.ddiv (FP.dadd (own_c p1) (own_c p3)) (4611686018427387904 : UInt64)))), .second, .unset, .unset, .unset, .unset] [(.int (1 : Int32))])) (fun _ kst => XS.iconst X50.here hx rfl (hb hby at_152) kst) ?_
        refine oS (u' := T50.setTop (mkF m 157 #[.val (.int p1), .val (.int p2), .val (.int p3), .val (.int p4), .val (.int p5), .val (.int p6), .val (.ref b37), .val (.double (FP.i2d p2)), .second, .val (.double (own_c p1)), .second, .val (.double (own_c p3)), .second, .val (.double (own_c p4)), .second, .val (.double (FP.i2d (p5 &&& (7 : Int32)))), .second, .val (.double (FP.ddiv (FP.dadd (own_c p1) (own_c p3)) (4611686018427387904 : UInt64))), .second, .val (.double (FP.ddiv (FP.dmul (FP.i2d p2) (own_c p4)) (FP.ddiv (FP.dadd (own_c p1) (own_c p3)) (4611686018427387904 : UInt64)))), .second, .unset, .unset, .unset, .unset] [(.int (1 : Int32))])) (fun _ kst => XS.goto X50.here hx rfl (pc0 := 153) (pc' := 157) rfl (hb hby at_153) (by decide) (by decide) kst) ?_
        refine own_retN X50 hx hlk (t := .boolean) hret (by simp) (hb hby at_157) ?_ (by decide) (by decide)
        exact ⟨rfl, N48⟩
      · refine oS (u' := T48.setTop (mkF m 134 #[.val (.int p1), .val (.int p2), .val (.int p3), .val (.int p4), .val (.int p5), .val (.int p6), .val (.ref b37), .val (.double (FP.i2d p2)), .second, .val (.double (own_c p1)), .second, .val (.double (own_c p3)), .second, .val (.double (own_c p4)), .second, .val (.double (FP.i2d (p5 &&& (7 : Int32)))), .second, .val (.double (FP.ddiv (FP.dadd (own_c p1) (own_c p3)) (4611686018427387904 : UInt64))), .second, .unset, .unset, .unset, .unset, .unset, .unset] [])) (fun _ kst => XS.ifYes X48.here hx rfl (pc0 := 120) (pc' := 134) rfl (hb hby at_120) rfl ((if0 _ _).trans (flt hc49).2.2.2) (by decide) (by decide) kst) ?_
        refine oS (u' := T48.setTop (mkF m 135 #[.val (.int p1), .val (.int p2), .val (.int p3), .val (.int p4), .val (.int p5), .val (.int p6), .val (.ref b37), .val (.double (FP.i2d p2)), .second, .val (.double (own_c p1)), .second, .val (.double (own_c p3)), .second, .val (.double (own_c p4)), .second, .val (.double (FP.i2d (p5 &&& (7 : Int32)))), .second, .val (.double (FP.ddiv (FP.dadd (own_c p1) (own_c p3)) (4611686018427387904 : UInt64))), .second, .unset, .unset, .unset, .unset, .unset, .unset] [(.double FP.dconst0)])) (fun _ kst => XS.dconst0 X48.here hx rfl (hb hby at_134) rfl kst) ?_
        refine oS (u' := T48.setTop (mkF m 137 #[.val (.int p1), .val (.int p2), .val (.int p3), .val (.int p4), .val (.int p5), .val (.int p6), .val (.ref b37), .val (.double (FP.i2d p2)), .second, .val (.double (own_c p1)), .second, .val (.double (own_c p3)), .second, .val (.double (own_c p4)), .second, .val (.double (FP.i2d (p5 &&& (7 : Int32)))), .second, .val (.double (FP.ddiv (FP.dadd (own_c p1) (own_c p3)) (4611686018427387904 : UInt64))), .second, .val (.double FP.dconst0), .second, .unset, .unset, .unset, .unset] [])) (fun _ kst => XS.dstore X48.here hx rfl (hb hby at_135) rfl (l' := #[.val (.int p1), .val (.int p2), .val (.int p3), .val (.int p4), .val (.int p5), .val (.int p6), .val (.ref b37), .val (.double (FP.i2d p2)), .second, .val (.double (own_c p1)), .second, .val (.double (own_c p3)), .second, .val (.double (own_c p4)), .second, .val (.double (FP.i2d (p5 &&& (7 : Int32)))), .second, .val (.double (FP.ddiv (FP.dadd (own_c p1) (own_c p3)) (4611686018427387904 : UInt64))), .second, .val (.double FP.dconst0), .second, .unset, .unset, .unset, .unset]) rfl kst) ?_
        refine oS (u' := T48.setTop (mkF m 139 #[.val (.int p1), .val (.int p2), .val (.int p3), .val (.int p4), .val (.int p5), .val (.int p6), .val (.ref b37), .val (.double (FP.i2d p2)), .second, .val (.double (own_c p1)), .second, .val (.double (own_c p3)), .second, .val (.double (own_c p4)), .second, .val (.double (FP.i2d (p5 &&& (7 : Int32)))), .second, .val (.double (FP.ddiv (FP.dadd (own_c p1) (own_c p3)) (4611686018427387904 : UInt64))), .second, .val (.double FP.dconst0), .second, .unset, .unset, .unset, .unset] [(.ref b37)])) (fun _ kst => XS.aload X48.here hx rfl (hb hby at_137) rfl rfl kst) ?_
        refine oS (u' := T48.setTop (mkF m 141 #[.val (.int p1), .val (.int p2), .val (.int p3), .val (.int p4), .val (.int p5), .val (.int p6), .val (.ref b37), .val (.double (FP.i2d p2)), .second, .val (.double (own_c p1)), .second, .val (.double (own_c p3)), .second, .val (.double (own_c p4)), .second, .val (.double (FP.i2d (p5 &&& (7 : Int32)))), .second, .val (.double (FP.ddiv (FP.dadd (own_c p1) (own_c p3)) (4611686018427387904 : UInt64))), .second, .val (.double FP.dconst0), .second, .unset, .unset, .unset, .unset] [(.double (own_c p4)), (.ref b37)])) (fun _ kst => XS.dload X48.here hx rfl (hb hby at_139) rfl kst) ?_
        refine oS (u' := T48.setTop (mkF m 143 #[.val (.int p1), .val (.int p2), .val (.int p3), .val (.int p4), .val (.int p5), .val (.int p6), .val (.ref b37), .val (.double (FP.i2d p2)), .second, .val (.double (own_c p1)), .second, .val (.double (own_c p3)), .second, .val (.double (own_c p4)), .second, .val (.double (FP.i2d (p5 &&& (7 : Int32)))), .second, .val (.double (FP.ddiv (FP.dadd (own_c p1) (own_c p3)) (4611686018427387904 : UInt64))), .second, .val (.double FP.dconst0), .second, .unset, .unset, .unset, .unset] [(.double (FP.i2d (p5 &&& (7 : Int32)))), (.double (own_c p4)), (.ref b37)])) (fun _ kst => XS.dload X48.here hx rfl (hb hby at_141) rfl kst) ?_
        obtain ⟨T51, X51, e51, st51⟩ := own_callVP X48 hx hZ (y := (⟨"com/example/waxwing/waxwing/policy/ThroughputLine", "throughputAt", "(DD)D"⟩ : MethodName)) (z := (⟨"com/example/waxwing/waxwing/policy/ThroughputLine", "throughputAt", "(DD)D"⟩ : MethodName)) hown (hw _ (List.mem_of_getElem? (i := 29) rfl)) (hw _ (List.mem_of_getElem? (i := 30) rfl)) (notFace_of_selects (args := #[]) (mvT hZ (hw _ (List.mem_of_getElem? (i := 32) rfl)))) (hw _ (List.mem_of_getElem? (i := 32) rfl)) (hw _ (List.mem_of_getElem? (i := 31) rfl)) (by decide) rfl f48_E_b37 (W := 0) (own_rm_at l Z a0 hw b37 (own_c p4) (FP.i2d (p5 &&& (7 : Int32))) (own_bz (own_c p3) (own_bz (own_c p1) (0 : Int32))) (own_mu (own_c p3) ((0 : Int64) + (1 : Int64)) (own_mu (own_c p1) (0 : Int64) (0 : UInt64))) (own_mu (FP.i2d p2) ((0 : Int64) + (1 : Int64)) (own_mu (FP.i2d p2) (0 : Int64) (0 : UInt64))) (own_sd (FP.i2d p2) ((0 : Int64) + (1 : Int64)) (own_mu (FP.i2d p2) (0 : Int64) (0 : UInt64)) (own_sd (FP.i2d p2) (0 : Int64) (0 : UInt64) (0 : UInt64))) (own_pr (own_c p3) (FP.i2d p2) ((0 : Int64) + (1 : Int64)) (own_mu (own_c p1) (0 : Int64) (0 : UInt64)) (own_mu (FP.i2d p2) (0 : Int64) (0 : UInt64)) (own_pr (own_c p1) (FP.i2d p2) (0 : Int64) (0 : UInt64) (0 : UInt64) (0 : UInt64))) T48.heap q48_5 q48_1 q48_2 q48_3 q48_4 (own_f2 p1 p2 p3 p4 (FP.i2d (p5 &&& (7 : Int32)))).1) (hw _ (List.mem_of_getElem? (i := 33) rfl)) (hw _ (List.mem_of_getElem? (i := 2) rfl)) (by decide) (by decide) (g := (mkF m 143 #[.val (.int p1), .val (.int p2), .val (.int p3), .val (.int p4), .val (.int p5), .val (.int p6), .val (.ref b37), .val (.double (FP.i2d p2)), .second, .val (.double (own_c p1)), .second, .val (.double (own_c p3)), .second, .val (.double (own_c p4)), .second, .val (.double (FP.i2d (p5 &&& (7 : Int32)))), .second, .val (.double (FP.ddiv (FP.dadd (own_c p1) (own_c p3)) (4611686018427387904 : UInt64))), .second, .val (.double FP.dconst0), .second, .unset, .unset, .unset, .unset] [(.double (FP.i2d (p5 &&& (7 : Int32)))), (.double (own_c p4)), (.ref b37)])) rfl (by rw [hml]; rfl) (b := b37) (argsL := [(.double (own_c p4)), (.double (FP.i2d (p5 &&& (7 : Int32))))]) (rest := []) (lenOf own_pd3 rfl) rfl (by show 2 * 0 + _ ≤ _; exact Nat.le_of_eq rfl) (hb hby at_143) (by decide) (by decide)
        refine oS (u' := T51.setTop (mkF m 146 #[.val (.int p1), .val (.int p2), .val (.int p3), .val (.int p4), .val (.int p5), .val (.int p6), .val (.ref b37), .val (.double (FP.i2d p2)), .second, .val (.double (own_c p1)), .second, .val (.double (own_c p3)), .second, .val (.double (own_c p4)), .second, .val (.double (FP.i2d (p5 &&& (7 : Int32)))), .second, .val (.double (FP.ddiv (FP.dadd (own_c p1) (own_c p3)) (4611686018427387904 : UInt64))), .second, .val (.double FP.dconst0), .second, .unset, .unset, .unset, .unset] [(.double (own_at b37 (own_c p4) (FP.i2d (p5 &&& (7 : Int32))) (own_bz (own_c p3) (own_bz (own_c p1) (0 : Int32))) (own_mu (own_c p3) ((0 : Int64) + (1 : Int64)) (own_mu (own_c p1) (0 : Int64) (0 : UInt64))) (own_mu (FP.i2d p2) ((0 : Int64) + (1 : Int64)) (own_mu (FP.i2d p2) (0 : Int64) (0 : UInt64))) (own_sd (FP.i2d p2) ((0 : Int64) + (1 : Int64)) (own_mu (FP.i2d p2) (0 : Int64) (0 : UInt64)) (own_sd (FP.i2d p2) (0 : Int64) (0 : UInt64) (0 : UInt64))) (own_pr (own_c p3) (FP.i2d p2) ((0 : Int64) + (1 : Int64)) (own_mu (own_c p1) (0 : Int64) (0 : UInt64)) (own_mu (FP.i2d p2) (0 : Int64) (0 : UInt64)) (own_pr (own_c p1) (FP.i2d p2) (0 : Int64) (0 : UInt64) (0 : UInt64) (0 : UInt64)))))])) st51 ?_
        refine oS (u' := T51.setTop (mkF m 148 #[.val (.int p1), .val (.int p2), .val (.int p3), .val (.int p4), .val (.int p5), .val (.int p6), .val (.ref b37), .val (.double (FP.i2d p2)), .second, .val (.double (own_c p1)), .second, .val (.double (own_c p3)), .second, .val (.double (own_c p4)), .second, .val (.double (FP.i2d (p5 &&& (7 : Int32)))), .second, .val (.double (FP.ddiv (FP.dadd (own_c p1) (own_c p3)) (4611686018427387904 : UInt64))), .second, .val (.double FP.dconst0), .second, .unset, .unset, .unset, .unset] [(.double FP.dconst0), (.double (own_at b37 (own_c p4) (FP.i2d (p5 &&& (7 : Int32))) (own_bz (own_c p3) (own_bz (own_c p1) (0 : Int32))) (own_mu (own_c p3) ((0 : Int64) + (1 : Int64)) (own_mu (own_c p1) (0 : Int64) (0 : UInt64))) (own_mu (FP.i2d p2) ((0 : Int64) + (1 : Int64)) (own_mu (FP.i2d p2) (0 : Int64) (0 : UInt64))) (own_sd (FP.i2d p2) ((0 : Int64) + (1 : Int64)) (own_mu (FP.i2d p2) (0 : Int64) (0 : UInt64)) (own_sd (FP.i2d p2) (0 : Int64) (0 : UInt64) (0 : UInt64))) (own_pr (own_c p3) (FP.i2d p2) ((0 : Int64) + (1 : Int64)) (own_mu (own_c p1) (0 : Int64) (0 : UInt64)) (own_mu (FP.i2d p2) (0 : Int64) (0 : UInt64)) (own_pr (own_c p1) (FP.i2d p2) (0 : Int64) (0 : UInt64) (0 : UInt64) (0 : UInt64)))))])) (fun _ kst => XS.dload X51.here hx rfl (hb hby at_146) rfl kst) ?_
        refine oS (u' := T51.setTop (mkF m 149 #[.val (.int p1), .val (.int p2), .val (.int p3), .val (.int p4), .val (.int p5), .val (.int p6), .val (.ref b37), .val (.double (FP.i2d p2)), .second, .val (.double (own_c p1)), .second, .val (.double (own_c p3)), .second, .val (.double (own_c p4)), .second, .val (.double (FP.i2d (p5 &&& (7 : Int32)))), .second, .val (.double (FP.ddiv (FP.dadd (own_c p1) (own_c p3)) (4611686018427387904 : UInt64))), .second, .val (.double FP.dconst0), .second, .unset, .unset, .unset, .unset] [(.int (0 : Int32))])) (fun _ kst => XS.dcmpS X51.here hx rfl (hb hby at_148) rfl ((own_f2 p1 p2 p3 p4 (FP.i2d (p5 &&& (7 : Int32)))).2.2 (fun q => hc49 (own_ci_pos.mpr q)) _) kst) ?_
        refine oS (u' := T51.setTop (mkF m 152 #[.val (.int p1), .val (.int p2), .val (.int p3), .val (.int p4), .val (.int p5), .val (.int p6), .val (.ref b37), .val (.double (FP.i2d p2)), .second, .val (.double (own_c p1)), .second, .val (.double (own_c p3)), .second, .val (.double (own_c p4)), .second, .val (.double (FP.i2d (p5 &&& (7 : Int32)))), .second, .val (.double (FP.ddiv (FP.dadd (own_c p1) (own_c p3)) (4611686018427387904 : UInt64))), .second, .val (.double FP.dconst0), .second, .unset, .unset, .unset, .unset] [])) (fun _ kst => XS.ifNo X51.here hx rfl (hb hby at_149) rfl ((if0 _ _).trans (teq rfl).2) kst) ?_
        refine oS (u' := T51.setTop (mkF m 153 #[.val (.int p1), .val (.int p2), .val (.int p3), .val (.int p4), .val (.int p5), .val (.int p6), .val (.ref b37), .val (.double (FP.i2d p2)), .second, .val (.double (own_c p1)), .second, .val (.double (own_c p3)), .second, .val (.double (own_c p4)), .second, .val (.double (FP.i2d (p5 &&& (7 : Int32)))), .second, .val (.double (FP.ddiv (FP.dadd (own_c p1) (own_c p3)) (4611686018427387904 : UInt64))), .second, .val (.double FP.dconst0), .second, .unset, .unset, .unset, .unset] [(.int (1 : Int32))])) (fun _ kst => XS.iconst X51.here hx rfl (hb hby at_152) kst) ?_
        refine oS (u' := T51.setTop (mkF m 157 #[.val (.int p1), .val (.int p2), .val (.int p3), .val (.int p4), .val (.int p5), .val (.int p6), .val (.ref b37), .val (.double (FP.i2d p2)), .second, .val (.double (own_c p1)), .second, .val (.double (own_c p3)), .second, .val (.double (own_c p4)), .second, .val (.double (FP.i2d (p5 &&& (7 : Int32)))), .second, .val (.double (FP.ddiv (FP.dadd (own_c p1) (own_c p3)) (4611686018427387904 : UInt64))), .second, .val (.double FP.dconst0), .second, .unset, .unset, .unset, .unset] [(.int (1 : Int32))])) (fun _ kst => XS.goto X51.here hx rfl (pc0 := 153) (pc' := 157) rfl (hb hby at_153) (by decide) (by decide) kst) ?_
        refine own_retN X51 hx hlk (t := .boolean) hret (by simp) (hb hby at_157) ?_ (by decide) (by decide)
        exact ⟨rfl, N48⟩
  · refine oS (u' := T38.setTop (mkF m 158 #[.val (.int p1), .val (.int p2), .val (.int p3), .val (.int p4), .val (.int p5), .val (.int p6), .val (.ref b37), .val (.double (FP.i2d p2)), .second, .unset, .unset, .unset, .unset, .unset, .unset, .unset, .unset, .unset, .unset, .unset, .unset, .unset, .unset, .unset, .unset] [])) (fun _ kst => XS.ifYes X38.here hx rfl (pc0 := 17) (pc' := 158) rfl (hb hby at_17) rfl ((if0 _ _).trans (feq hc39).2) (by decide) (by decide) kst) ?_
    refine oS (u' := T38.setTop (mkF m 159 #[.val (.int p1), .val (.int p2), .val (.int p3), .val (.int p4), .val (.int p5), .val (.int p6), .val (.ref b37), .val (.double (FP.i2d p2)), .second, .unset, .unset, .unset, .unset, .unset, .unset, .unset, .unset, .unset, .unset, .unset, .unset, .unset, .unset, .unset, .unset] [(.int p1)])) (fun _ kst => XS.iloadN X38.here hx rfl (hb hby at_158) rfl kst) ?_
    refine oS (u' := T38.setTop (mkF m 161 #[.val (.int p1), .val (.int p2), .val (.int p3), .val (.int p4), .val (.int p5), .val (.int p6), .val (.ref b37), .val (.double (FP.i2d p2)), .second, .unset, .unset, .unset, .unset, .unset, .unset, .unset, .unset, .unset, .unset, .unset, .unset, .unset, .unset, .unset, .unset] [(.int (15 : Int32)), (.int p1)])) (fun _ kst => XS.bipush X38.here hx rfl (hb hby at_159) kst) ?_
    refine oS (u' := T38.setTop (mkF m 162 #[.val (.int p1), .val (.int p2), .val (.int p3), .val (.int p4), .val (.int p5), .val (.int p6), .val (.ref b37), .val (.double (FP.i2d p2)), .second, .unset, .unset, .unset, .unset, .unset, .unset, .unset, .unset, .unset, .unset, .unset, .unset, .unset, .unset, .unset, .unset] [(.int (own_i p1))])) (fun _ kst => XS.iand X38.here hx rfl (hb hby at_161) rfl kst) ?_
    refine oS (u' := T38.setTop (mkF m 164 #[.val (.int p1), .val (.int p2), .val (.int p3), .val (.int p4), .val (.int p5), .val (.int p6), .val (.ref b37), .val (.double (FP.i2d p2)), .second, .val (.int (own_i p1)), .unset, .unset, .unset, .unset, .unset, .unset, .unset, .unset, .unset, .unset, .unset, .unset, .unset, .unset, .unset] [])) (fun _ kst => XS.istore X38.here hx rfl (hb hby at_162) rfl (l' := #[.val (.int p1), .val (.int p2), .val (.int p3), .val (.int p4), .val (.int p5), .val (.int p6), .val (.ref b37), .val (.double (FP.i2d p2)), .second, .val (.int (own_i p1)), .unset, .unset, .unset, .unset, .unset, .unset, .unset, .unset, .unset, .unset, .unset, .unset, .unset, .unset, .unset]) rfl kst) ?_
    refine oS (u' := T38.setTop (mkF m 166 #[.val (.int p1), .val (.int p2), .val (.int p3), .val (.int p4), .val (.int p5), .val (.int p6), .val (.ref b37), .val (.double (FP.i2d p2)), .second, .val (.int (own_i p1)), .unset, .unset, .unset, .unset, .unset, .unset, .unset, .unset, .unset, .unset, .unset, .unset, .unset, .unset, .unset] [(.int (own_i p1))])) (fun _ kst => XS.iload X38.here hx rfl (hb hby at_164) rfl kst) ?_
    refine oS (u' := T38.setTop (mkF m 167 #[.val (.int p1), .val (.int p2), .val (.int p3), .val (.int p4), .val (.int p5), .val (.int p6), .val (.ref b37), .val (.double (FP.i2d p2)), .second, .val (.int (own_i p1)), .unset, .unset, .unset, .unset, .unset, .unset, .unset, .unset, .unset, .unset, .unset, .unset, .unset, .unset, .unset] [(.int (1 : Int32)), (.int (own_i p1))])) (fun _ kst => XS.iconst X38.here hx rfl (hb hby at_166) kst) ?_
    refine oS (u' := T38.setTop (mkF m 168 #[.val (.int p1), .val (.int p2), .val (.int p3), .val (.int p4), .val (.int p5), .val (.int p6), .val (.ref b37), .val (.double (FP.i2d p2)), .second, .val (.int (own_i p1)), .unset, .unset, .unset, .unset, .unset, .unset, .unset, .unset, .unset, .unset, .unset, .unset, .unset, .unset, .unset] [(.int ((own_i p1) + (1 : Int32)))])) (fun _ kst => XS.iadd X38.here hx rfl (hb hby at_167) rfl kst) ?_
    refine oS (u' := T38.setTop (mkF m 169 #[.val (.int p1), .val (.int p2), .val (.int p3), .val (.int p4), .val (.int p5), .val (.int p6), .val (.ref b37), .val (.double (FP.i2d p2)), .second, .val (.int (own_i p1)), .unset, .unset, .unset, .unset, .unset, .unset, .unset, .unset, .unset, .unset, .unset, .unset, .unset, .unset, .unset] [(.int p3), (.int ((own_i p1) + (1 : Int32)))])) (fun _ kst => XS.iloadN X38.here hx rfl (hb hby at_168) rfl kst) ?_
    refine oS (u' := T38.setTop (mkF m 171 #[.val (.int p1), .val (.int p2), .val (.int p3), .val (.int p4), .val (.int p5), .val (.int p6), .val (.ref b37), .val (.double (FP.i2d p2)), .second, .val (.int (own_i p1)), .unset, .unset, .unset, .unset, .unset, .unset, .unset, .unset, .unset, .unset, .unset, .unset, .unset, .unset, .unset] [(.int (2147483647 : Int32)), (.int p3), (.int ((own_i p1) + (1 : Int32)))])) (fun _ kst => X38.ldcInt hx hown (mvT hZ (hw _ (List.mem_of_getElem? (i := 9) rfl))) (g := (mkF m 169 #[.val (.int p1), .val (.int p2), .val (.int p3), .val (.int p4), .val (.int p5), .val (.int p6), .val (.ref b37), .val (.double (FP.i2d p2)), .second, .val (.int (own_i p1)), .unset, .unset, .unset, .unset, .unset, .unset, .unset, .unset, .unset, .unset, .unset, .unset, .unset, .unset, .unset] [(.int p3), (.int ((own_i p1) + (1 : Int32)))])) rfl (hb hby at_169) _ kst) ?_
    refine oS (u' := T38.setTop (mkF m 172 #[.val (.int p1), .val (.int p2), .val (.int p3), .val (.int p4), .val (.int p5), .val (.int p6), .val (.ref b37), .val (.double (FP.i2d p2)), .second, .val (.int (own_i p1)), .unset, .unset, .unset, .unset, .unset, .unset, .unset, .unset, .unset, .unset, .unset, .unset, .unset, .unset, .unset] [(.int (p3 &&& (2147483647 : Int32))), (.int ((own_i p1) + (1 : Int32)))])) (fun _ kst => XS.iand X38.here hx rfl (hb hby at_171) rfl kst) ?_
    refine oS (u' := T38.setTop (mkF m 174 #[.val (.int p1), .val (.int p2), .val (.int p3), .val (.int p4), .val (.int p5), .val (.int p6), .val (.ref b37), .val (.double (FP.i2d p2)), .second, .val (.int (own_i p1)), .unset, .unset, .unset, .unset, .unset, .unset, .unset, .unset, .unset, .unset, .unset, .unset, .unset, .unset, .unset] [(.int (16 : Int32)), (.int (p3 &&& (2147483647 : Int32))), (.int ((own_i p1) + (1 : Int32)))])) (fun _ kst => XS.bipush X38.here hx rfl (hb hby at_172) kst) ?_
    refine oS (u' := T38.setTop (mkF m 176 #[.val (.int p1), .val (.int p2), .val (.int p3), .val (.int p4), .val (.int p5), .val (.int p6), .val (.ref b37), .val (.double (FP.i2d p2)), .second, .val (.int (own_i p1)), .unset, .unset, .unset, .unset, .unset, .unset, .unset, .unset, .unset, .unset, .unset, .unset, .unset, .unset, .unset] [(.int (own_i p1)), (.int (16 : Int32)), (.int (p3 &&& (2147483647 : Int32))), (.int ((own_i p1) + (1 : Int32)))])) (fun _ kst => XS.iload X38.here hx rfl (hb hby at_174) rfl kst) ?_
    refine oS (u' := T38.setTop (mkF m 177 #[.val (.int p1), .val (.int p2), .val (.int p3), .val (.int p4), .val (.int p5), .val (.int p6), .val (.ref b37), .val (.double (FP.i2d p2)), .second, .val (.int (own_i p1)), .unset, .unset, .unset, .unset, .unset, .unset, .unset, .unset, .unset, .unset, .unset, .unset, .unset, .unset, .unset] [(.int ((16 : Int32) - (own_i p1))), (.int (p3 &&& (2147483647 : Int32))), (.int ((own_i p1) + (1 : Int32)))])) (fun _ kst => XS.isub X38.here hx rfl (hb hby at_176) rfl kst) ?_
    refine oS (u' := T38.setTop (mkF m 178 #[.val (.int p1), .val (.int p2), .val (.int p3), .val (.int p4), .val (.int p5), .val (.int p6), .val (.ref b37), .val (.double (FP.i2d p2)), .second, .val (.int (own_i p1)), .unset, .unset, .unset, .unset, .unset, .unset, .unset, .unset, .unset, .unset, .unset, .unset, .unset, .unset, .unset] [(.int ((p3 &&& (2147483647 : Int32)) % ((16 : Int32) - (own_i p1)))), (.int ((own_i p1) + (1 : Int32)))])) (fun _ kst => iremM X38 hx rfl (hb hby at_177) rfl (own_16nz p1) kst) ?_
    refine oS (u' := T38.setTop (mkF m 179 #[.val (.int p1), .val (.int p2), .val (.int p3), .val (.int p4), .val (.int p5), .val (.int p6), .val (.ref b37), .val (.double (FP.i2d p2)), .second, .val (.int (own_i p1)), .unset, .unset, .unset, .unset, .unset, .unset, .unset, .unset, .unset, .unset, .unset, .unset, .unset, .unset, .unset] [(.int (own_j p1 p3))])) (fun _ kst => XS.iadd X38.here hx rfl (hb hby at_178) rfl kst) ?_
    refine oS (u' := T38.setTop (mkF m 181 #[.val (.int p1), .val (.int p2), .val (.int p3), .val (.int p4), .val (.int p5), .val (.int p6), .val (.ref b37), .val (.double (FP.i2d p2)), .second, .val (.int (own_i p1)), .val (.int (own_j p1 p3)), .unset, .unset, .unset, .unset, .unset, .unset, .unset, .unset, .unset, .unset, .unset, .unset, .unset, .unset] [])) (fun _ kst => XS.istore X38.here hx rfl (hb hby at_179) rfl (l' := #[.val (.int p1), .val (.int p2), .val (.int p3), .val (.int p4), .val (.int p5), .val (.int p6), .val (.ref b37), .val (.double (FP.i2d p2)), .second, .val (.int (own_i p1)), .val (.int (own_j p1 p3)), .unset, .unset, .unset, .unset, .unset, .unset, .unset, .unset, .unset, .unset, .unset, .unset, .unset, .unset]) rfl kst) ?_
    refine oS (u' := T38.setTop (mkF m 183 #[.val (.int p1), .val (.int p2), .val (.int p3), .val (.int p4), .val (.int p5), .val (.int p6), .val (.ref b37), .val (.double (FP.i2d p2)), .second, .val (.int (own_i p1)), .val (.int (own_j p1 p3)), .unset, .unset, .unset, .unset, .unset, .unset, .unset, .unset, .unset, .unset, .unset, .unset, .unset, .unset] [(.int (own_i p1))])) (fun _ kst => XS.iload X38.here hx rfl (hb hby at_181) rfl kst) ?_
    refine oS (u' := T38.setTop (mkF m 184 #[.val (.int p1), .val (.int p2), .val (.int p3), .val (.int p4), .val (.int p5), .val (.int p6), .val (.ref b37), .val (.double (FP.i2d p2)), .second, .val (.int (own_i p1)), .val (.int (own_j p1 p3)), .unset, .unset, .unset, .unset, .unset, .unset, .unset, .unset, .unset, .unset, .unset, .unset, .unset, .unset] [(.double (FP.i2d (own_i p1)))])) (fun _ kst => XS.i2dS X38.here hx rfl (hb hby at_183) rfl rfl kst) ?_
    refine oS (u' := T38.setTop (mkF m 187 #[.val (.int p1), .val (.int p2), .val (.int p3), .val (.int p4), .val (.int p5), .val (.int p6), .val (.ref b37), .val (.double (FP.i2d p2)), .second, .val (.int (own_i p1)), .val (.int (own_j p1 p3)), .unset, .unset, .unset, .unset, .unset, .unset, .unset, .unset, .unset, .unset, .unset, .unset, .unset, .unset] [(.double (4625196817309499392 : UInt64)), (.double (FP.i2d (own_i p1)))])) (fun _ kst => X38.ldc2DoubleC hx hown (mvT hZ (hw _ (List.mem_of_getElem? (i := 10) rfl))) (g := (mkF m 184 #[.val (.int p1), .val (.int p2), .val (.int p3), .val (.int p4), .val (.int p5), .val (.int p6), .val (.ref b37), .val (.double (FP.i2d p2)), .second, .val (.int (own_i p1)), .val (.int (own_j p1 p3)), .unset, .unset, .unset, .unset, .unset, .unset, .unset, .unset, .unset, .unset, .unset, .unset, .unset, .unset] [(.double (FP.i2d (own_i p1)))])) rfl (hb hby at_184) _ kst) ?_
    refine oS (u' := T38.setTop (mkF m 188 #[.val (.int p1), .val (.int p2), .val (.int p3), .val (.int p4), .val (.int p5), .val (.int p6), .val (.ref b37), .val (.double (FP.i2d p2)), .second, .val (.int (own_i p1)), .val (.int (own_j p1 p3)), .unset, .unset, .unset, .unset, .unset, .unset, .unset, .unset, .unset, .unset, .unset, .unset, .unset, .unset] [(.double (own_lo p1))])) (fun _ kst => XS.ddivS X38.here hx rfl (hb hby at_187) rfl (own_V_no (own_lo_V p1)) rfl kst) ?_
    refine oS (u' := T38.setTop (mkF m 190 #[.val (.int p1), .val (.int p2), .val (.int p3), .val (.int p4), .val (.int p5), .val (.int p6), .val (.ref b37), .val (.double (FP.i2d p2)), .second, .val (.int (own_i p1)), .val (.int (own_j p1 p3)), .val (.double (own_lo p1)), .second, .unset, .unset, .unset, .unset, .unset, .unset, .unset, .unset, .unset, .unset, .unset, .unset] [])) (fun _ kst => XS.dstore X38.here hx rfl (hb hby at_188) rfl (l' := #[.val (.int p1), .val (.int p2), .val (.int p3), .val (.int p4), .val (.int p5), .val (.int p6), .val (.ref b37), .val (.double (FP.i2d p2)), .second, .val (.int (own_i p1)), .val (.int (own_j p1 p3)), .val (.double (own_lo p1)), .second, .unset, .unset, .unset, .unset, .unset, .unset, .unset, .unset, .unset, .unset, .unset, .unset]) rfl kst) ?_
    refine oS (u' := T38.setTop (mkF m 192 #[.val (.int p1), .val (.int p2), .val (.int p3), .val (.int p4), .val (.int p5), .val (.int p6), .val (.ref b37), .val (.double (FP.i2d p2)), .second, .val (.int (own_i p1)), .val (.int (own_j p1 p3)), .val (.double (own_lo p1)), .second, .unset, .unset, .unset, .unset, .unset, .unset, .unset, .unset, .unset, .unset, .unset, .unset] [(.int (own_j p1 p3))])) (fun _ kst => XS.iload X38.here hx rfl (hb hby at_190) rfl kst) ?_
    refine oS (u' := T38.setTop (mkF m 193 #[.val (.int p1), .val (.int p2), .val (.int p3), .val (.int p4), .val (.int p5), .val (.int p6), .val (.ref b37), .val (.double (FP.i2d p2)), .second, .val (.int (own_i p1)), .val (.int (own_j p1 p3)), .val (.double (own_lo p1)), .second, .unset, .unset, .unset, .unset, .unset, .unset, .unset, .unset, .unset, .unset, .unset, .unset] [(.double (FP.i2d (own_j p1 p3)))])) (fun _ kst => XS.i2dS X38.here hx rfl (hb hby at_192) rfl rfl kst) ?_
    refine oS (u' := T38.setTop (mkF m 196 #[.val (.int p1), .val (.int p2), .val (.int p3), .val (.int p4), .val (.int p5), .val (.int p6), .val (.ref b37), .val (.double (FP.i2d p2)), .second, .val (.int (own_i p1)), .val (.int (own_j p1 p3)), .val (.double (own_lo p1)), .second, .unset, .unset, .unset, .unset, .unset, .unset, .unset, .unset, .unset, .unset, .unset, .unset] [(.double (4625196817309499392 : UInt64)), (.double (FP.i2d (own_j p1 p3)))])) (fun _ kst => X38.ldc2DoubleC hx hown (mvT hZ (hw _ (List.mem_of_getElem? (i := 10) rfl))) (g := (mkF m 193 #[.val (.int p1), .val (.int p2), .val (.int p3), .val (.int p4), .val (.int p5), .val (.int p6), .val (.ref b37), .val (.double (FP.i2d p2)), .second, .val (.int (own_i p1)), .val (.int (own_j p1 p3)), .val (.double (own_lo p1)), .second, .unset, .unset, .unset, .unset, .unset, .unset, .unset, .unset, .unset, .unset, .unset, .unset] [(.double (FP.i2d (own_j p1 p3)))])) rfl (hb hby at_193) _ kst) ?_
    refine oS (u' := T38.setTop (mkF m 197 #[.val (.int p1), .val (.int p2), .val (.int p3), .val (.int p4), .val (.int p5), .val (.int p6), .val (.ref b37), .val (.double (FP.i2d p2)), .second, .val (.int (own_i p1)), .val (.int (own_j p1 p3)), .val (.double (own_lo p1)), .second, .unset, .unset, .unset, .unset, .unset, .unset, .unset, .unset, .unset, .unset, .unset, .unset] [(.double (own_hi p1 p3))])) (fun _ kst => XS.ddivS X38.here hx rfl (hb hby at_196) rfl (own_V_no (own_hi_V p1 p3)) rfl kst) ?_
    refine oS (u' := T38.setTop (mkF m 199 #[.val (.int p1), .val (.int p2), .val (.int p3), .val (.int p4), .val (.int p5), .val (.int p6), .val (.ref b37), .val (.double (FP.i2d p2)), .second, .val (.int (own_i p1)), .val (.int (own_j p1 p3)), .val (.double (own_lo p1)), .second, .val (.double (own_hi p1 p3)), .second, .unset, .unset, .unset, .unset, .unset, .unset, .unset, .unset, .unset, .unset] [])) (fun _ kst => XS.dstore X38.here hx rfl (hb hby at_197) rfl (l' := #[.val (.int p1), .val (.int p2), .val (.int p3), .val (.int p4), .val (.int p5), .val (.int p6), .val (.ref b37), .val (.double (FP.i2d p2)), .second, .val (.int (own_i p1)), .val (.int (own_j p1 p3)), .val (.double (own_lo p1)), .second, .val (.double (own_hi p1 p3)), .second, .unset, .unset, .unset, .unset, .unset, .unset, .unset, .unset, .unset, .unset]) rfl kst) ?_
    refine oS (u' := T38.setTop (mkF m 201 #[.val (.int p1), .val (.int p2), .val (.int p3), .val (.int p4), .val (.int p5), .val (.int p6), .val (.ref b37), .val (.double (FP.i2d p2)), .second, .val (.int (own_i p1)), .val (.int (own_j p1 p3)), .val (.double (own_lo p1)), .second, .val (.double (own_hi p1 p3)), .second, .unset, .unset, .unset, .unset, .unset, .unset, .unset, .unset, .unset, .unset] [(.int p6)])) (fun _ kst => XS.iload X38.here hx rfl (hb hby at_199) rfl kst) ?_
    refine oS (u' := T38.setTop (mkF m 202 #[.val (.int p1), .val (.int p2), .val (.int p3), .val (.int p4), .val (.int p5), .val (.int p6), .val (.ref b37), .val (.double (FP.i2d p2)), .second, .val (.int (own_i p1)), .val (.int (own_j p1 p3)), .val (.double (own_lo p1)), .second, .val (.double (own_hi p1 p3)), .second, .unset, .unset, .unset, .unset, .unset, .unset, .unset, .unset, .unset, .unset] [(.int (2 : Int32)), (.int p6)])) (fun _ kst => XS.iconst X38.here hx rfl (hb hby at_201) kst) ?_
    refine oS (u' := T38.setTop (mkF m 203 #[.val (.int p1), .val (.int p2), .val (.int p3), .val (.int p4), .val (.int p5), .val (.int p6), .val (.ref b37), .val (.double (FP.i2d p2)), .second, .val (.int (own_i p1)), .val (.int (own_j p1 p3)), .val (.double (own_lo p1)), .second, .val (.double (own_hi p1 p3)), .second, .unset, .unset, .unset, .unset, .unset, .unset, .unset, .unset, .unset, .unset] [(.int (p6 &&& (2 : Int32)))])) (fun _ kst => XS.iand X38.here hx rfl (hb hby at_202) rfl kst) ?_
    have km53 : ∀ tgt, Steps p.tables e below (T38.setTop (mkF m 213 #[.val (.int p1), .val (.int p2), .val (.int p3), .val (.int p4), .val (.int p5), .val (.int p6), .val (.ref b37), .val (.double (FP.i2d p2)), .second, .val (.int (own_i p1)), .val (.int (own_j p1 p3)), .val (.double (own_lo p1)), .second, .val (.double (own_hi p1 p3)), .second, .unset, .unset, .unset, .unset, .unset, .unset, .unset, .unset, .unset, .unset] [(.double (if (p6 &&& (2 : Int32)) = (0 : Int32) then (own_lo p1) else (own_hi p1 p3)))])) tgt → Steps p.tables e below (T38.setTop (mkF m 203 #[.val (.int p1), .val (.int p2), .val (.int p3), .val (.int p4), .val (.int p5), .val (.int p6), .val (.ref b37), .val (.double (FP.i2d p2)), .second, .val (.int (own_i p1)), .val (.int (own_j p1 p3)), .val (.double (own_lo p1)), .second, .val (.double (own_hi p1 p3)), .second, .unset, .unset, .unset, .unset, .unset, .unset, .unset, .unset, .unset, .unset] [(.int (p6 &&& (2 : Int32)))])) tgt := by
      intro tgt kst
      by_cases hc52 : (p6 &&& (2 : Int32)) = (0 : Int32)
      · rw [show (if (p6 &&& (2 : Int32)) = (0 : Int32) then (own_lo p1) else (own_hi p1 p3)) = (own_lo p1) from if_pos hc52] at kst
        refine XS.ifNo X38.here hx rfl (hb hby at_203) rfl ((if0 _ _).trans (teq hc52).2) ?_
        show Steps p.tables e below (T38.setTop (mkF m 206 #[.val (.int p1), .val (.int p2), .val (.int p3), .val (.int p4), .val (.int p5), .val (.int p6), .val (.ref b37), .val (.double (FP.i2d p2)), .second, .val (.int (own_i p1)), .val (.int (own_j p1 p3)), .val (.double (own_lo p1)), .second, .val (.double (own_hi p1 p3)), .second, .unset, .unset, .unset, .unset, .unset, .unset, .unset, .unset, .unset, .unset] [])) _
        refine XS.dload X38.here hx rfl (hb hby at_206) rfl ?_
        show Steps p.tables e below (T38.setTop (mkF m 208 #[.val (.int p1), .val (.int p2), .val (.int p3), .val (.int p4), .val (.int p5), .val (.int p6), .val (.ref b37), .val (.double (FP.i2d p2)), .second, .val (.int (own_i p1)), .val (.int (own_j p1 p3)), .val (.double (own_lo p1)), .second, .val (.double (own_hi p1 p3)), .second, .unset, .unset, .unset, .unset, .unset, .unset, .unset, .unset, .unset, .unset] [(.double (own_lo p1))])) _
        refine XS.goto X38.here hx rfl (pc0 := 208) (pc' := 213) rfl (hb hby at_208) (by decide) (by decide) ?_
        show Steps p.tables e below (T38.setTop (mkF m 213 #[.val (.int p1), .val (.int p2), .val (.int p3), .val (.int p4), .val (.int p5), .val (.int p6), .val (.ref b37), .val (.double (FP.i2d p2)), .second, .val (.int (own_i p1)), .val (.int (own_j p1 p3)), .val (.double (own_lo p1)), .second, .val (.double (own_hi p1 p3)), .second, .unset, .unset, .unset, .unset, .unset, .unset, .unset, .unset, .unset, .unset] [(.double (own_lo p1))])) _
        exact kst
      · rw [show (if (p6 &&& (2 : Int32)) = (0 : Int32) then (own_lo p1) else (own_hi p1 p3)) = (own_hi p1 p3) from if_neg hc52] at kst
        refine XS.ifYes X38.here hx rfl (pc0 := 203) (pc' := 211) rfl (hb hby at_203) rfl ((if0 _ _).trans (feq hc52).2) (by decide) (by decide) ?_
        show Steps p.tables e below (T38.setTop (mkF m 211 #[.val (.int p1), .val (.int p2), .val (.int p3), .val (.int p4), .val (.int p5), .val (.int p6), .val (.ref b37), .val (.double (FP.i2d p2)), .second, .val (.int (own_i p1)), .val (.int (own_j p1 p3)), .val (.double (own_lo p1)), .second, .val (.double (own_hi p1 p3)), .second, .unset, .unset, .unset, .unset, .unset, .unset, .unset, .unset, .unset, .unset] [])) _
        refine XS.dload X38.here hx rfl (hb hby at_211) rfl ?_
        show Steps p.tables e below (T38.setTop (mkF m 213 #[.val (.int p1), .val (.int p2), .val (.int p3), .val (.int p4), .val (.int p5), .val (.int p6), .val (.ref b37), .val (.double (FP.i2d p2)), .second, .val (.int (own_i p1)), .val (.int (own_j p1 p3)), .val (.double (own_lo p1)), .second, .val (.double (own_hi p1 p3)), .second, .unset, .unset, .unset, .unset, .unset, .unset, .unset, .unset, .unset, .unset] [(.double (own_hi p1 p3))])) _
        exact kst
    refine oS (u' := T38.setTop (mkF m 213 #[.val (.int p1), .val (.int p2), .val (.int p3), .val (.int p4), .val (.int p5), .val (.int p6), .val (.ref b37), .val (.double (FP.i2d p2)), .second, .val (.int (own_i p1)), .val (.int (own_j p1 p3)), .val (.double (own_lo p1)), .second, .val (.double (own_hi p1 p3)), .second, .unset, .unset, .unset, .unset, .unset, .unset, .unset, .unset, .unset, .unset] [(.double (own_c1 p1 p3 p6))])) km53 ?_
    refine oS (u' := T38.setTop (mkF m 215 #[.val (.int p1), .val (.int p2), .val (.int p3), .val (.int p4), .val (.int p5), .val (.int p6), .val (.ref b37), .val (.double (FP.i2d p2)), .second, .val (.int (own_i p1)), .val (.int (own_j p1 p3)), .val (.double (own_lo p1)), .second, .val (.double (own_hi p1 p3)), .second, .val (.double (own_c1 p1 p3 p6)), .second, .unset, .unset, .unset, .unset, .unset, .unset, .unset, .unset] [])) (fun _ kst => XS.dstore X38.here hx rfl (hb hby at_213) rfl (l' := #[.val (.int p1), .val (.int p2), .val (.int p3), .val (.int p4), .val (.int p5), .val (.int p6), .val (.ref b37), .val (.double (FP.i2d p2)), .second, .val (.int (own_i p1)), .val (.int (own_j p1 p3)), .val (.double (own_lo p1)), .second, .val (.double (own_hi p1 p3)), .second, .val (.double (own_c1 p1 p3 p6)), .second, .unset, .unset, .unset, .unset, .unset, .unset, .unset, .unset]) rfl kst) ?_
    refine oS (u' := T38.setTop (mkF m 217 #[.val (.int p1), .val (.int p2), .val (.int p3), .val (.int p4), .val (.int p5), .val (.int p6), .val (.ref b37), .val (.double (FP.i2d p2)), .second, .val (.int (own_i p1)), .val (.int (own_j p1 p3)), .val (.double (own_lo p1)), .second, .val (.double (own_hi p1 p3)), .second, .val (.double (own_c1 p1 p3 p6)), .second, .unset, .unset, .unset, .unset, .unset, .unset, .unset, .unset] [(.int p6)])) (fun _ kst => XS.iload X38.here hx rfl (hb hby at_215) rfl kst) ?_
    refine oS (u' := T38.setTop (mkF m 218 #[.val (.int p1), .val (.int p2), .val (.int p3), .val (.int p4), .val (.int p5), .val (.int p6), .val (.ref b37), .val (.double (FP.i2d p2)), .second, .val (.int (own_i p1)), .val (.int (own_j p1 p3)), .val (.double (own_lo p1)), .second, .val (.double (own_hi p1 p3)), .second, .val (.double (own_c1 p1 p3 p6)), .second, .unset, .unset, .unset, .unset, .unset, .unset, .unset, .unset] [(.int (2 : Int32)), (.int p6)])) (fun _ kst => XS.iconst X38.here hx rfl (hb hby at_217) kst) ?_
    refine oS (u' := T38.setTop (mkF m 219 #[.val (.int p1), .val (.int p2), .val (.int p3), .val (.int p4), .val (.int p5), .val (.int p6), .val (.ref b37), .val (.double (FP.i2d p2)), .second, .val (.int (own_i p1)), .val (.int (own_j p1 p3)), .val (.double (own_lo p1)), .second, .val (.double (own_hi p1 p3)), .second, .val (.double (own_c1 p1 p3 p6)), .second, .unset, .unset, .unset, .unset, .unset, .unset, .unset, .unset] [(.int (p6 &&& (2 : Int32)))])) (fun _ kst => XS.iand X38.here hx rfl (hb hby at_218) rfl kst) ?_
    have km55 : ∀ tgt, Steps p.tables e below (T38.setTop (mkF m 229 #[.val (.int p1), .val (.int p2), .val (.int p3), .val (.int p4), .val (.int p5), .val (.int p6), .val (.ref b37), .val (.double (FP.i2d p2)), .second, .val (.int (own_i p1)), .val (.int (own_j p1 p3)), .val (.double (own_lo p1)), .second, .val (.double (own_hi p1 p3)), .second, .val (.double (own_c1 p1 p3 p6)), .second, .unset, .unset, .unset, .unset, .unset, .unset, .unset, .unset] [(.double (if (p6 &&& (2 : Int32)) = (0 : Int32) then (own_hi p1 p3) else (own_lo p1)))])) tgt → Steps p.tables e below (T38.setTop (mkF m 219 #[.val (.int p1), .val (.int p2), .val (.int p3), .val (.int p4), .val (.int p5), .val (.int p6), .val (.ref b37), .val (.double (FP.i2d p2)), .second, .val (.int (own_i p1)), .val (.int (own_j p1 p3)), .val (.double (own_lo p1)), .second, .val (.double (own_hi p1 p3)), .second, .val (.double (own_c1 p1 p3 p6)), .second, .unset, .unset, .unset, .unset, .unset, .unset, .unset, .unset] [(.int (p6 &&& (2 : Int32)))])) tgt := by
      intro tgt kst
      by_cases hc54 : (p6 &&& (2 : Int32)) = (0 : Int32)
      · rw [show (if (p6 &&& (2 : Int32)) = (0 : Int32) then (own_hi p1 p3) else (own_lo p1)) = (own_hi p1 p3) from if_pos hc54] at kst
        refine XS.ifNo X38.here hx rfl (hb hby at_219) rfl ((if0 _ _).trans (teq hc54).2) ?_
        show Steps p.tables e below (T38.setTop (mkF m 222 #[.val (.int p1), .val (.int p2), .val (.int p3), .val (.int p4), .val (.int p5), .val (.int p6), .val (.ref b37), .val (.double (FP.i2d p2)), .second, .val (.int (own_i p1)), .val (.int (own_j p1 p3)), .val (.double (own_lo p1)), .second, .val (.double (own_hi p1 p3)), .second, .val (.double (own_c1 p1 p3 p6)), .second, .unset, .unset, .unset, .unset, .unset, .unset, .unset, .unset] [])) _
        refine XS.dload X38.here hx rfl (hb hby at_222) rfl ?_
        show Steps p.tables e below (T38.setTop (mkF m 224 #[.val (.int p1), .val (.int p2), .val (.int p3), .val (.int p4), .val (.int p5), .val (.int p6), .val (.ref b37), .val (.double (FP.i2d p2)), .second, .val (.int (own_i p1)), .val (.int (own_j p1 p3)), .val (.double (own_lo p1)), .second, .val (.double (own_hi p1 p3)), .second, .val (.double (own_c1 p1 p3 p6)), .second, .unset, .unset, .unset, .unset, .unset, .unset, .unset, .unset] [(.double (own_hi p1 p3))])) _
        refine XS.goto X38.here hx rfl (pc0 := 224) (pc' := 229) rfl (hb hby at_224) (by decide) (by decide) ?_
        show Steps p.tables e below (T38.setTop (mkF m 229 #[.val (.int p1), .val (.int p2), .val (.int p3), .val (.int p4), .val (.int p5), .val (.int p6), .val (.ref b37), .val (.double (FP.i2d p2)), .second, .val (.int (own_i p1)), .val (.int (own_j p1 p3)), .val (.double (own_lo p1)), .second, .val (.double (own_hi p1 p3)), .second, .val (.double (own_c1 p1 p3 p6)), .second, .unset, .unset, .unset, .unset, .unset, .unset, .unset, .unset] [(.double (own_hi p1 p3))])) _
        exact kst
      · rw [show (if (p6 &&& (2 : Int32)) = (0 : Int32) then (own_hi p1 p3) else (own_lo p1)) = (own_lo p1) from if_neg hc54] at kst
        refine XS.ifYes X38.here hx rfl (pc0 := 219) (pc' := 227) rfl (hb hby at_219) rfl ((if0 _ _).trans (feq hc54).2) (by decide) (by decide) ?_
        show Steps p.tables e below (T38.setTop (mkF m 227 #[.val (.int p1), .val (.int p2), .val (.int p3), .val (.int p4), .val (.int p5), .val (.int p6), .val (.ref b37), .val (.double (FP.i2d p2)), .second, .val (.int (own_i p1)), .val (.int (own_j p1 p3)), .val (.double (own_lo p1)), .second, .val (.double (own_hi p1 p3)), .second, .val (.double (own_c1 p1 p3 p6)), .second, .unset, .unset, .unset, .unset, .unset, .unset, .unset, .unset] [])) _
        refine XS.dload X38.here hx rfl (hb hby at_227) rfl ?_
        show Steps p.tables e below (T38.setTop (mkF m 229 #[.val (.int p1), .val (.int p2), .val (.int p3), .val (.int p4), .val (.int p5), .val (.int p6), .val (.ref b37), .val (.double (FP.i2d p2)), .second, .val (.int (own_i p1)), .val (.int (own_j p1 p3)), .val (.double (own_lo p1)), .second, .val (.double (own_hi p1 p3)), .second, .val (.double (own_c1 p1 p3 p6)), .second, .unset, .unset, .unset, .unset, .unset, .unset, .unset, .unset] [(.double (own_lo p1))])) _
        exact kst
    refine oS (u' := T38.setTop (mkF m 229 #[.val (.int p1), .val (.int p2), .val (.int p3), .val (.int p4), .val (.int p5), .val (.int p6), .val (.ref b37), .val (.double (FP.i2d p2)), .second, .val (.int (own_i p1)), .val (.int (own_j p1 p3)), .val (.double (own_lo p1)), .second, .val (.double (own_hi p1 p3)), .second, .val (.double (own_c1 p1 p3 p6)), .second, .unset, .unset, .unset, .unset, .unset, .unset, .unset, .unset] [(.double (own_c2 p1 p3 p6))])) km55 ?_
    refine oS (u' := T38.setTop (mkF m 231 #[.val (.int p1), .val (.int p2), .val (.int p3), .val (.int p4), .val (.int p5), .val (.int p6), .val (.ref b37), .val (.double (FP.i2d p2)), .second, .val (.int (own_i p1)), .val (.int (own_j p1 p3)), .val (.double (own_lo p1)), .second, .val (.double (own_hi p1 p3)), .second, .val (.double (own_c1 p1 p3 p6)), .second, .val (.double (own_c2 p1 p3 p6)), .second, .unset, .unset, .unset, .unset, .unset, .unset] [])) (fun _ kst => XS.dstore X38.here hx rfl (hb hby at_229) rfl (l' := #[.val (.int p1), .val (.int p2), .val (.int p3), .val (.int p4), .val (.int p5), .val (.int p6), .val (.ref b37), .val (.double (FP.i2d p2)), .second, .val (.int (own_i p1)), .val (.int (own_j p1 p3)), .val (.double (own_lo p1)), .second, .val (.double (own_hi p1 p3)), .second, .val (.double (own_c1 p1 p3 p6)), .second, .val (.double (own_c2 p1 p3 p6)), .second, .unset, .unset, .unset, .unset, .unset, .unset]) rfl kst) ?_
    refine oS (u' := T38.setTop (mkF m 232 #[.val (.int p1), .val (.int p2), .val (.int p3), .val (.int p4), .val (.int p5), .val (.int p6), .val (.ref b37), .val (.double (FP.i2d p2)), .second, .val (.int (own_i p1)), .val (.int (own_j p1 p3)), .val (.double (own_lo p1)), .second, .val (.double (own_hi p1 p3)), .second, .val (.double (own_c1 p1 p3 p6)), .second, .val (.double (own_c2 p1 p3 p6)), .second, .unset, .unset, .unset, .unset, .unset, .unset] [(.int (1 : Int32))])) (fun _ kst => XS.iconst X38.here hx rfl (hb hby at_231) kst) ?_
    refine oS (u' := T38.setTop (mkF m 234 #[.val (.int p1), .val (.int p2), .val (.int p3), .val (.int p4), .val (.int p5), .val (.int p6), .val (.ref b37), .val (.double (FP.i2d p2)), .second, .val (.int (own_i p1)), .val (.int (own_j p1 p3)), .val (.double (own_lo p1)), .second, .val (.double (own_hi p1 p3)), .second, .val (.double (own_c1 p1 p3 p6)), .second, .val (.double (own_c2 p1 p3 p6)), .second, .unset, .unset, .unset, .unset, .unset, .unset] [(.int p5), (.int (1 : Int32))])) (fun _ kst => XS.iload X38.here hx rfl (hb hby at_232) rfl kst) ?_
    refine oS (u' := T38.setTop (mkF m 236 #[.val (.int p1), .val (.int p2), .val (.int p3), .val (.int p4), .val (.int p5), .val (.int p6), .val (.ref b37), .val (.double (FP.i2d p2)), .second, .val (.int (own_i p1)), .val (.int (own_j p1 p3)), .val (.double (own_lo p1)), .second, .val (.double (own_hi p1 p3)), .second, .val (.double (own_c1 p1 p3 p6)), .second, .val (.double (own_c2 p1 p3 p6)), .second, .unset, .unset, .unset, .unset, .unset, .unset] [(.int (15 : Int32)), (.int p5), (.int (1 : Int32))])) (fun _ kst => XS.bipush X38.here hx rfl (hb hby at_234) kst) ?_
    refine oS (u' := T38.setTop (mkF m 237 #[.val (.int p1), .val (.int p2), .val (.int p3), .val (.int p4), .val (.int p5), .val (.int p6), .val (.ref b37), .val (.double (FP.i2d p2)), .second, .val (.int (own_i p1)), .val (.int (own_j p1 p3)), .val (.double (own_lo p1)), .second, .val (.double (own_hi p1 p3)), .second, .val (.double (own_c1 p1 p3 p6)), .second, .val (.double (own_c2 p1 p3 p6)), .second, .unset, .unset, .unset, .unset, .unset, .unset] [(.int (p5 &&& (15 : Int32))), (.int (1 : Int32))])) (fun _ kst => XS.iand X38.here hx rfl (hb hby at_236) rfl kst) ?_
    refine oS (u' := T38.setTop (mkF m 238 #[.val (.int p1), .val (.int p2), .val (.int p3), .val (.int p4), .val (.int p5), .val (.int p6), .val (.ref b37), .val (.double (FP.i2d p2)), .second, .val (.int (own_i p1)), .val (.int (own_j p1 p3)), .val (.double (own_lo p1)), .second, .val (.double (own_hi p1 p3)), .second, .val (.double (own_c1 p1 p3 p6)), .second, .val (.double (own_c2 p1 p3 p6)), .second, .unset, .unset, .unset, .unset, .unset, .unset] [(.int ((1 : Int32) <<< ((p5 &&& (15 : Int32)) &&& 31)))])) (fun _ kst => XS.ishl X38.here hx rfl (hb hby at_237) rfl kst) ?_
    refine oS (u' := T38.setTop (mkF m 239 #[.val (.int p1), .val (.int p2), .val (.int p3), .val (.int p4), .val (.int p5), .val (.int p6), .val (.ref b37), .val (.double (FP.i2d p2)), .second, .val (.int (own_i p1)), .val (.int (own_j p1 p3)), .val (.double (own_lo p1)), .second, .val (.double (own_hi p1 p3)), .second, .val (.double (own_c1 p1 p3 p6)), .second, .val (.double (own_c2 p1 p3 p6)), .second, .unset, .unset, .unset, .unset, .unset, .unset] [(.double (FP.i2d ((1 : Int32) <<< ((p5 &&& (15 : Int32)) &&& 31))))])) (fun _ kst => XS.i2dS X38.here hx rfl (hb hby at_238) rfl rfl kst) ?_
    refine oS (u' := T38.setTop (mkF m 242 #[.val (.int p1), .val (.int p2), .val (.int p3), .val (.int p4), .val (.int p5), .val (.int p6), .val (.ref b37), .val (.double (FP.i2d p2)), .second, .val (.int (own_i p1)), .val (.int (own_j p1 p3)), .val (.double (own_lo p1)), .second, .val (.double (own_hi p1 p3)), .second, .val (.double (own_c1 p1 p3 p6)), .second, .val (.double (own_c2 p1 p3 p6)), .second, .unset, .unset, .unset, .unset, .unset, .unset] [(.double (4620693217682128896 : UInt64)), (.double (FP.i2d ((1 : Int32) <<< ((p5 &&& (15 : Int32)) &&& 31))))])) (fun _ kst => X38.ldc2DoubleC hx hown (mvT hZ (hw _ (List.mem_of_getElem? (i := 11) rfl))) (g := (mkF m 239 #[.val (.int p1), .val (.int p2), .val (.int p3), .val (.int p4), .val (.int p5), .val (.int p6), .val (.ref b37), .val (.double (FP.i2d p2)), .second, .val (.int (own_i p1)), .val (.int (own_j p1 p3)), .val (.double (own_lo p1)), .second, .val (.double (own_hi p1 p3)), .second, .val (.double (own_c1 p1 p3 p6)), .second, .val (.double (own_c2 p1 p3 p6)), .second, .unset, .unset, .unset, .unset, .unset, .unset] [(.double (FP.i2d ((1 : Int32) <<< ((p5 &&& (15 : Int32)) &&& 31))))])) rfl (hb hby at_239) _ kst) ?_
    refine oS (u' := T38.setTop (mkF m 243 #[.val (.int p1), .val (.int p2), .val (.int p3), .val (.int p4), .val (.int p5), .val (.int p6), .val (.ref b37), .val (.double (FP.i2d p2)), .second, .val (.int (own_i p1)), .val (.int (own_j p1 p3)), .val (.double (own_lo p1)), .second, .val (.double (own_hi p1 p3)), .second, .val (.double (own_c1 p1 p3 p6)), .second, .val (.double (own_c2 p1 p3 p6)), .second, .unset, .unset, .unset, .unset, .unset, .unset] [(.double (own_st p5))])) (fun _ kst => XS.ddivS X38.here hx rfl (hb hby at_242) rfl (own_V_no (own_st_V p5)) rfl kst) ?_
    refine oS (u' := T38.setTop (mkF m 245 #[.val (.int p1), .val (.int p2), .val (.int p3), .val (.int p4), .val (.int p5), .val (.int p6), .val (.ref b37), .val (.double (FP.i2d p2)), .second, .val (.int (own_i p1)), .val (.int (own_j p1 p3)), .val (.double (own_lo p1)), .second, .val (.double (own_hi p1 p3)), .second, .val (.double (own_c1 p1 p3 p6)), .second, .val (.double (own_c2 p1 p3 p6)), .second, .val (.double (own_st p5)), .second, .unset, .unset, .unset, .unset] [])) (fun _ kst => XS.dstore X38.here hx rfl (hb hby at_243) rfl (l' := #[.val (.int p1), .val (.int p2), .val (.int p3), .val (.int p4), .val (.int p5), .val (.int p6), .val (.ref b37), .val (.double (FP.i2d p2)), .second, .val (.int (own_i p1)), .val (.int (own_j p1 p3)), .val (.double (own_lo p1)), .second, .val (.double (own_hi p1 p3)), .second, .val (.double (own_c1 p1 p3 p6)), .second, .val (.double (own_c2 p1 p3 p6)), .second, .val (.double (own_st p5)), .second, .unset, .unset, .unset, .unset]) rfl kst) ?_
    refine oS (u' := T38.setTop (mkF m 247 #[.val (.int p1), .val (.int p2), .val (.int p3), .val (.int p4), .val (.int p5), .val (.int p6), .val (.ref b37), .val (.double (FP.i2d p2)), .second, .val (.int (own_i p1)), .val (.int (own_j p1 p3)), .val (.double (own_lo p1)), .second, .val (.double (own_hi p1 p3)), .second, .val (.double (own_c1 p1 p3 p6)), .second, .val (.double (own_c2 p1 p3 p6)), .second, .val (.double (own_st p5)), .second, .unset, .unset, .unset, .unset] [(.int p6)])) (fun _ kst => XS.iload X38.here hx rfl (hb hby at_245) rfl kst) ?_
    refine oS (u' := T38.setTop (mkF m 248 #[.val (.int p1), .val (.int p2), .val (.int p3), .val (.int p4), .val (.int p5), .val (.int p6), .val (.ref b37), .val (.double (FP.i2d p2)), .second, .val (.int (own_i p1)), .val (.int (own_j p1 p3)), .val (.double (own_lo p1)), .second, .val (.double (own_hi p1 p3)), .second, .val (.double (own_c1 p1 p3 p6)), .second, .val (.double (own_c2 p1 p3 p6)), .second, .val (.double (own_st p5)), .second, .unset, .unset, .unset, .unset] [(.int (4 : Int32)), (.int p6)])) (fun _ kst => XS.iconst X38.here hx rfl (hb hby at_247) kst) ?_
    refine oS (u' := T38.setTop (mkF m 249 #[.val (.int p1), .val (.int p2), .val (.int p3), .val (.int p4), .val (.int p5), .val (.int p6), .val (.ref b37), .val (.double (FP.i2d p2)), .second, .val (.int (own_i p1)), .val (.int (own_j p1 p3)), .val (.double (own_lo p1)), .second, .val (.double (own_hi p1 p3)), .second, .val (.double (own_c1 p1 p3 p6)), .second, .val (.double (own_c2 p1 p3 p6)), .second, .val (.double (own_st p5)), .second, .unset, .unset, .unset, .unset] [(.int (p6 &&& (4 : Int32)))])) (fun _ kst => XS.iand X38.here hx rfl (hb hby at_248) rfl kst) ?_
    have km57 : ∀ tgt, Steps p.tables e below (T38.setTop (mkF m 260 #[.val (.int p1), .val (.int p2), .val (.int p3), .val (.int p4), .val (.int p5), .val (.int p6), .val (.ref b37), .val (.double (FP.i2d p2)), .second, .val (.int (own_i p1)), .val (.int (own_j p1 p3)), .val (.double (own_lo p1)), .second, .val (.double (own_hi p1 p3)), .second, .val (.double (own_c1 p1 p3 p6)), .second, .val (.double (own_c2 p1 p3 p6)), .second, .val (.double (own_st p5)), .second, .unset, .unset, .unset, .unset] [(.double (if (p6 &&& (4 : Int32)) = (0 : Int32) then (own_st p5) else (FP.dneg (own_st p5))))])) tgt → Steps p.tables e below (T38.setTop (mkF m 249 #[.val (.int p1), .val (.int p2), .val (.int p3), .val (.int p4), .val (.int p5), .val (.int p6), .val (.ref b37), .val (.double (FP.i2d p2)), .second, .val (.int (own_i p1)), .val (.int (own_j p1 p3)), .val (.double (own_lo p1)), .second, .val (.double (own_hi p1 p3)), .second, .val (.double (own_c1 p1 p3 p6)), .second, .val (.double (own_c2 p1 p3 p6)), .second, .val (.double (own_st p5)), .second, .unset, .unset, .unset, .unset] [(.int (p6 &&& (4 : Int32)))])) tgt := by
      intro tgt kst
      by_cases hc56 : (p6 &&& (4 : Int32)) = (0 : Int32)
      · rw [show (if (p6 &&& (4 : Int32)) = (0 : Int32) then (own_st p5) else (FP.dneg (own_st p5))) = (own_st p5) from if_pos hc56] at kst
        refine XS.ifNo X38.here hx rfl (hb hby at_249) rfl ((if0 _ _).trans (teq hc56).2) ?_
        show Steps p.tables e below (T38.setTop (mkF m 252 #[.val (.int p1), .val (.int p2), .val (.int p3), .val (.int p4), .val (.int p5), .val (.int p6), .val (.ref b37), .val (.double (FP.i2d p2)), .second, .val (.int (own_i p1)), .val (.int (own_j p1 p3)), .val (.double (own_lo p1)), .second, .val (.double (own_hi p1 p3)), .second, .val (.double (own_c1 p1 p3 p6)), .second, .val (.double (own_c2 p1 p3 p6)), .second, .val (.double (own_st p5)), .second, .unset, .unset, .unset, .unset] [])) _
        refine XS.dload X38.here hx rfl (hb hby at_252) rfl ?_
        show Steps p.tables e below (T38.setTop (mkF m 254 #[.val (.int p1), .val (.int p2), .val (.int p3), .val (.int p4), .val (.int p5), .val (.int p6), .val (.ref b37), .val (.double (FP.i2d p2)), .second, .val (.int (own_i p1)), .val (.int (own_j p1 p3)), .val (.double (own_lo p1)), .second, .val (.double (own_hi p1 p3)), .second, .val (.double (own_c1 p1 p3 p6)), .second, .val (.double (own_c2 p1 p3 p6)), .second, .val (.double (own_st p5)), .second, .unset, .unset, .unset, .unset] [(.double (own_st p5))])) _
        refine XS.goto X38.here hx rfl (pc0 := 254) (pc' := 260) rfl (hb hby at_254) (by decide) (by decide) ?_
        show Steps p.tables e below (T38.setTop (mkF m 260 #[.val (.int p1), .val (.int p2), .val (.int p3), .val (.int p4), .val (.int p5), .val (.int p6), .val (.ref b37), .val (.double (FP.i2d p2)), .second, .val (.int (own_i p1)), .val (.int (own_j p1 p3)), .val (.double (own_lo p1)), .second, .val (.double (own_hi p1 p3)), .second, .val (.double (own_c1 p1 p3 p6)), .second, .val (.double (own_c2 p1 p3 p6)), .second, .val (.double (own_st p5)), .second, .unset, .unset, .unset, .unset] [(.double (own_st p5))])) _
        exact kst
      · rw [show (if (p6 &&& (4 : Int32)) = (0 : Int32) then (own_st p5) else (FP.dneg (own_st p5))) = (FP.dneg (own_st p5)) from if_neg hc56] at kst
        refine XS.ifYes X38.here hx rfl (pc0 := 249) (pc' := 257) rfl (hb hby at_249) rfl ((if0 _ _).trans (feq hc56).2) (by decide) (by decide) ?_
        show Steps p.tables e below (T38.setTop (mkF m 257 #[.val (.int p1), .val (.int p2), .val (.int p3), .val (.int p4), .val (.int p5), .val (.int p6), .val (.ref b37), .val (.double (FP.i2d p2)), .second, .val (.int (own_i p1)), .val (.int (own_j p1 p3)), .val (.double (own_lo p1)), .second, .val (.double (own_hi p1 p3)), .second, .val (.double (own_c1 p1 p3 p6)), .second, .val (.double (own_c2 p1 p3 p6)), .second, .val (.double (own_st p5)), .second, .unset, .unset, .unset, .unset] [])) _
        refine XS.dload X38.here hx rfl (hb hby at_257) rfl ?_
        show Steps p.tables e below (T38.setTop (mkF m 259 #[.val (.int p1), .val (.int p2), .val (.int p3), .val (.int p4), .val (.int p5), .val (.int p6), .val (.ref b37), .val (.double (FP.i2d p2)), .second, .val (.int (own_i p1)), .val (.int (own_j p1 p3)), .val (.double (own_lo p1)), .second, .val (.double (own_hi p1 p3)), .second, .val (.double (own_c1 p1 p3 p6)), .second, .val (.double (own_c2 p1 p3 p6)), .second, .val (.double (own_st p5)), .second, .unset, .unset, .unset, .unset] [(.double (own_st p5))])) _
        refine XS.dnegS X38.here hx rfl (hb hby at_259) rfl rfl ?_
        show Steps p.tables e below (T38.setTop (mkF m 260 #[.val (.int p1), .val (.int p2), .val (.int p3), .val (.int p4), .val (.int p5), .val (.int p6), .val (.ref b37), .val (.double (FP.i2d p2)), .second, .val (.int (own_i p1)), .val (.int (own_j p1 p3)), .val (.double (own_lo p1)), .second, .val (.double (own_hi p1 p3)), .second, .val (.double (own_c1 p1 p3 p6)), .second, .val (.double (own_c2 p1 p3 p6)), .second, .val (.double (own_st p5)), .second, .unset, .unset, .unset, .unset] [(.double (FP.dneg (own_st p5)))])) _
        exact kst
    refine oS (u' := T38.setTop (mkF m 260 #[.val (.int p1), .val (.int p2), .val (.int p3), .val (.int p4), .val (.int p5), .val (.int p6), .val (.ref b37), .val (.double (FP.i2d p2)), .second, .val (.int (own_i p1)), .val (.int (own_j p1 p3)), .val (.double (own_lo p1)), .second, .val (.double (own_hi p1 p3)), .second, .val (.double (own_c1 p1 p3 p6)), .second, .val (.double (own_c2 p1 p3 p6)), .second, .val (.double (own_st p5)), .second, .unset, .unset, .unset, .unset] [(.double (own_dT p5 p6))])) km57 ?_
    refine oS (u' := T38.setTop (mkF m 262 #[.val (.int p1), .val (.int p2), .val (.int p3), .val (.int p4), .val (.int p5), .val (.int p6), .val (.ref b37), .val (.double (FP.i2d p2)), .second, .val (.int (own_i p1)), .val (.int (own_j p1 p3)), .val (.double (own_lo p1)), .second, .val (.double (own_hi p1 p3)), .second, .val (.double (own_c1 p1 p3 p6)), .second, .val (.double (own_c2 p1 p3 p6)), .second, .val (.double (own_st p5)), .second, .val (.double (own_dT p5 p6)), .second, .unset, .unset] [])) (fun _ kst => XS.dstore X38.here hx rfl (hb hby at_260) rfl (l' := #[.val (.int p1), .val (.int p2), .val (.int p3), .val (.int p4), .val (.int p5), .val (.int p6), .val (.ref b37), .val (.double (FP.i2d p2)), .second, .val (.int (own_i p1)), .val (.int (own_j p1 p3)), .val (.double (own_lo p1)), .second, .val (.double (own_hi p1 p3)), .second, .val (.double (own_c1 p1 p3 p6)), .second, .val (.double (own_c2 p1 p3 p6)), .second, .val (.double (own_st p5)), .second, .val (.double (own_dT p5 p6)), .second, .unset, .unset]) rfl kst) ?_
    refine oS (u' := T38.setTop (mkF m 264 #[.val (.int p1), .val (.int p2), .val (.int p3), .val (.int p4), .val (.int p5), .val (.int p6), .val (.ref b37), .val (.double (FP.i2d p2)), .second, .val (.int (own_i p1)), .val (.int (own_j p1 p3)), .val (.double (own_lo p1)), .second, .val (.double (own_hi p1 p3)), .second, .val (.double (own_c1 p1 p3 p6)), .second, .val (.double (own_c2 p1 p3 p6)), .second, .val (.double (own_st p5)), .second, .val (.double (own_dT p5 p6)), .second, .unset, .unset] [(.double (FP.i2d p2))])) (fun _ kst => XS.dload X38.here hx rfl (hb hby at_262) rfl kst) ?_
    refine oS (u' := T38.setTop (mkF m 266 #[.val (.int p1), .val (.int p2), .val (.int p3), .val (.int p4), .val (.int p5), .val (.int p6), .val (.ref b37), .val (.double (FP.i2d p2)), .second, .val (.int (own_i p1)), .val (.int (own_j p1 p3)), .val (.double (own_lo p1)), .second, .val (.double (own_hi p1 p3)), .second, .val (.double (own_c1 p1 p3 p6)), .second, .val (.double (own_c2 p1 p3 p6)), .second, .val (.double (own_st p5)), .second, .val (.double (own_dT p5 p6)), .second, .unset, .unset] [(.double (own_dT p5 p6)), (.double (FP.i2d p2))])) (fun _ kst => XS.dload X38.here hx rfl (hb hby at_264) rfl kst) ?_
    refine oS (u' := T38.setTop (mkF m 267 #[.val (.int p1), .val (.int p2), .val (.int p3), .val (.int p4), .val (.int p5), .val (.int p6), .val (.ref b37), .val (.double (FP.i2d p2)), .second, .val (.int (own_i p1)), .val (.int (own_j p1 p3)), .val (.double (own_lo p1)), .second, .val (.double (own_hi p1 p3)), .second, .val (.double (own_c1 p1 p3 p6)), .second, .val (.double (own_c2 p1 p3 p6)), .second, .val (.double (own_st p5)), .second, .val (.double (own_dT p5 p6)), .second, .unset, .unset] [(.double (own_t2 p2 p5 p6))])) (fun _ kst => XS.daddS X38.here hx rfl (hb hby at_266) rfl (own_V_no (own_t2_V p2 p5 p6)) rfl kst) ?_
    refine oS (u' := T38.setTop (mkF m 269 #[.val (.int p1), .val (.int p2), .val (.int p3), .val (.int p4), .val (.int p5), .val (.int p6), .val (.ref b37), .val (.double (FP.i2d p2)), .second, .val (.int (own_i p1)), .val (.int (own_j p1 p3)), .val (.double (own_lo p1)), .second, .val (.double (own_hi p1 p3)), .second, .val (.double (own_c1 p1 p3 p6)), .second, .val (.double (own_c2 p1 p3 p6)), .second, .val (.double (own_st p5)), .second, .val (.double (own_dT p5 p6)), .second, .val (.double (own_t2 p2 p5 p6)), .second] [])) (fun _ kst => XS.dstore X38.here hx rfl (hb hby at_267) rfl (l' := #[.val (.int p1), .val (.int p2), .val (.int p3), .val (.int p4), .val (.int p5), .val (.int p6), .val (.ref b37), .val (.double (FP.i2d p2)), .second, .val (.int (own_i p1)), .val (.int (own_j p1 p3)), .val (.double (own_lo p1)), .second, .val (.double (own_hi p1 p3)), .second, .val (.double (own_c1 p1 p3 p6)), .second, .val (.double (own_c2 p1 p3 p6)), .second, .val (.double (own_st p5)), .second, .val (.double (own_dT p5 p6)), .second, .val (.double (own_t2 p2 p5 p6)), .second]) rfl kst) ?_
    refine oS (u' := T38.setTop (mkF m 271 #[.val (.int p1), .val (.int p2), .val (.int p3), .val (.int p4), .val (.int p5), .val (.int p6), .val (.ref b37), .val (.double (FP.i2d p2)), .second, .val (.int (own_i p1)), .val (.int (own_j p1 p3)), .val (.double (own_lo p1)), .second, .val (.double (own_hi p1 p3)), .second, .val (.double (own_c1 p1 p3 p6)), .second, .val (.double (own_c2 p1 p3 p6)), .second, .val (.double (own_st p5)), .second, .val (.double (own_dT p5 p6)), .second, .val (.double (own_t2 p2 p5 p6)), .second] [(.ref b37)])) (fun _ kst => XS.aload X38.here hx rfl (hb hby at_269) rfl rfl kst) ?_
    refine oS (u' := T38.setTop (mkF m 273 #[.val (.int p1), .val (.int p2), .val (.int p3), .val (.int p4), .val (.int p5), .val (.int p6), .val (.ref b37), .val (.double (FP.i2d p2)), .second, .val (.int (own_i p1)), .val (.int (own_j p1 p3)), .val (.double (own_lo p1)), .second, .val (.double (own_hi p1 p3)), .second, .val (.double (own_c1 p1 p3 p6)), .second, .val (.double (own_c2 p1 p3 p6)), .second, .val (.double (own_st p5)), .second, .val (.double (own_dT p5 p6)), .second, .val (.double (own_t2 p2 p5 p6)), .second] [(.double (own_c1 p1 p3 p6)), (.ref b37)])) (fun _ kst => XS.dload X38.here hx rfl (hb hby at_271) rfl kst) ?_
    refine oS (u' := T38.setTop (mkF m 275 #[.val (.int p1), .val (.int p2), .val (.int p3), .val (.int p4), .val (.int p5), .val (.int p6), .val (.ref b37), .val (.double (FP.i2d p2)), .second, .val (.int (own_i p1)), .val (.int (own_j p1 p3)), .val (.double (own_lo p1)), .second, .val (.double (own_hi p1 p3)), .second, .val (.double (own_c1 p1 p3 p6)), .second, .val (.double (own_c2 p1 p3 p6)), .second, .val (.double (own_st p5)), .second, .val (.double (own_dT p5 p6)), .second, .val (.double (own_t2 p2 p5 p6)), .second] [(.double (FP.i2d p2)), (.double (own_c1 p1 p3 p6)), (.ref b37)])) (fun _ kst => XS.dload X38.here hx rfl (hb hby at_273) rfl kst) ?_
    obtain ⟨v58, T58, L58, X58, hQ58, st58⟩ := own_callV X38 hx hZ (y := (⟨"com/example/waxwing/waxwing/policy/ThroughputLine", "add", "(DD)V"⟩ : MethodName)) (z := (⟨"com/example/waxwing/waxwing/policy/ThroughputLine", "add", "(DD)V"⟩ : MethodName)) hown (hw _ (List.mem_of_getElem? (i := 12) rfl)) (hw _ (List.mem_of_getElem? (i := 13) rfl)) (notFace_of_selects (args := #[]) (mvT hZ (hw _ (List.mem_of_getElem? (i := 15) rfl)))) (hw _ (List.mem_of_getElem? (i := 15) rfl)) (hw _ (List.mem_of_getElem? (i := 14) rfl)) (by decide) e38 A37 (W := 0) (own_rm_tladd l Z a0 hw b37 (own_c1 p1 p3 p6) (FP.i2d p2) (0 : Int64) (0 : UInt64) (0 : UInt64) (0 : UInt64) (0 : UInt64) (0 : Int32) h37 n0 Z37 A37 f37_F_samples f37_F_meanCpu f37_F_meanThroughput f37_F_throughputSquares f37_F_products f37_F_busy gb_b37 (own_b1 p1 p2 p3 p6).1 (Or.inl rfl)) (hw _ (List.mem_of_getElem? (i := 16) rfl)) (hw _ (List.mem_of_getElem? (i := 2) rfl)) (by decide) (by decide) (g := (mkF m 275 #[.val (.int p1), .val (.int p2), .val (.int p3), .val (.int p4), .val (.int p5), .val (.int p6), .val (.ref b37), .val (.double (FP.i2d p2)), .second, .val (.int (own_i p1)), .val (.int (own_j p1 p3)), .val (.double (own_lo p1)), .second, .val (.double (own_hi p1 p3)), .second, .val (.double (own_c1 p1 p3 p6)), .second, .val (.double (own_c2 p1 p3 p6)), .second, .val (.double (own_st p5)), .second, .val (.double (own_dT p5 p6)), .second, .val (.double (own_t2 p2 p5 p6)), .second] [(.double (FP.i2d p2)), (.double (own_c1 p1 p3 p6)), (.ref b37)])) rfl (by rw [hml]; rfl) (b := b37) (argsL := [(.double (own_c1 p1 p3 p6)), (.double (FP.i2d p2))]) (rest := []) (lenOf own_pd2 rfl) rfl (by show 2 * 0 + _ ≤ _; exact Nat.le_of_eq rfl) (hb hby at_275) (by decide) (by decide)
    obtain ⟨rfl, Nq58, Kq58, q58_0, q58_1, q58_2, q58_3, q58_4, q58_5⟩ := hQ58
    have f58_E_b37 := A37.keep Kq58
    have Z58 := Nat.le_trans Z37 Kq58.1
    have N58 := Fr.app N0 Nq58
    refine oS (u' := T58.setTop (mkF m 278 #[.val (.int p1), .val (.int p2), .val (.int p3), .val (.int p4), .val (.int p5), .val (.int p6), .val (.ref b37), .val (.double (FP.i2d p2)), .second, .val (.int (own_i p1)), .val (.int (own_j p1 p3)), .val (.double (own_lo p1)), .second, .val (.double (own_hi p1 p3)), .second, .val (.double (own_c1 p1 p3 p6)), .second, .val (.double (own_c2 p1 p3 p6)), .second, .val (.double (own_st p5)), .second, .val (.double (own_dT p5 p6)), .second, .val (.double (own_t2 p2 p5 p6)), .second] [])) st58 ?_
    refine oS (u' := T58.setTop (mkF m 280 #[.val (.int p1), .val (.int p2), .val (.int p3), .val (.int p4), .val (.int p5), .val (.int p6), .val (.ref b37), .val (.double (FP.i2d p2)), .second, .val (.int (own_i p1)), .val (.int (own_j p1 p3)), .val (.double (own_lo p1)), .second, .val (.double (own_hi p1 p3)), .second, .val (.double (own_c1 p1 p3 p6)), .second, .val (.double (own_c2 p1 p3 p6)), .second, .val (.double (own_st p5)), .second, .val (.double (own_dT p5 p6)), .second, .val (.double (own_t2 p2 p5 p6)), .second] [(.ref b37)])) (fun _ kst => XS.aload X58.here hx rfl (hb hby at_278) rfl rfl kst) ?_
    refine oS (u' := T58.setTop (mkF m 282 #[.val (.int p1), .val (.int p2), .val (.int p3), .val (.int p4), .val (.int p5), .val (.int p6), .val (.ref b37), .val (.double (FP.i2d p2)), .second, .val (.int (own_i p1)), .val (.int (own_j p1 p3)), .val (.double (own_lo p1)), .second, .val (.double (own_hi p1 p3)), .second, .val (.double (own_c1 p1 p3 p6)), .second, .val (.double (own_c2 p1 p3 p6)), .second, .val (.double (own_st p5)), .second, .val (.double (own_dT p5 p6)), .second, .val (.double (own_t2 p2 p5 p6)), .second] [(.double (own_c2 p1 p3 p6)), (.ref b37)])) (fun _ kst => XS.dload X58.here hx rfl (hb hby at_280) rfl kst) ?_
    refine oS (u' := T58.setTop (mkF m 284 #[.val (.int p1), .val (.int p2), .val (.int p3), .val (.int p4), .val (.int p5), .val (.int p6), .val (.ref b37), .val (.double (FP.i2d p2)), .second, .val (.int (own_i p1)), .val (.int (own_j p1 p3)), .val (.double (own_lo p1)), .second, .val (.double (own_hi p1 p3)), .second, .val (.double (own_c1 p1 p3 p6)), .second, .val (.double (own_c2 p1 p3 p6)), .second, .val (.double (own_st p5)), .second, .val (.double (own_dT p5 p6)), .second, .val (.double (own_t2 p2 p5 p6)), .second] [(.double (own_t2 p2 p5 p6)), (.double (own_c2 p1 p3 p6)), (.ref b37)])) (fun _ kst => XS.dload X58.here hx rfl (hb hby at_282) rfl kst) ?_
    obtain ⟨v59, T59, L59, X59, hQ59, st59⟩ := own_callV X58 hx hZ (y := (⟨"com/example/waxwing/waxwing/policy/ThroughputLine", "add", "(DD)V"⟩ : MethodName)) (z := (⟨"com/example/waxwing/waxwing/policy/ThroughputLine", "add", "(DD)V"⟩ : MethodName)) hown (hw _ (List.mem_of_getElem? (i := 12) rfl)) (hw _ (List.mem_of_getElem? (i := 13) rfl)) (notFace_of_selects (args := #[]) (mvT hZ (hw _ (List.mem_of_getElem? (i := 15) rfl)))) (hw _ (List.mem_of_getElem? (i := 15) rfl)) (hw _ (List.mem_of_getElem? (i := 14) rfl)) (by decide) rfl f58_E_b37 (W := 0) (own_rm_tladd l Z a0 hw b37 (own_c2 p1 p3 p6) (own_t2 p2 p5 p6) ((0 : Int64) + (1 : Int64)) (own_mu (own_c1 p1 p3 p6) (0 : Int64) (0 : UInt64)) (own_mu (FP.i2d p2) (0 : Int64) (0 : UInt64)) (own_sd (FP.i2d p2) (0 : Int64) (0 : UInt64) (0 : UInt64)) (own_pr (own_c1 p1 p3 p6) (FP.i2d p2) (0 : Int64) (0 : UInt64) (0 : UInt64) (0 : UInt64)) (own_bz (own_c1 p1 p3 p6) (0 : Int32)) T58.heap n0 Z58 f58_E_b37 q58_0 q58_1 q58_2 q58_3 q58_4 q58_5 gb_b37 (own_b2 p1 p2 p3 p5 p6).1 (own_bz01 (Or.inl rfl))) (hw _ (List.mem_of_getElem? (i := 16) rfl)) (hw _ (List.mem_of_getElem? (i := 2) rfl)) (by decide) (by decide) (g := (mkF m 284 #[.val (.int p1), .val (.int p2), .val (.int p3), .val (.int p4), .val (.int p5), .val (.int p6), .val (.ref b37), .val (.double (FP.i2d p2)), .second, .val (.int (own_i p1)), .val (.int (own_j p1 p3)), .val (.double (own_lo p1)), .second, .val (.double (own_hi p1 p3)), .second, .val (.double (own_c1 p1 p3 p6)), .second, .val (.double (own_c2 p1 p3 p6)), .second, .val (.double (own_st p5)), .second, .val (.double (own_dT p5 p6)), .second, .val (.double (own_t2 p2 p5 p6)), .second] [(.double (own_t2 p2 p5 p6)), (.double (own_c2 p1 p3 p6)), (.ref b37)])) rfl (by rw [hml]; rfl) (b := b37) (argsL := [(.double (own_c2 p1 p3 p6)), (.double (own_t2 p2 p5 p6))]) (rest := []) (lenOf own_pd2 rfl) rfl (by show 2 * 0 + _ ≤ _; exact Nat.le_of_eq rfl) (hb hby at_284) (by decide) (by decide)
    obtain ⟨rfl, Nq59, Kq59, q59_0, q59_1, q59_2, q59_3, q59_4, q59_5⟩ := hQ59
    have f59_E_b37 := f58_E_b37.keep Kq59
    have Z59 := Nat.le_trans Z58 Kq59.1
    have N59 := Fr.app N58 Nq59
    refine oS (u' := T59.setTop (mkF m 287 #[.val (.int p1), .val (.int p2), .val (.int p3), .val (.int p4), .val (.int p5), .val (.int p6), .val (.ref b37), .val (.double (FP.i2d p2)), .second, .val (.int (own_i p1)), .val (.int (own_j p1 p3)), .val (.double (own_lo p1)), .second, .val (.double (own_hi p1 p3)), .second, .val (.double (own_c1 p1 p3 p6)), .second, .val (.double (own_c2 p1 p3 p6)), .second, .val (.double (own_st p5)), .second, .val (.double (own_dT p5 p6)), .second, .val (.double (own_t2 p2 p5 p6)), .second] [])) st59 ?_
    refine oS (u' := T59.setTop (mkF m 289 #[.val (.int p1), .val (.int p2), .val (.int p3), .val (.int p4), .val (.int p5), .val (.int p6), .val (.ref b37), .val (.double (FP.i2d p2)), .second, .val (.int (own_i p1)), .val (.int (own_j p1 p3)), .val (.double (own_lo p1)), .second, .val (.double (own_hi p1 p3)), .second, .val (.double (own_c1 p1 p3 p6)), .second, .val (.double (own_c2 p1 p3 p6)), .second, .val (.double (own_st p5)), .second, .val (.double (own_dT p5 p6)), .second, .val (.double (own_t2 p2 p5 p6)), .second] [(.ref b37)])) (fun _ kst => XS.aload X59.here hx rfl (hb hby at_287) rfl rfl kst) ?_
    refine oS (u' := T59.setTop (mkF m 291 #[.val (.int p1), .val (.int p2), .val (.int p3), .val (.int p4), .val (.int p5), .val (.int p6), .val (.ref b37), .val (.double (FP.i2d p2)), .second, .val (.int (own_i p1)), .val (.int (own_j p1 p3)), .val (.double (own_lo p1)), .second, .val (.double (own_hi p1 p3)), .second, .val (.double (own_c1 p1 p3 p6)), .second, .val (.double (own_c2 p1 p3 p6)), .second, .val (.double (own_st p5)), .second, .val (.double (own_dT p5 p6)), .second, .val (.double (own_t2 p2 p5 p6)), .second] [(.double (own_c1 p1 p3 p6)), (.ref b37)])) (fun _ kst => XS.dload X59.here hx rfl (hb hby at_289) rfl kst) ?_
    refine oS (u' := T59.setTop (mkF m 292 #[.val (.int p1), .val (.int p2), .val (.int p3), .val (.int p4), .val (.int p5), .val (.int p6), .val (.ref b37), .val (.double (FP.i2d p2)), .second, .val (.int (own_i p1)), .val (.int (own_j p1 p3)), .val (.double (own_lo p1)), .second, .val (.double (own_hi p1 p3)), .second, .val (.double (own_c1 p1 p3 p6)), .second, .val (.double (own_c2 p1 p3 p6)), .second, .val (.double (own_st p5)), .second, .val (.double (own_dT p5 p6)), .second, .val (.double (own_t2 p2 p5 p6)), .second] [(.double FP.dconst0), (.double (own_c1 p1 p3 p6)), (.ref b37)])) (fun _ kst => XS.dconst0 X59.here hx rfl (hb hby at_291) rfl kst) ?_
    obtain ⟨T60, X60, e60, st60⟩ := own_callVP X59 hx hZ (y := (⟨"com/example/waxwing/waxwing/policy/ThroughputLine", "throughputAt", "(DD)D"⟩ : MethodName)) (z := (⟨"com/example/waxwing/waxwing/policy/ThroughputLine", "throughputAt", "(DD)D"⟩ : MethodName)) hown (hw _ (List.mem_of_getElem? (i := 29) rfl)) (hw _ (List.mem_of_getElem? (i := 30) rfl)) (notFace_of_selects (args := #[]) (mvT hZ (hw _ (List.mem_of_getElem? (i := 32) rfl)))) (hw _ (List.mem_of_getElem? (i := 32) rfl)) (hw _ (List.mem_of_getElem? (i := 31) rfl)) (by decide) rfl f59_E_b37 (W := 0) (own_rm_at l Z a0 hw b37 (own_c1 p1 p3 p6) FP.dconst0 (own_bz (own_c2 p1 p3 p6) (own_bz (own_c1 p1 p3 p6) (0 : Int32))) (own_mu (own_c2 p1 p3 p6) ((0 : Int64) + (1 : Int64)) (own_mu (own_c1 p1 p3 p6) (0 : Int64) (0 : UInt64))) (own_mu (own_t2 p2 p5 p6) ((0 : Int64) + (1 : Int64)) (own_mu (FP.i2d p2) (0 : Int64) (0 : UInt64))) (own_sd (own_t2 p2 p5 p6) ((0 : Int64) + (1 : Int64)) (own_mu (FP.i2d p2) (0 : Int64) (0 : UInt64)) (own_sd (FP.i2d p2) (0 : Int64) (0 : UInt64) (0 : UInt64))) (own_pr (own_c2 p1 p3 p6) (own_t2 p2 p5 p6) ((0 : Int64) + (1 : Int64)) (own_mu (own_c1 p1 p3 p6) (0 : Int64) (0 : UInt64)) (own_mu (FP.i2d p2) (0 : Int64) (0 : UInt64)) (own_pr (own_c1 p1 p3 p6) (FP.i2d p2) (0 : Int64) (0 : UInt64) (0 : UInt64) (0 : UInt64))) T59.heap q59_5 q59_1 q59_2 q59_3 q59_4 (own_g1 p1 p2 p3 p5 p6).1) (hw _ (List.mem_of_getElem? (i := 33) rfl)) (hw _ (List.mem_of_getElem? (i := 2) rfl)) (by decide) (by decide) (g := (mkF m 292 #[.val (.int p1), .val (.int p2), .val (.int p3), .val (.int p4), .val (.int p5), .val (.int p6), .val (.ref b37), .val (.double (FP.i2d p2)), .second, .val (.int (own_i p1)), .val (.int (own_j p1 p3)), .val (.double (own_lo p1)), .second, .val (.double (own_hi p1 p3)), .second, .val (.double (own_c1 p1 p3 p6)), .second, .val (.double (own_c2 p1 p3 p6)), .second, .val (.double (own_st p5)), .second, .val (.double (own_dT p5 p6)), .second, .val (.double (own_t2 p2 p5 p6)), .second] [(.double FP.dconst0), (.double (own_c1 p1 p3 p6)), (.ref b37)])) rfl (by rw [hml]; rfl) (b := b37) (argsL := [(.double (own_c1 p1 p3 p6)), (.double FP.dconst0)]) (rest := []) (lenOf own_pd3 rfl) rfl (by show 2 * 0 + _ ≤ _; exact Nat.le_of_eq rfl) (hb hby at_292) (by decide) (by decide)
    refine oS (u' := T60.setTop (mkF m 295 #[.val (.int p1), .val (.int p2), .val (.int p3), .val (.int p4), .val (.int p5), .val (.int p6), .val (.ref b37), .val (.double (FP.i2d p2)), .second, .val (.int (own_i p1)), .val (.int (own_j p1 p3)), .val (.double (own_lo p1)), .second, .val (.double (own_hi p1 p3)), .second, .val (.double (own_c1 p1 p3 p6)), .second, .val (.double (own_c2 p1 p3 p6)), .second, .val (.double (own_st p5)), .second, .val (.double (own_dT p5 p6)), .second, .val (.double (own_t2 p2 p5 p6)), .second] [(.double (own_at b37 (own_c1 p1 p3 p6) FP.dconst0 (own_bz (own_c2 p1 p3 p6) (own_bz (own_c1 p1 p3 p6) (0 : Int32))) (own_mu (own_c2 p1 p3 p6) ((0 : Int64) + (1 : Int64)) (own_mu (own_c1 p1 p3 p6) (0 : Int64) (0 : UInt64))) (own_mu (own_t2 p2 p5 p6) ((0 : Int64) + (1 : Int64)) (own_mu (FP.i2d p2) (0 : Int64) (0 : UInt64))) (own_sd (own_t2 p2 p5 p6) ((0 : Int64) + (1 : Int64)) (own_mu (FP.i2d p2) (0 : Int64) (0 : UInt64)) (own_sd (FP.i2d p2) (0 : Int64) (0 : UInt64) (0 : UInt64))) (own_pr (own_c2 p1 p3 p6) (own_t2 p2 p5 p6) ((0 : Int64) + (1 : Int64)) (own_mu (own_c1 p1 p3 p6) (0 : Int64) (0 : UInt64)) (own_mu (FP.i2d p2) (0 : Int64) (0 : UInt64)) (own_pr (own_c1 p1 p3 p6) (FP.i2d p2) (0 : Int64) (0 : UInt64) (0 : UInt64) (0 : UInt64)))))])) st60 ?_
    refine oS (u' := T60.setTop (mkF m 297 #[.val (.int p1), .val (.int p2), .val (.int p3), .val (.int p4), .val (.int p5), .val (.int p6), .val (.ref b37), .val (.double (FP.i2d p2)), .second, .val (.int (own_i p1)), .val (.int (own_j p1 p3)), .val (.double (own_lo p1)), .second, .val (.double (own_hi p1 p3)), .second, .val (.double (own_c1 p1 p3 p6)), .second, .val (.double (own_c2 p1 p3 p6)), .second, .val (.double (own_st p5)), .second, .val (.double (own_dT p5 p6)), .second, .val (.double (own_t2 p2 p5 p6)), .second] [(.double (FP.i2d p2)), (.double (own_at b37 (own_c1 p1 p3 p6) FP.dconst0 (own_bz (own_c2 p1 p3 p6) (own_bz (own_c1 p1 p3 p6) (0 : Int32))) (own_mu (own_c2 p1 p3 p6) ((0 : Int64) + (1 : Int64)) (own_mu (own_c1 p1 p3 p6) (0 : Int64) (0 : UInt64))) (own_mu (own_t2 p2 p5 p6) ((0 : Int64) + (1 : Int64)) (own_mu (FP.i2d p2) (0 : Int64) (0 : UInt64))) (own_sd (own_t2 p2 p5 p6) ((0 : Int64) + (1 : Int64)) (own_mu (FP.i2d p2) (0 : Int64) (0 : UInt64)) (own_sd (FP.i2d p2) (0 : Int64) (0 : UInt64) (0 : UInt64))) (own_pr (own_c2 p1 p3 p6) (own_t2 p2 p5 p6) ((0 : Int64) + (1 : Int64)) (own_mu (own_c1 p1 p3 p6) (0 : Int64) (0 : UInt64)) (own_mu (FP.i2d p2) (0 : Int64) (0 : UInt64)) (own_pr (own_c1 p1 p3 p6) (FP.i2d p2) (0 : Int64) (0 : UInt64) (0 : UInt64) (0 : UInt64)))))])) (fun _ kst => XS.dload X60.here hx rfl (hb hby at_295) rfl kst) ?_
    refine oS (u' := T60.setTop (mkF m 298 #[.val (.int p1), .val (.int p2), .val (.int p3), .val (.int p4), .val (.int p5), .val (.int p6), .val (.ref b37), .val (.double (FP.i2d p2)), .second, .val (.int (own_i p1)), .val (.int (own_j p1 p3)), .val (.double (own_lo p1)), .second, .val (.double (own_hi p1 p3)), .second, .val (.double (own_c1 p1 p3 p6)), .second, .val (.double (own_c2 p1 p3 p6)), .second, .val (.double (own_st p5)), .second, .val (.double (own_dT p5 p6)), .second, .val (.double (own_t2 p2 p5 p6)), .second] [(.int (0 : Int32))])) (fun _ kst => XS.dcmpS X60.here hx rfl (hb hby at_297) rfl (own_e1 ((own_g1 p1 p2 p3 p5 p6).2 _)) kst) ?_
    refine oS (u' := T60.setTop (mkF m 301 #[.val (.int p1), .val (.int p2), .val (.int p3), .val (.int p4), .val (.int p5), .val (.int p6), .val (.ref b37), .val (.double (FP.i2d p2)), .second, .val (.int (own_i p1)), .val (.int (own_j p1 p3)), .val (.double (own_lo p1)), .second, .val (.double (own_hi p1 p3)), .second, .val (.double (own_c1 p1 p3 p6)), .second, .val (.double (own_c2 p1 p3 p6)), .second, .val (.double (own_st p5)), .second, .val (.double (own_dT p5 p6)), .second, .val (.double (own_t2 p2 p5 p6)), .second] [])) (fun _ kst => XS.ifNo X60.here hx rfl (hb hby at_298) rfl ((if0 _ _).trans (teq rfl).2) kst) ?_
    refine oS (u' := T60.setTop (mkF m 303 #[.val (.int p1), .val (.int p2), .val (.int p3), .val (.int p4), .val (.int p5), .val (.int p6), .val (.ref b37), .val (.double (FP.i2d p2)), .second, .val (.int (own_i p1)), .val (.int (own_j p1 p3)), .val (.double (own_lo p1)), .second, .val (.double (own_hi p1 p3)), .second, .val (.double (own_c1 p1 p3 p6)), .second, .val (.double (own_c2 p1 p3 p6)), .second, .val (.double (own_st p5)), .second, .val (.double (own_dT p5 p6)), .second, .val (.double (own_t2 p2 p5 p6)), .second] [(.ref b37)])) (fun _ kst => XS.aload X60.here hx rfl (hb hby at_301) rfl rfl kst) ?_
    refine oS (u' := T60.setTop (mkF m 305 #[.val (.int p1), .val (.int p2), .val (.int p3), .val (.int p4), .val (.int p5), .val (.int p6), .val (.ref b37), .val (.double (FP.i2d p2)), .second, .val (.int (own_i p1)), .val (.int (own_j p1 p3)), .val (.double (own_lo p1)), .second, .val (.double (own_hi p1 p3)), .second, .val (.double (own_c1 p1 p3 p6)), .second, .val (.double (own_c2 p1 p3 p6)), .second, .val (.double (own_st p5)), .second, .val (.double (own_dT p5 p6)), .second, .val (.double (own_t2 p2 p5 p6)), .second] [(.double (own_c2 p1 p3 p6)), (.ref b37)])) (fun _ kst => XS.dload X60.here hx rfl (hb hby at_303) rfl kst) ?_
    refine oS (u' := T60.setTop (mkF m 306 #[.val (.int p1), .val (.int p2), .val (.int p3), .val (.int p4), .val (.int p5), .val (.int p6), .val (.ref b37), .val (.double (FP.i2d p2)), .second, .val (.int (own_i p1)), .val (.int (own_j p1 p3)), .val (.double (own_lo p1)), .second, .val (.double (own_hi p1 p3)), .second, .val (.double (own_c1 p1 p3 p6)), .second, .val (.double (own_c2 p1 p3 p6)), .second, .val (.double (own_st p5)), .second, .val (.double (own_dT p5 p6)), .second, .val (.double (own_t2 p2 p5 p6)), .second] [(.double FP.dconst0), (.double (own_c2 p1 p3 p6)), (.ref b37)])) (fun _ kst => XS.dconst0 X60.here hx rfl (hb hby at_305) rfl kst) ?_
    obtain ⟨T61, X61, e61, st61⟩ := own_callVP X60 hx hZ (y := (⟨"com/example/waxwing/waxwing/policy/ThroughputLine", "throughputAt", "(DD)D"⟩ : MethodName)) (z := (⟨"com/example/waxwing/waxwing/policy/ThroughputLine", "throughputAt", "(DD)D"⟩ : MethodName)) hown (hw _ (List.mem_of_getElem? (i := 29) rfl)) (hw _ (List.mem_of_getElem? (i := 30) rfl)) (notFace_of_selects (args := #[]) (mvT hZ (hw _ (List.mem_of_getElem? (i := 32) rfl)))) (hw _ (List.mem_of_getElem? (i := 32) rfl)) (hw _ (List.mem_of_getElem? (i := 31) rfl)) (by decide) e60 f59_E_b37 (W := 0) (own_rm_at l Z a0 hw b37 (own_c2 p1 p3 p6) FP.dconst0 (own_bz (own_c2 p1 p3 p6) (own_bz (own_c1 p1 p3 p6) (0 : Int32))) (own_mu (own_c2 p1 p3 p6) ((0 : Int64) + (1 : Int64)) (own_mu (own_c1 p1 p3 p6) (0 : Int64) (0 : UInt64))) (own_mu (own_t2 p2 p5 p6) ((0 : Int64) + (1 : Int64)) (own_mu (FP.i2d p2) (0 : Int64) (0 : UInt64))) (own_sd (own_t2 p2 p5 p6) ((0 : Int64) + (1 : Int64)) (own_mu (FP.i2d p2) (0 : Int64) (0 : UInt64)) (own_sd (FP.i2d p2) (0 : Int64) (0 : UInt64) (0 : UInt64))) (own_pr (own_c2 p1 p3 p6) (own_t2 p2 p5 p6) ((0 : Int64) + (1 : Int64)) (own_mu (own_c1 p1 p3 p6) (0 : Int64) (0 : UInt64)) (own_mu (FP.i2d p2) (0 : Int64) (0 : UInt64)) (own_pr (own_c1 p1 p3 p6) (FP.i2d p2) (0 : Int64) (0 : UInt64) (0 : UInt64) (0 : UInt64))) T59.heap q59_5 q59_1 q59_2 q59_3 q59_4 (own_g2 p1 p2 p3 p5 p6).1) (hw _ (List.mem_of_getElem? (i := 33) rfl)) (hw _ (List.mem_of_getElem? (i := 2) rfl)) (by decide) (by decide) (g := (mkF m 306 #[.val (.int p1), .val (.int p2), .val (.int p3), .val (.int p4), .val (.int p5), .val (.int p6), .val (.ref b37), .val (.double (FP.i2d p2)), .second, .val (.int (own_i p1)), .val (.int (own_j p1 p3)), .val (.double (own_lo p1)), .second, .val (.double (own_hi p1 p3)), .second, .val (.double (own_c1 p1 p3 p6)), .second, .val (.double (own_c2 p1 p3 p6)), .second, .val (.double (own_st p5)), .second, .val (.double (own_dT p5 p6)), .second, .val (.double (own_t2 p2 p5 p6)), .second] [(.double FP.dconst0), (.double (own_c2 p1 p3 p6)), (.ref b37)])) rfl (by rw [hml]; rfl) (b := b37) (argsL := [(.double (own_c2 p1 p3 p6)), (.double FP.dconst0)]) (rest := []) (lenOf own_pd3 rfl) rfl (by show 2 * 0 + _ ≤ _; exact Nat.le_of_eq rfl) (hb hby at_306) (by decide) (by decide)
    refine oS (u' := T61.setTop (mkF m 309 #[.val (.int p1), .val (.int p2), .val (.int p3), .val (.int p4), .val (.int p5), .val (.int p6), .val (.ref b37), .val (.double (FP.i2d p2)), .second, .val (.int (own_i p1)), .val (.int (own_j p1 p3)), .val (.double (own_lo p1)), .second, .val (.double (own_hi p1 p3)), .second, .val (.double (own_c1 p1 p3 p6)), .second, .val (.double (own_c2 p1 p3 p6)), .second, .val (.double (own_st p5)), .second, .val (.double (own_dT p5 p6)), .second, .val (.double (own_t2 p2 p5 p6)), .second] [(.double (own_at b37 (own_c2 p1 p3 p6) FP.dconst0 (own_bz (own_c2 p1 p3 p6) (own_bz (own_c1 p1 p3 p6) (0 : Int32))) (own_mu (own_c2 p1 p3 p6) ((0 : Int64) + (1 : Int64)) (own_mu (own_c1 p1 p3 p6) (0 : Int64) (0 : UInt64))) (own_mu (own_t2 p2 p5 p6) ((0 : Int64) + (1 : Int64)) (own_mu (FP.i2d p2) (0 : Int64) (0 : UInt64))) (own_sd (own_t2 p2 p5 p6) ((0 : Int64) + (1 : Int64)) (own_mu (FP.i2d p2) (0 : Int64) (0 : UInt64)) (own_sd (FP.i2d p2) (0 : Int64) (0 : UInt64) (0 : UInt64))) (own_pr (own_c2 p1 p3 p6) (own_t2 p2 p5 p6) ((0 : Int64) + (1 : Int64)) (own_mu (own_c1 p1 p3 p6) (0 : Int64) (0 : UInt64)) (own_mu (FP.i2d p2) (0 : Int64) (0 : UInt64)) (own_pr (own_c1 p1 p3 p6) (FP.i2d p2) (0 : Int64) (0 : UInt64) (0 : UInt64) (0 : UInt64)))))])) st61 ?_
    refine oS (u' := T61.setTop (mkF m 311 #[.val (.int p1), .val (.int p2), .val (.int p3), .val (.int p4), .val (.int p5), .val (.int p6), .val (.ref b37), .val (.double (FP.i2d p2)), .second, .val (.int (own_i p1)), .val (.int (own_j p1 p3)), .val (.double (own_lo p1)), .second, .val (.double (own_hi p1 p3)), .second, .val (.double (own_c1 p1 p3 p6)), .second, .val (.double (own_c2 p1 p3 p6)), .second, .val (.double (own_st p5)), .second, .val (.double (own_dT p5 p6)), .second, .val (.double (own_t2 p2 p5 p6)), .second] [(.double (own_t2 p2 p5 p6)), (.double (own_at b37 (own_c2 p1 p3 p6) FP.dconst0 (own_bz (own_c2 p1 p3 p6) (own_bz (own_c1 p1 p3 p6) (0 : Int32))) (own_mu (own_c2 p1 p3 p6) ((0 : Int64) + (1 : Int64)) (own_mu (own_c1 p1 p3 p6) (0 : Int64) (0 : UInt64))) (own_mu (own_t2 p2 p5 p6) ((0 : Int64) + (1 : Int64)) (own_mu (FP.i2d p2) (0 : Int64) (0 : UInt64))) (own_sd (own_t2 p2 p5 p6) ((0 : Int64) + (1 : Int64)) (own_mu (FP.i2d p2) (0 : Int64) (0 : UInt64)) (own_sd (FP.i2d p2) (0 : Int64) (0 : UInt64) (0 : UInt64))) (own_pr (own_c2 p1 p3 p6) (own_t2 p2 p5 p6) ((0 : Int64) + (1 : Int64)) (own_mu (own_c1 p1 p3 p6) (0 : Int64) (0 : UInt64)) (own_mu (FP.i2d p2) (0 : Int64) (0 : UInt64)) (own_pr (own_c1 p1 p3 p6) (FP.i2d p2) (0 : Int64) (0 : UInt64) (0 : UInt64) (0 : UInt64)))))])) (fun _ kst => XS.dload X61.here hx rfl (hb hby at_309) rfl kst) ?_
    refine oS (u' := T61.setTop (mkF m 312 #[.val (.int p1), .val (.int p2), .val (.int p3), .val (.int p4), .val (.int p5), .val (.int p6), .val (.ref b37), .val (.double (FP.i2d p2)), .second, .val (.int (own_i p1)), .val (.int (own_j p1 p3)), .val (.double (own_lo p1)), .second, .val (.double (own_hi p1 p3)), .second, .val (.double (own_c1 p1 p3 p6)), .second, .val (.double (own_c2 p1 p3 p6)), .second, .val (.double (own_st p5)), .second, .val (.double (own_dT p5 p6)), .second, .val (.double (own_t2 p2 p5 p6)), .second] [(.int (0 : Int32))])) (fun _ kst => XS.dcmpS X61.here hx rfl (hb hby at_311) rfl (own_e2 ((own_g2 p1 p2 p3 p5 p6).2 _)) kst) ?_
    refine oS (u' := T61.setTop (mkF m 315 #[.val (.int p1), .val (.int p2), .val (.int p3), .val (.int p4), .val (.int p5), .val (.int p6), .val (.ref b37), .val (.double (FP.i2d p2)), .second, .val (.int (own_i p1)), .val (.int (own_j p1 p3)), .val (.double (own_lo p1)), .second, .val (.double (own_hi p1 p3)), .second, .val (.double (own_c1 p1 p3 p6)), .second, .val (.double (own_c2 p1 p3 p6)), .second, .val (.double (own_st p5)), .second, .val (.double (own_dT p5 p6)), .second, .val (.double (own_t2 p2 p5 p6)), .second] [])) (fun _ kst => XS.ifNo X61.here hx rfl (hb hby at_312) rfl ((if0 _ _).trans (teq rfl).2) kst) ?_
    refine oS (u' := T61.setTop (mkF m 316 #[.val (.int p1), .val (.int p2), .val (.int p3), .val (.int p4), .val (.int p5), .val (.int p6), .val (.ref b37), .val (.double (FP.i2d p2)), .second, .val (.int (own_i p1)), .val (.int (own_j p1 p3)), .val (.double (own_lo p1)), .second, .val (.double (own_hi p1 p3)), .second, .val (.double (own_c1 p1 p3 p6)), .second, .val (.double (own_c2 p1 p3 p6)), .second, .val (.double (own_st p5)), .second, .val (.double (own_dT p5 p6)), .second, .val (.double (own_t2 p2 p5 p6)), .second] [(.int (1 : Int32))])) (fun _ kst => XS.iconst X61.here hx rfl (hb hby at_315) kst) ?_
    refine oS (u' := T61.setTop (mkF m 320 #[.val (.int p1), .val (.int p2), .val (.int p3), .val (.int p4), .val (.int p5), .val (.int p6), .val (.ref b37), .val (.double (FP.i2d p2)), .second, .val (.int (own_i p1)), .val (.int (own_j p1 p3)), .val (.double (own_lo p1)), .second, .val (.double (own_hi p1 p3)), .second, .val (.double (own_c1 p1 p3 p6)), .second, .val (.double (own_c2 p1 p3 p6)), .second, .val (.double (own_st p5)), .second, .val (.double (own_dT p5 p6)), .second, .val (.double (own_t2 p2 p5 p6)), .second] [(.int (1 : Int32))])) (fun _ kst => XS.goto X61.here hx rfl (pc0 := 316) (pc' := 320) rfl (hb hby at_316) (by decide) (by decide) kst) ?_
    refine own_retN X61 hx hlk (t := .boolean) hret (by simp) (hb hby at_320) ?_ (by decide) (by decide)
    exact ⟨rfl, N59⟩
set_option maxRecDepth 65536 in
set_option maxHeartbeats 40000000 in
theorem comes_1 {Post : Tables → Env → Array Value → State → Outcome → State → Prop} (hpost : ∀ tb e args s v u, (limb_1_1.after args s (.returned v) u = true ∧ limb_1_2.after args s (.returned v) u = true ∧ True) → FrameEnd s (.returned v) u (Jvm.fieldLocs frame_1_writes args s ++ Jvm.arrayLocs frame_1_arrays args s ++ Jvm.staticLocs frame_1_statics s) 16 128 → Post tb e args s (.returned v) u) :
    ArmFor flags0 classFile x code maxLocals ret World_1 tables_1 room_1 Calls_1 rest_1 Pre_1 Post := by
  intro l hfl _ _ p e ha hc hk s m args below hf hA hF happ hP
  obtain ⟨hcalls, hrest, hpre⟩ := hP
  obtain ⟨-, -, -, hnamed, -, -, -, hat⟩ := (Spec.applies_iff hf).mp happ
  obtain ⟨hg, hn⟩ := and_e (Cond.before_iff.mp (show (Jvm.Cond.and given_1 narrow_1).before args s = true from hpre))
  obtain ⟨g0, gg0⟩ := and_e hg
  obtain ⟨g1, gg1⟩ := and_e gg0
  obtain ⟨g2, gg2⟩ := and_e gg1
  obtain ⟨g3, gg3⟩ := and_e gg2
  obtain ⟨g4, gg4⟩ := and_e gg3
  obtain ⟨g5, gg5⟩ := and_e gg4
  obtain ⟨w0, w1, w2, w3, w4, w5, rfl⟩ : ∃ w0 w1 w2 w3 w4 w5 : Value, args = #[w0, w1, w2, w3, w4, w5] := by
    have hs : args.size = 6 := by simpa [Cond.value, given_1] using g0
    obtain ⟨L⟩ := args
    match L, hs with
    | [w0, w1, w2, w3, w4, w5], _ => exact ⟨w0, w1, w2, w3, w4, w5, rfl⟩
  have hw := fun d (hd : d ∈ tables_1) => atoms_spec (ws := Jvm.Cond.code x code maxLocals ret :: tables_1) hat d (List.mem_cons_of_mem _ hd)
  have hfit : Fit s := fun {y c} hc i hi => by
    obtain ⟨ha, rfl⟩ := Array.getElem?_eq_some_iff.mp hc
    have q := List.all_eq_true.mp ((Array.all_eq_true_iff_forall_mem.mp hF) _ (Array.getElem_mem ha)) i (List.mem_range.mpr hi)
    simpa [Array.getElem?_eq_getElem hi] using q
  obtain ⟨i0, ei0⟩ := is_v g1
  obtain rfl : w0 = (.int i0) := Option.some.inj ei0
  obtain ⟨i1, ei1⟩ := is_v g2
  obtain rfl : w1 = (.int i1) := Option.some.inj ei1
  obtain ⟨i2, ei2⟩ := is_v g3
  obtain rfl : w2 = (.int i2) := Option.some.inj ei2
  obtain ⟨i3, ei3⟩ := is_v g4
  obtain rfl : w3 = (.int i3) := Option.some.inj ei3
  obtain ⟨i4, ei4⟩ := is_v g5
  obtain rfl : w4 = (.int i4) := Option.some.inj ei4
  obtain ⟨i5, ei5⟩ := is_v gg5
  obtain rfl : w5 = (.int i5) := Option.some.inj ei5
  obtain ⟨n, o, h1, h2, h3, _, L, rfl, ⟨rfl, N⟩, hq⟩ := own_law l s _ hw i0 i1 i2 i3 i4 i5 s.heap s.heap.size (Nat.le_refl _) p e ha hc hk s m _ below hf ((Spec.applies_iff_loose hf).mp happ).1 ⟨rfl, State.Warmed39.refl s, rfl⟩ trivial
  refine ⟨n, _, h1, h2, h3, hpost _ _ _ _ _ _ ⟨Cond.after_iff.mpr rfl, Cond.after_iff.mpr (eq_i res_at (Term.int_eval (1)) rfl), trivial⟩ ⟨hq.1, hq.2.1, (hq.2.2.sift fun y hy => Or.inr (N y hy)).mono (by decide) (by decide)⟩⟩
theorem main_1_1 : Claimed_1_1 := comes_1 fun _ _ _ _ _ _ h hF => ⟨h.1, hF⟩
theorem main_1_2 : Claimed_1_2 := comes_1 fun _ _ _ _ _ _ h hF => ⟨h.2.1, hF⟩
end Jvm.Pilot.@@N@@
namespace Jvm.Pilot.@@N@@
open Jvm Jvm.ClassFile Sem Op Lib Jvm.Free Jvm.Stand Jvm.Pilot.@@N@@.Jvm.D
/-! MADE BY PROGRAM (witnessworld.py) out of the Statement's table words and the real class files: 10 classes; the members and pool entries that the words name. The judged class is class 1, her method 1. -/
namespace start1
open Jvm.ClassFile
def u (s : String) : CpInfo := .utf8 (stringToUtf16 s)
/-- a pool by its gaps: so many unusable entries, then the entry; so many at the end -/
def gap : Nat → List CpInfo → List CpInfo
  | 0, r => r
  | n + 1, r => .unusable :: gap n r
def poolList (es : List (Nat × CpInfo)) (last : Nat) : List CpInfo := es.foldr (fun e r => gap e.1 (e.2 :: r)) (gap last [])
def pool (es : List (Nat × CpInfo)) (last : Nat) : Array CpInfo := ⟨poolList es last⟩
def fileOf (pool : Array CpInfo) (this : Nat) (attrs : Array Attribute := #[]) (ms : Array MethodInfo := #[]) (fl : Nat := 33) (sup : Nat := 0) (ifs : Array Nat := #[]) (fds : Array FieldInfo := #[]) : ClassFile where
  minorVersion := 0
  majorVersion := 65
  constantPool := pool
  accessFlags := fl
  thisClass := this
  superClass := sup
  interfaces := ifs
  fields := fds
  methods := ms
  attributes := attrs
def plain (name : String) (sup : Option ClassId) : Class where
  name := name
  kind := .ordinary
  loader := none
  accessFlags := 33
  super := sup
  interfaces := #[]
  cf := none
  fields := #[]
  methods := #[]
  instanceTypes := #[]
  staticTypes := #[]
  resolved := #[]
  callSites := []
  init := .initialized
  statics := none
  mirror := none

def pool0 : Array CpInfo := pool [(5, u "<init>"), (0, u "()V"), (1, .class_ 10), (1, u "java/lang/Object")] 113

def k0c0 : Code := { maxStack := 0, maxLocals := 1, code := object_method_1_code, exceptionTable := #[], attributes := #[] }
def k0m0 : Method := { name := "<init>", desc := "()V", sig := { parameters := [], returnType := none }, accessFlags := 1, code := some k0c0 }
/-- java/lang/Object -/
def k0 : Class := { plain "java/lang/Object" none with
  accessFlags := 33
  interfaces := #[]
  cf := some (fileOf pool0 8 #[] #[{ accessFlags := 1, nameIndex := 5, descriptorIndex := 6, attributes := #[] }] 33 0 #[] #[])
  fields := #[]
  methods := #[k0m0]
  instanceTypes := #[]
  staticTypes := #[]
  resolved := Array.replicate 124 none
  statics := none }

def pool1 : Array CpInfo := pool [(2, .class_ 4), (0, .nameAndType 5 6), (0, u "java/lang/Object"), (0, u "<init>"), (0, u "()V"), (0, .class_ 8), (0, u "com/example/waxwing/waxwing/policy/ThroughputLine"), (0, .methodref 7 3), (0, .methodref 11 12), (0, .class_ 13), (0, .nameAndType 14 15), (0, u "java/lang/Math"), (0, u "min"), (0, u "(II)I"), (0, .double 4625196817309499392), (1, .methodref 7 19), (0, .nameAndType 20 21), (0, u "add"), (0, u "(DD)V"), (0, .double 4611686018427387904), (1, .methodref 7 25), (0, .nameAndType 26 27), (0, u "throughputAt"), (0, u "(DD)D"), (0, .integer 2147483647), (0, .double 4620693217682128896), (1, .class_ 32), (0, u "com/example/waxwing/waxwing/policy/ThroughputLineAddPinLaw"), (2, u "law"), (0, u "(IIIIII)Z")] 3

def k1m0 : Method := { name := "<init>", desc := "()V", sig := { parameters := [], returnType := none }, accessFlags := 1, code := none }
def k1c1 : Code := { maxStack := 5, maxLocals := 25, code := code, exceptionTable := #[], attributes := #[] }
def k1m1 : Method := { name := "law", desc := "(IIIIII)Z", sig := { parameters := [.int, .int, .int, .int, .int, .int], returnType := some .boolean }, accessFlags := 9, code := some k1c1 }
/-- com/example/waxwing/waxwing/policy/ThroughputLineAddPinLaw -/
def k1 : Class := { plain "com/example/waxwing/waxwing/policy/ThroughputLineAddPinLaw" (some 0) with
  accessFlags := 49
  interfaces := #[]
  cf := some (fileOf pool1 31 #[] #[{ accessFlags := 1, nameIndex := 5, descriptorIndex := 6, attributes := #[] }, { accessFlags := 9, nameIndex := 35, descriptorIndex := 36, attributes := #[] }] 49 2 #[] #[])
  fields := #[]
  methods := #[k1m0, k1m1]
  instanceTypes := #[]
  staticTypes := #[]
  resolved := Array.replicate 40 none
  statics := none }

def pool2 : Array CpInfo := pool [(1, .methodref 2 3), (0, .class_ 4), (0, .nameAndType 5 6), (0, u "java/lang/Object"), (0, u "<init>"), (0, u "()V"), (0, .fieldref 8 9), (0, .class_ 10), (0, .nameAndType 11 12), (0, u "com/example/waxwing/waxwing/policy/ThroughputLine"), (0, u "samples"), (0, u "J"), (0, .fieldref 8 14), (0, .nameAndType 15 16), (0, u "meanThroughput"), (0, u "D"), (0, .fieldref 8 18), (0, .nameAndType 19 16), (0, u "meanCpu"), (0, .fieldref 8 21), (0, .nameAndType 22 16), (0, u "throughputSquares"), (0, .fieldref 8 24), (0, .nameAndType 25 16), (0, u "products"), (0, .fieldref 8 27), (0, .nameAndType 28 29), (0, u "busy"), (0, u "Z"), (0, .double 4576918229304087676), (1, u "IDLE_CPU_SPREAD"), (5, u "add"), (0, u "(DD)V"), (1, u "throughputAt"), (0, u "(DD)D")] 2

def k2c0 : Code := { maxStack := 1, maxLocals := 1, code := prog_24_method_1_code, exceptionTable := #[], attributes := #[] }
def k2m0 : Method := { name := "<init>", desc := "()V", sig := { parameters := [], returnType := none }, accessFlags := 0, code := some k2c0 }
def k2c1 : Code := { maxStack := 9, maxLocals := 9, code := prog_24_method_2_code, exceptionTable := #[], attributes := #[] }
def k2m1 : Method := { name := "add", desc := "(DD)V", sig := { parameters := [.double, .double], returnType := none }, accessFlags := 0, code := some k2c1 }
def k2c2 : Code := { maxStack := 8, maxLocals := 9, code := prog_24_method_3_code, exceptionTable := #[], attributes := #[] }
def k2m2 : Method := { name := "throughputAt", desc := "(DD)D", sig := { parameters := [.double, .double], returnType := some .double }, accessFlags := 0, code := some k2c2 }
/-- com/example/waxwing/waxwing/policy/ThroughputLine -/
def k2 : Class := { plain "com/example/waxwing/waxwing/policy/ThroughputLine" (some 0) with
  accessFlags := 32
  interfaces := #[]
  cf := some (fileOf pool2 8 #[] #[{ accessFlags := 0, nameIndex := 5, descriptorIndex := 6, attributes := #[] }, { accessFlags := 0, nameIndex := 38, descriptorIndex := 39, attributes := #[] }, { accessFlags := 0, nameIndex := 41, descriptorIndex := 42, attributes := #[] }] 32 2 #[] #[{ accessFlags := 24, nameIndex := 32, descriptorIndex := 16, attributes := #[] }, { accessFlags := 2, nameIndex := 11, descriptorIndex := 12, attributes := #[] }, { accessFlags := 2, nameIndex := 19, descriptorIndex := 16, attributes := #[] }, { accessFlags := 2, nameIndex := 15, descriptorIndex := 16, attributes := #[] }, { accessFlags := 2, nameIndex := 22, descriptorIndex := 16, attributes := #[] }, { accessFlags := 2, nameIndex := 25, descriptorIndex := 16, attributes := #[] }, { accessFlags := 2, nameIndex := 28, descriptorIndex := 29, attributes := #[] }])
  fields := #[{ name := "IDLE_CPU_SPREAD", type := .double, accessFlags := 24, slot := 0, constantValue := 0 }, { name := "samples", type := .long, accessFlags := 2, slot := 0, constantValue := 0 }, { name := "meanCpu", type := .double, accessFlags := 2, slot := 1, constantValue := 0 }, { name := "meanThroughput", type := .double, accessFlags := 2, slot := 2, constantValue := 0 }, { name := "throughputSquares", type := .double, accessFlags := 2, slot := 3, constantValue := 0 }, { name := "products", type := .double, accessFlags := 2, slot := 4, constantValue := 0 }, { name := "busy", type := .boolean, accessFlags := 2, slot := 5, constantValue := 0 }]
  methods := #[k2m0, k2m1, k2m2]
  instanceTypes := #[.long, .double, .double, .double, .double, .boolean]
  staticTypes := #[.double]
  resolved := Array.replicate 45 none
  statics := none }

def pool3 : Array CpInfo := pool [(1, .class_ 2), (0, u "java/lang/Math"), (1, .class_ 6), (1, u "java/lang/Object"), (0, u "<init>"), (0, u "()V"), (89, .class_ 100), (1, u "java/lang/Math$RandomNumberGeneratorHolder"), (71, u "negativeZeroFloatBits"), (0, u "J"), (2, u "negativeZeroDoubleBits"), (24, u "min"), (43, u "$assertionsDisabled"), (0, u "Z"), (88, u "(II)I"), (2, u "twoToTheDoubleScaleDown"), (0, u "D"), (4, u "twoToTheDoubleScaleUp"), (9, u "E"), (3, u "PI"), (2, u "TAU"), (2, u "DEGREES_TO_RADIANS"), (0, u "RADIANS_TO_DEGREES")] 94

def k3m0 : Method := { name := "<init>", desc := "()V", sig := { parameters := [], returnType := none }, accessFlags := 2, code := none }
def k3c1 : Code := { maxStack := 2, maxLocals := 2, code := jdk_29_method_69_code, exceptionTable := #[], attributes := #[] }
def k3m1 : Method := { name := "min", desc := "(II)I", sig := { parameters := [.int, .int], returnType := some .int }, accessFlags := 9, code := some k3c1 }
/-- java/lang/Math -/
def k3 : Class := { plain "java/lang/Math" (some 0) with
  accessFlags := 49
  interfaces := #[]
  cf := some (fileOf pool3 1 #[.nestMembers #[98]] #[{ accessFlags := 2, nameIndex := 7, descriptorIndex := 8, attributes := #[] }, { accessFlags := 9, nameIndex := 201, descriptorIndex := 335, attributes := #[] }] 49 4 #[] #[{ accessFlags := 25, nameIndex := 354, descriptorIndex := 339, attributes := #[] }, { accessFlags := 25, nameIndex := 358, descriptorIndex := 339, attributes := #[] }, { accessFlags := 25, nameIndex := 361, descriptorIndex := 339, attributes := #[] }, { accessFlags := 26, nameIndex := 364, descriptorIndex := 339, attributes := #[] }, { accessFlags := 26, nameIndex := 365, descriptorIndex := 339, attributes := #[] }, { accessFlags := 26, nameIndex := 172, descriptorIndex := 173, attributes := #[] }, { accessFlags := 26, nameIndex := 176, descriptorIndex := 173, attributes := #[] }, { accessFlags := 8, nameIndex := 344, descriptorIndex := 339, attributes := #[] }, { accessFlags := 8, nameIndex := 338, descriptorIndex := 339, attributes := #[] }, { accessFlags := 4120, nameIndex := 245, descriptorIndex := 246, attributes := #[] }])
  fields := #[{ name := "E", type := .double, accessFlags := 25, slot := 0, constantValue := 0 }, { name := "PI", type := .double, accessFlags := 25, slot := 1, constantValue := 0 }, { name := "TAU", type := .double, accessFlags := 25, slot := 2, constantValue := 0 }, { name := "DEGREES_TO_RADIANS", type := .double, accessFlags := 26, slot := 3, constantValue := 0 }, { name := "RADIANS_TO_DEGREES", type := .double, accessFlags := 26, slot := 4, constantValue := 0 }, { name := "negativeZeroFloatBits", type := .long, accessFlags := 26, slot := 5, constantValue := 0 }, { name := "negativeZeroDoubleBits", type := .long, accessFlags := 26, slot := 6, constantValue := 0 }, { name := "twoToTheDoubleScaleUp", type := .double, accessFlags := 8, slot := 7, constantValue := 0 }, { name := "twoToTheDoubleScaleDown", type := .double, accessFlags := 8, slot := 8, constantValue := 0 }, { name := "$assertionsDisabled", type := .boolean, accessFlags := 4120, slot := 9, constantValue := 0 }]
  methods := #[k3m0, k3m1]
  instanceTypes := #[]
  staticTypes := #[.double, .double, .double, .double, .double, .long, .long, .double, .double, .boolean]
  resolved := Array.replicate 460 none
  statics := none }

def pool4 : Array CpInfo := pool [(1, u "java/lang/Cloneable"), (0, .class_ 1), (0, u "java/lang/Object"), (0, .class_ 3)] 3

/-- java/lang/Cloneable -/
def k4 : Class := { plain "java/lang/Cloneable" (some 0) with
  accessFlags := 1537
  interfaces := #[]
  cf := some (fileOf pool4 2 #[] #[] 1537 4 #[] #[])
  fields := #[]
  methods := #[]
  instanceTypes := #[]
  staticTypes := #[]
  resolved := Array.replicate 8 none
  statics := none }

def pool5 : Array CpInfo := pool [(1, u "java/io/Serializable"), (0, .class_ 1), (0, u "java/lang/Object"), (0, .class_ 3)] 3

/-- java/io/Serializable -/
def k5 : Class := { plain "java/io/Serializable" (some 0) with
  accessFlags := 1537
  interfaces := #[]
  cf := some (fileOf pool5 2 #[] #[] 1537 4 #[] #[])
  fields := #[]
  methods := #[]
  instanceTypes := #[]
  staticTypes := #[]
  resolved := Array.replicate 8 none
  statics := none }

/-- the primitive byte -/
def k6 : Class := { plain "byte" none with kind := .primitive 'B', accessFlags := 0x411 }
/-- [B -/
def k7 : Class := { plain "[B" (some 0) with kind := .array 6 .byte, interfaces := #[4, 5], accessFlags := 1041 }

/-- the primitive int -/
def k8 : Class := { plain "int" none with kind := .primitive 'I', accessFlags := 0x411 }
/-- [I -/
def k9 : Class := { plain "[I" (some 0) with kind := .array 8 .int, interfaces := #[4, 5], accessFlags := 1041 }

def heap : Heap := #[]
def classes : Array Class := #[k0, k1, k2, k3, k4, k5, k6, k7, k8, k9]
def interned : List (Array UInt16 × Addr) := []
def slotsUsed : Nat := 0
def theMethod : MethodId := ⟨1, 1⟩
def args0 : Array Value := #[.int 5, .int 6, .int 7, .int 8, .int 9, .int 10]
def aboutOver (below : List Frame) : State where
  vm := { classes := classes, interned := interned.toArray }
  heap := heap
  slotsUsed := slotsUsed
  threads := #[{ frames := .invoking theMethod args0 :: below }]
def below0 : List Frame := [.native { method := ⟨0, 0⟩, args := #[] }]
def about1 : State := aboutOver below0
def p0 : Program := .bare "" "" ""
def e0 : Env := launch0.env 0 0 0
theorem w_frames : about1.frames = Frame.invoking theMethod args0 :: below0 := rfl
set_option maxRecDepth 65536 in
theorem w_args : argsFit about1.vm theMethod args0 = true := by decide +kernel
set_option maxRecDepth 65536 in
theorem w_heap : heapFits about1 = true := by decide +kernel
set_option maxRecDepth 65536 in
theorem w_runnable : about1.curStatus? = some .runnable := by decide +kernel
set_option maxRecDepth 65536 in
theorem w_alone : about1.alone = true := by decide +kernel
set_option maxRecDepth 65536 in
theorem w_named : about1.methodNamed? x = some theMethod := by decide +kernel
set_option maxRecDepth 65536 in
theorem w_hears : about1.hears theMethod below0 = true := by decide +kernel
set_option maxRecDepth 65536 in
theorem w_ripe : about1.ripe theMethod args0 below0 = true := by decide +kernel
theorem w_running : about1.status = .running := rfl
set_option maxRecDepth 65536 in
theorem w_room : about1.hasRoom e0.platform room_1 = true :=
  launch0.hasRoom_least _ room_1 (by decide +kernel) (by decide +kernel) (by decide +kernel) (by decide +kernel) (by decide +kernel) (by decide +kernel)
theorem allAtoms_all (ts : List Jvm.Cond) (a : Array Jvm.Value) (st : Jvm.State) : (allAtoms ts).before a st = ts.all (fun c => c.before a st) := by
  induction ts with
  | nil => rfl
  | cons c t ih =>
    show (Jvm.Cond.and c (allAtoms t)).before a st = _
    rw [Jvm.Cond.before_and, ih, List.all_cons]
def words1 : List Jvm.Cond := Jvm.Cond.code x code maxLocals ret :: tables_1
/-- a 'code' word, met by the world's own term for the bytes: nothing is compared byte by byte -/
theorem code_word {y : MethodName} {bytes : ByteArray} {mx : Nat} {rt : Option FieldType} {a : Array Value} {s : State} {m : MethodId} {meth : Method} {c : Code} (h1 : s.methodNamed? y = some m) (h2 : s.vm.method? m = some meth) (h3 : meth.code = some c) (h4 : c.code = bytes)
    (h5 : (c.maxLocals == mx && c.exceptionTable.isEmpty && decide (c.maxStack ≤ mostOperands) && decide (meth.sig.returnType = rt) && !meth.locks && decide (parseMethodDescriptor y.desc = some meth.sig)) = true) : (Jvm.Cond.code y bytes mx rt).before a s = true := by
  simp only [Bool.and_eq_true, beq_iff_eq, Bool.not_eq_true', decide_eq_true_eq] at h5
  obtain ⟨⟨⟨⟨⟨g1, g2⟩, g3⟩, g4⟩, g5⟩, g6⟩ := h5
  simp [Cond.before, Cond.holds, Cond.value, h1, h2, h3, h4, g1, g2, g3, g4, g5, g6]
def isCode : Jvm.Cond → Bool
  | .code _ _ _ _ => true
  | _ => false
theorem all_split {L : List Jvm.Cond} {P : Jvm.Cond → Bool} (h1 : L.all (fun c => isCode c || P c) = true) (h2 : ∀ c ∈ L.filter isCode, P c = true) : L.all P = true := by
  refine List.all_eq_true.mpr fun c hc => ?_
  have h := List.all_eq_true.mp h1 c hc
  rcases Bool.eq_false_or_eq_true (isCode c) with hi | hi
  · exact h2 c (List.mem_filter.mpr ⟨hc, hi⟩)
  · simpa [hi] using h
set_option maxRecDepth 65536 in
theorem w_c0 : (Jvm.Cond.code x code maxLocals ret).before args0 about1 = true := code_word (m := ⟨1, 1⟩) (meth := k1m1) (c := k1c1) (by decide +kernel) rfl rfl rfl (by decide +kernel)
set_option maxRecDepth 65536 in
theorem w_c1 : (Jvm.Cond.code ({ cls := "com/example/waxwing/waxwing/policy/ThroughputLine", name := "<init>", desc := "()V" } : Jvm.MethodName) prog_24_method_1_code (1 : Nat) (Option.none : Option Jvm.ClassFile.FieldType)).before args0 about1 = true := code_word (m := ⟨2, 0⟩) (meth := k2m0) (c := k2c0) (by decide +kernel) rfl rfl rfl (by decide +kernel)
set_option maxRecDepth 65536 in
theorem w_c2 : (Jvm.Cond.code ({ cls := "java/lang/Object", name := "<init>", desc := "()V" } : Jvm.MethodName) object_method_1_code (1 : Nat) (Option.none : Option Jvm.ClassFile.FieldType)).before args0 about1 = true := code_word (m := ⟨0, 0⟩) (meth := k0m0) (c := k0c0) (by decide +kernel) rfl rfl rfl (by decide +kernel)
set_option maxRecDepth 65536 in
theorem w_c3 : (Jvm.Cond.code ({ cls := "com/example/waxwing/waxwing/policy/ThroughputLine", name := "add", desc := "(DD)V" } : Jvm.MethodName) prog_24_method_2_code (9 : Nat) (Option.none : Option Jvm.ClassFile.FieldType)).before args0 about1 = true := code_word (m := ⟨2, 1⟩) (meth := k2m1) (c := k2c1) (by decide +kernel) rfl rfl rfl (by decide +kernel)
set_option maxRecDepth 65536 in
theorem w_c4 : (Jvm.Cond.code ({ cls := "com/example/waxwing/waxwing/policy/ThroughputLine", name := "throughputAt", desc := "(DD)D" } : Jvm.MethodName) prog_24_method_3_code (9 : Nat) (Option.some Jvm.ClassFile.FieldType.double)).before args0 about1 = true := code_word (m := ⟨2, 2⟩) (meth := k2m2) (c := k2c2) (by decide +kernel) rfl rfl rfl (by decide +kernel)
set_option maxRecDepth 65536 in
theorem w_c5 : (Jvm.Cond.code ({ cls := "java/lang/Math", name := "min", desc := "(II)I" } : Jvm.MethodName) jdk_29_method_69_code (2 : Nat) (Option.some Jvm.ClassFile.FieldType.int)).before args0 about1 = true := code_word (m := ⟨3, 1⟩) (meth := k3m1) (c := k3c1) (by decide +kernel) rfl rfl rfl (by decide +kernel)
def codes1 : List Jvm.Cond := [Jvm.Cond.code x code maxLocals ret, Jvm.Cond.code ({ cls := "com/example/waxwing/waxwing/policy/ThroughputLine", name := "<init>", desc := "()V" } : Jvm.MethodName) prog_24_method_1_code (1 : Nat) (Option.none : Option Jvm.ClassFile.FieldType), Jvm.Cond.code ({ cls := "java/lang/Object", name := "<init>", desc := "()V" } : Jvm.MethodName) object_method_1_code (1 : Nat) (Option.none : Option Jvm.ClassFile.FieldType), Jvm.Cond.code ({ cls := "com/example/waxwing/waxwing/policy/ThroughputLine", name := "add", desc := "(DD)V" } : Jvm.MethodName) prog_24_method_2_code (9 : Nat) (Option.none : Option Jvm.ClassFile.FieldType), Jvm.Cond.code ({ cls := "com/example/waxwing/waxwing/policy/ThroughputLine", name := "throughputAt", desc := "(DD)D" } : Jvm.MethodName) prog_24_method_3_code (9 : Nat) (Option.some Jvm.ClassFile.FieldType.double), Jvm.Cond.code ({ cls := "java/lang/Math", name := "min", desc := "(II)I" } : Jvm.MethodName) jdk_29_method_69_code (2 : Nat) (Option.some Jvm.ClassFile.FieldType.int)]
set_option maxRecDepth 65536 in
theorem codes_eq : words1.filter isCode = codes1 := rfl
theorem w_codes : ∀ c ∈ words1.filter isCode, c.before args0 about1 = true := by
  rw [codes_eq]
  intro c hc
  simp only [codes1, List.mem_cons, List.not_mem_nil, or_false] at hc
  rcases hc with rfl | rfl | rfl | rfl | rfl | rfl
  · exact w_c0
  · exact w_c1
  · exact w_c2
  · exact w_c3
  · exact w_c4
  · exact w_c5
set_option maxRecDepth 65536 in
theorem w_t1 : (words1.take 24).all (fun c => isCode c || c.before args0 about1) = true := by decide +kernel
set_option maxRecDepth 65536 in
theorem w_t2 : (words1.drop 24).all (fun c => isCode c || c.before args0 about1) = true := by decide +kernel
theorem w_tables : (allAtoms (Jvm.Cond.code x code maxLocals ret :: tables_1)).before args0 about1 = true := by
  rw [allAtoms_all]
  show words1.all (fun c => c.before args0 about1) = true
  refine all_split ?_ w_codes
  rw [← List.take_append_drop 24 words1, List.all_append, w_t1, w_t2]
  rfl
set_option maxRecDepth 65536 in
theorem w_case : (Jvm.Cond.and given_1 narrow_1).before args0 about1 = true := by decide +kernel
theorem w_applies : (headSpec (Jvm.Cond.code x code maxLocals ret :: tables_1) room_1).applies x e0.platform about1 = true :=
  (Spec.applies_iff w_frames).mpr ⟨w_running, w_runnable, w_alone, w_named, w_hears, w_ripe, w_room, w_tables⟩
theorem atStart : AtStart classFile x code maxLocals ret World_1 tables_1 room_1 Calls_1 rest_1 Pre_1 launch0 p0 e0 about1 theMethod args0 below0 :=
  ⟨lists_1, trivial, launch0.admits_env _ _ _, launch0.least_env, fairChoices_fair.cas, fairChoices_fair.clock, w_frames, w_args, w_heap, w_applies, trivial, trivial, w_case⟩
end start1
theorem witness_1 : WitnessClaimed_1 := ⟨start1.p0, start1.e0, start1.about1, start1.theMethod, start1.args0, start1.below0, start1.atStart⟩
end Jvm.Pilot.@@N@@
