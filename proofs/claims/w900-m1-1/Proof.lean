import JvmDerived
import JvmDerived.Pilot.@@N@@Statement
import JvmDerived.Pilot.@@N@@Code
set_option linter.unusedVariables false
set_option linter.unusedSimpArgs false
@@BLOCK:NumsL.lean.txt@@
namespace Jvm.Pilot.@@N@@
open Jvm Jvm.ClassFile Sem Op Lib Jvm.Free Jvm.Stand Jvm.LawKit Jvm.RoadKit Bundle Jvm.Pilot.@@N@@.Jvm.D
/-- Java's x >>> y on longs -/
def own_uL (x : Int64) (y : Int32) : Int64 := (x.toUInt64 >>> (y &&& 63).toInt64.toUInt64).toInt64
section Own
variable {p : Program} {l : Launch} {e : Env} {R : Room} {s : State} {m : MethodId} {args : Array Value} {below : List Frame} {meth : Method} {c : Code} {T : State} {locs : List Loc} {cells slots : Nat}
variable {ck sk : Nat} {Q : Option Value → Heap → List Loc → Prop}
/-- the run from u comes to the method's return, and Q holds there -/
def oF (p : Program) (e : Env) (below : List Frame) (s : State) (ck sk : Nat) (Q : Option Value → Heap → List Loc → Prop) (u : State) : Prop :=
  ∃ t o, Steps p.tables e below u t ∧ t.status = .running ∧ Ended t below o ∧ ∃ v L, o = .returned v ∧ Q v t.heap L ∧ FrameEnd s o t L ck sk
theorem oS {u u' : State} (h : ∀ t, Steps p.tables e below u' t → Steps p.tables e below u t) (k : oF p e below s ck sk Q u') : oF p e below s ck sk Q u := by
  obtain ⟨t, o, h1, r⟩ := k
  exact ⟨t, o, h t h1, r⟩
theorem oC {u : State} (X : Stand p l e R s m args below meth c T locs cells slots) {h : Heap} (E : T.heap = h) {f : JFrame}
    (rest : ∀ Tc, Stand p l e R s m args below meth c Tc locs cells slots → Tc.heap = h → oF p e below s ck sk Q (Tc.setTop f))
    (k : (∀ Tc, Stand p l e R s m args below meth c Tc locs cells slots → Tc.heap = h → oF p e below s ck sk Q (Tc.setTop f)) → oF p e below s ck sk Q u) : oF p e below s ck sk Q u := k rest
theorem oCA {u : State} (X : Stand p l e R s m args below meth c T locs cells slots) {h : Heap} (E : T.heap = h) {f : Addr → JFrame}
    (rest : ∀ z Tc, Stand p l e R s m args below meth c Tc locs cells slots → Tc.heap = h → oF p e below s ck sk Q (Tc.setTop (f z)))
    (k : (∀ z Tc, Stand p l e R s m args below meth c Tc locs cells slots → Tc.heap = h → oF p e below s ck sk Q (Tc.setTop (f z))) → oF p e below s ck sk Q u) : oF p e below s ck sk Q u := k rest
theorem own_ret (X : Stand p l e R s m args below meth c T locs cells slots) (hlk : meth.locks = false) {v : Option Value} (hv : meth.sig.returnType = none → v = none) {g : JFrame}
    (st : ∀ fs, (∀ (f : JFrame) (acts : List Action), f.method = m → f.locked = none → f.entered = [] → (doReturn e (T.setTop f) acts v).1 = T.setFrames fs) → Steps p.tables e below (T.setTop g) (T.setFrames fs))
    (hQ : Q v T.heap locs) (hc : cells ≤ ck) (hs : slots ≤ sk) : oF p e below s ck sk Q (T.setTop g) := by
  obtain ⟨fs, hr, hrun, hended, hW, hsame⟩ := X.leave (v := v) hv hlk
  exact ⟨_, _, st fs hr, hrun, hended, v, locs, rfl, hQ, ⟨_, rfl⟩, hW, hsame.mono hc hs⟩
theorem own_retI (X : Stand p l e R s m args below meth c T locs cells slots) (hx : p.tables.exec = Jvm.exec) (hlk : meth.locks = false) {pc : Nat} {Ls : Array Slot} {z : Int32} {rest : List Value} (hret : meth.sig.returnType = some .int)
    (hd : decode c.code pc = .ok (.ireturn, 1)) (hQ : Q (some (.int z)) T.heap locs) (hc : cells ≤ ck) (hs : slots ≤ sk) : oF p e below s ck sk Q (T.setTop (mkF m pc Ls (.int z :: rest))) :=
  own_ret X hlk (fun h => by rw [hret] at h; cases h) (fun fs hl => retOut X hx hret rfl (Or.inl ⟨rfl, Or.inl rfl, _, rfl⟩) hd hl) hQ hc hs
theorem own_retJ (X : Stand p l e R s m args below meth c T locs cells slots) (hx : p.tables.exec = Jvm.exec) (hlk : meth.locks = false) {pc : Nat} {Ls : Array Slot} {z : Int64} {rest : List Value} (hret : meth.sig.returnType = some .long)
    (hd : decode c.code pc = .ok (.lreturn, 1)) (hQ : Q (some (.long z)) T.heap locs) (hc : cells ≤ ck) (hs : slots ≤ sk) : oF p e below s ck sk Q (T.setTop (mkF m pc Ls (.long z :: rest))) :=
  own_ret X hlk (fun h => by rw [hret] at h; cases h) (fun fs hl => retOut X hx hret rfl (Or.inr (Or.inl ⟨rfl, rfl, _, rfl⟩)) hd hl) hQ hc hs
theorem own_retD (X : Stand p l e R s m args below meth c T locs cells slots) (hx : p.tables.exec = Jvm.exec) (hlk : meth.locks = false) {pc : Nat} {Ls : Array Slot} {z : UInt64} {rest : List Value} (hret : meth.sig.returnType = some .double)
    (hd : decode c.code pc = .ok (.dreturn, 1)) (hQ : Q (some (.double z)) T.heap locs) (hc : cells ≤ ck) (hs : slots ≤ sk) : oF p e below s ck sk Q (T.setTop (mkF m pc Ls (.double z :: rest))) :=
  own_ret X hlk (fun h => by rw [hret] at h; cases h) (fun fs hl => retOut X hx hret rfl (Or.inr (Or.inr (Or.inl ⟨rfl, rfl, _, rfl⟩))) hd hl) hQ hc hs
theorem own_retA (X : Stand p l e R s m args below meth c T locs cells slots) (hx : p.tables.exec = Jvm.exec) (hlk : meth.locks = false) {pc : Nat} {Ls : Array Slot} {w : Value} {t : FieldType} {rest : List Value} (hret : meth.sig.returnType = some t) (ht : t.isReference = true) (hr : w.isRef = true)
    (hd : decode c.code pc = .ok (.areturn, 1)) (hQ : Q (some w) T.heap locs) (hc : cells ≤ ck) (hs : slots ≤ sk) : oF p e below s ck sk Q (T.setTop (mkF m pc Ls (w :: rest))) :=
  own_ret X hlk (fun h => by rw [hret] at h; cases h) (fun fs hl => retOut X hx hret (by cases t <;> first | (cases ht; done) | (cases w <;> first | rfl | (cases hr; done))) (Or.inr (Or.inr (Or.inr (Or.inr ⟨rfl, ht, hr⟩)))) hd hl) hQ hc hs
theorem own_retN (X : Stand p l e R s m args below meth c T locs cells slots) (hx : p.tables.exec = Jvm.exec) (hlk : meth.locks = false) {pc : Nat} {Ls : Array Slot} {z : Int32} {t : FieldType} {rest : List Value} (hret : meth.sig.returnType = some t) (ht : t = .boolean ∨ t = .byte ∨ t = .char ∨ t = .short)
    (hd : decode c.code pc = .ok (.ireturn, 1)) (hQ : Q (some (.int (nar t z))) T.heap locs) (hc : cells ≤ ck) (hs : slots ≤ sk) : oF p e below s ck sk Q (T.setTop (mkF m pc Ls (.int z :: rest))) :=
  own_ret X hlk (fun h => by rw [hret] at h; cases h) (fun fs hl => retN X hx hret ht hd hl) hQ hc hs
theorem own_ret0 (X : Stand p l e R s m args below meth c T locs cells slots) (hx : p.tables.exec = Jvm.exec) (hlk : meth.locks = false) {pc : Nat} {Ls : Array Slot} (hret : meth.sig.returnType = none)
    (hd : decode c.code pc = .ok (.return_, 1)) (hQ : Q none T.heap locs) (hc : cells ≤ ck) (hs : slots ≤ sk) : oF p e below s ck sk Q (T.setTop (mkF m pc Ls [])) :=
  own_ret X hlk (fun _ => rfl) (fun fs hl => X.returnOut hx hret hd hl) hQ hc hs
/-- a body's contract: called with as' on the heap h it returns, and Q says what it leaves -/
def own_Con (l : Launch) (Z : State) (ws : List Jvm.Cond) (y : MethodName) (bytes : ByteArray) (maxL : Nat) (rt : Option FieldType) (rm : Room) (as' : Array Value) (h : Heap) (Q : Option Value → Heap → List Loc → Prop) : Prop :=
  MetFree l y (head1 (Jvm.Cond.code y bytes maxL rt :: ws) rm) (fun a U => a = as' ∧ Z.Warmed39 U.vm ∧ U.heap = h) (fun _ _ _ _ _ => True) (fun _ U o U' => ∃ v L, o = .returned v ∧ Q v U'.heap L ∧ FrameEnd U o U' L rm.cells rm.slots)
/-- it returns r, and the heap is as it was -/
def own_Q1 (r : Option Value) (h : Heap) : Option Value → Heap → List Loc → Prop := fun v h' L => v = r ∧ h' = h ∧ L = []
variable {Z : State} {a0 : Array Value} {h h' : Heap}
theorem own_body {ws : List Jvm.Cond} {y : MethodName} {bytes : ByteArray} {maxL : Nat} {rt : Option FieldType} {rm : Room} {as' : Array Value} (hpn : plainFor y = true)
    (H : ∀ (p : Program) (e : Env) (s : State) (m : MethodId) (below : List Frame) (meth : Method) (c : Code) (s₁ : State), Stand p l e rm s m as' below meth c s₁ [] 0 0 → p.tables.exec = Jvm.exec → c.code = bytes → c.maxLocals = maxL → meth.sig.returnType = rt → meth.locks = false → s.vm.findClass y.cls = some m.cls → meth.name = y.name → Z.Warmed39 s.vm → s₁.heap = h →
      oF p e below s rm.cells rm.slots Q (s₁.setTop (entryFrame m as' maxL))) : own_Con l Z ws y bytes maxL rt rm as' h Q := by
  refine MetFree.of_bodySF hpn hisR ?_
  intro p e s m args below meth c s₁ Bd hml0 hP hK
  obtain ⟨rfl, hZ, hh⟩ := hP
  exact H p e s m below meth c s₁ (Stand.of_body Bd) Bd.exec Bd.bytes hml0 Bd.returns (BodyLoose.notSynchronized Bd) (findClass_of_methodNamed Bd.named) (name_of_methodNamed Bd.named Bd.method).1 hZ (by rw [← hh, Bd.state]; rfl)
theorem own_callS (X : Stand p l e R s m args below meth c T locs cells slots) (hx : p.tables.exec = Jvm.exec) (hZ : Z.Warmed39 s.vm) {own : String} {index : Nat} {y : MethodName} {bytes : ByteArray} {maxL : Nat} {rt : Option FieldType} (hown : s.vm.findClass own = some m.cls)
    (w1 : (Jvm.Cond.methodLink own index y).before a0 Z = true) (w2 : (Jvm.Cond.static y).before a0 Z = true) (w4 : (Jvm.Cond.code y bytes maxL rt).before a0 Z = true) (w3 : (Jvm.Cond.initialized y.cls).before a0 Z = true) (hy : y.cls ≠ "java/lang/invoke/MethodHandle" ∧ y.cls ≠ "java/lang/invoke/VarHandle")
    (eT : T.heap = h) {rm : Room} {W : Nat} {argsL rest : List Value} (K : own_Con l Z [] y bytes maxL rt rm argsL.toArray h Q) (hf : rm.frames + 1 ≤ R.frames) (hl : W + (maxL + 11) + rm.locals ≤ R.locals)
    {g : JFrame} (hg : g.method = m) (hsize : g.locals.size = c.maxLocals) (hlen : ∀ sig, parseMethodDescriptor y.desc = some sig → argsL.length = sig.parameters.length)
    (hstack : g.stack = argsL.reverse ++ rest) (hW : 2 * g.monitorRoom + (rest.map fun v => v.category).sum ≤ W) (hdg : decode c.code g.pc = .ok (.invokestatic index, 3)) (hc : cells + rm.cells ≤ R.cells) (hs : slots + rm.slots ≤ R.slots) :
    ∃ (v : Option Value) (T' : State) (L : List Loc), Stand p l e R s m args below meth c T' (locs ++ L) (cells + rm.cells) (slots + rm.slots) ∧ Q v T'.heap L ∧
      ∀ target, Steps p.tables e below (T'.setTop { g with pc := g.pc + 3, stack := v.toList ++ rest }) target → Steps p.tables e below (T.setTop g) target := by
  obtain ⟨v, _, ⟨T', L', k', n'⟩, -, X', ⟨L, hQ, q1, q2, q3⟩, st⟩ := Jvm.LawKit.callS X hx hown (mvT hZ w1) (mvT hZ w2) (mvT hZ w3) (mvT hZ w4) hy (backOf (W := W) K hZ w4 w3 hf hl) hg hsize hlen hstack hW hdg (fun _ _ => ⟨rfl, eT, hc, hs⟩)
  dsimp only [Pt.U, Pt.locs, Pt.cells, Pt.slots] at X' q1 q2 q3 st hQ
  subst q1 q2 q3
  exact ⟨v, T', L, X', hQ, st⟩
theorem own_callSP (X : Stand p l e R s m args below meth c T locs cells slots) (hx : p.tables.exec = Jvm.exec) (hZ : Z.Warmed39 s.vm) {own : String} {index : Nat} {y : MethodName} {bytes : ByteArray} {maxL : Nat} {rt : Option FieldType} (hown : s.vm.findClass own = some m.cls)
    (w1 : (Jvm.Cond.methodLink own index y).before a0 Z = true) (w2 : (Jvm.Cond.static y).before a0 Z = true) (w4 : (Jvm.Cond.code y bytes maxL rt).before a0 Z = true) (w3 : (Jvm.Cond.initialized y.cls).before a0 Z = true) (hy : y.cls ≠ "java/lang/invoke/MethodHandle" ∧ y.cls ≠ "java/lang/invoke/VarHandle")
    (eT : T.heap = h) {rf rl : Nat} {W : Nat} {argsL rest : List Value} {r : Value} (K : own_Con l Z [] y bytes maxL rt { frames := rf, cells := 0, slots := 0, locals := rl } argsL.toArray h (own_Q1 (some r) h)) (hf : rf + 1 ≤ R.frames) (hl : W + (maxL + 11) + rl ≤ R.locals)
    {g : JFrame} (hg : g.method = m) (hsize : g.locals.size = c.maxLocals) (hlen : ∀ sig, parseMethodDescriptor y.desc = some sig → argsL.length = sig.parameters.length)
    (hstack : g.stack = argsL.reverse ++ rest) (hW : 2 * g.monitorRoom + (rest.map fun v => v.category).sum ≤ W) (hdg : decode c.code g.pc = .ok (.invokestatic index, 3)) (hc : cells ≤ R.cells) (hs : slots ≤ R.slots) :
    ∃ T' : State, Stand p l e R s m args below meth c T' locs cells slots ∧ T'.heap = h ∧
      ∀ target, Steps p.tables e below (T'.setTop { g with pc := g.pc + 3, stack := r :: rest }) target → Steps p.tables e below (T.setTop g) target := by
  obtain ⟨v, T', L, X', ⟨rfl, hh, rfl⟩, st⟩ := own_callS X hx hZ hown w1 w2 w4 w3 hy eT (W := W) K hf hl hg hsize hlen hstack hW hdg hc hs
  rw [List.append_nil] at X'
  exact ⟨T', X', hh, st⟩
theorem own_callI (X : Stand p l e R s m args below meth c T locs cells slots) (hx : p.tables.exec = Jvm.exec) (hZ : Z.Warmed39 s.vm) {own : String} {index : Nat} {y : MethodName} (hy1 : y.name = "<init>") {bytes : ByteArray} {maxL : Nat} (hown : s.vm.findClass own = some m.cls)
    (w1 : (Jvm.Cond.methodLink own index y).before a0 Z = true) (w2 : (Jvm.Cond.instanceMethod y).before a0 Z = true) (w4 : (Jvm.Cond.code y bytes maxL none).before a0 Z = true) (w3 : (Jvm.Cond.initialized y.cls).before a0 Z = true) (hy : y.cls ≠ "java/lang/invoke/MethodHandle" ∧ y.cls ≠ "java/lang/invoke/VarHandle")
    (eT : T.heap = h) {rm : Room} {W : Nat} {a : Addr} {argsL rest : List Value} (K : own_Con l Z [] y bytes maxL none rm (.ref a :: argsL).toArray h Q) (hf : rm.frames + 1 ≤ R.frames) (hl : W + (maxL + 11) + rm.locals ≤ R.locals)
    {g : JFrame} (hg : g.method = m) (hsize : g.locals.size = c.maxLocals) (hlen : ∀ sig, parseMethodDescriptor y.desc = some sig → argsL.length = sig.parameters.length)
    (hstack : g.stack = argsL.reverse ++ .ref a :: rest) (hW : 2 * g.monitorRoom + (rest.map fun v => v.category).sum ≤ W) (hdg : decode c.code g.pc = .ok (.invokespecial index, 3)) (hc : cells + rm.cells ≤ R.cells) (hs : slots + rm.slots ≤ R.slots) :
    ∃ (v : Option Value) (T' : State) (L : List Loc), Stand p l e R s m args below meth c T' (locs ++ L) (cells + rm.cells) (slots + rm.slots) ∧ Q v T'.heap L ∧
      ∀ target, Steps p.tables e below (T'.setTop { g with pc := g.pc + 3, stack := v.toList ++ rest }) target → Steps p.tables e below (T.setTop g) target := by
  obtain ⟨v, _, ⟨T', L', k', n'⟩, -, X', ⟨L, hQ, q1, q2, q3⟩, st⟩ := X.specialBack hx hy1 hown (mvT hZ w1) (mvT hZ w2) (mvT hZ w4) hy (backOf (W := W) K hZ w4 w3 hf hl) hg hsize (Steps.refl _) (a := a) hlen hstack hW hdg (fun _ _ => ⟨rfl, eT, hc, hs⟩)
  dsimp only [Pt.U, Pt.locs, Pt.cells, Pt.slots] at X' q1 q2 q3 st hQ
  subst q1 q2 q3
  exact ⟨v, T', L, X', hQ, fun t k => st.trans k⟩
theorem own_callIP (X : Stand p l e R s m args below meth c T locs cells slots) (hx : p.tables.exec = Jvm.exec) (hZ : Z.Warmed39 s.vm) {own : String} {index : Nat} {y : MethodName} (hy1 : y.name = "<init>") {bytes : ByteArray} {maxL : Nat} (hown : s.vm.findClass own = some m.cls)
    (w1 : (Jvm.Cond.methodLink own index y).before a0 Z = true) (w2 : (Jvm.Cond.instanceMethod y).before a0 Z = true) (w4 : (Jvm.Cond.code y bytes maxL none).before a0 Z = true) (w3 : (Jvm.Cond.initialized y.cls).before a0 Z = true) (hy : y.cls ≠ "java/lang/invoke/MethodHandle" ∧ y.cls ≠ "java/lang/invoke/VarHandle")
    (eT : T.heap = h) {rf rl : Nat} {W : Nat} {a : Addr} {argsL rest : List Value} (K : own_Con l Z [] y bytes maxL none { frames := rf, cells := 0, slots := 0, locals := rl } (.ref a :: argsL).toArray h (own_Q1 none h)) (hf : rf + 1 ≤ R.frames) (hl : W + (maxL + 11) + rl ≤ R.locals)
    {g : JFrame} (hg : g.method = m) (hsize : g.locals.size = c.maxLocals) (hlen : ∀ sig, parseMethodDescriptor y.desc = some sig → argsL.length = sig.parameters.length)
    (hstack : g.stack = argsL.reverse ++ .ref a :: rest) (hW : 2 * g.monitorRoom + (rest.map fun v => v.category).sum ≤ W) (hdg : decode c.code g.pc = .ok (.invokespecial index, 3)) (hc : cells ≤ R.cells) (hs : slots ≤ R.slots) :
    ∃ T' : State, Stand p l e R s m args below meth c T' locs cells slots ∧ T'.heap = h ∧
      ∀ target, Steps p.tables e below (T'.setTop { g with pc := g.pc + 3, stack := rest }) target → Steps p.tables e below (T.setTop g) target := by
  obtain ⟨v, T', L, X', ⟨rfl, hh, rfl⟩, st⟩ := own_callI X hx hZ hy1 hown w1 w2 w4 w3 hy eT (W := W) K hf hl hg hsize hlen hstack hW hdg hc hs
  rw [List.append_nil] at X'
  exact ⟨T', X', hh, st⟩
theorem own_callV (X : Stand p l e R s m args below meth c T locs cells slots) (hx : p.tables.exec = Jvm.exec) (hZ : Z.Warmed39 s.vm) {own C : String} {index : Nat} {y z : MethodName} {bytes : ByteArray} {maxL : Nat} {rt : Option FieldType} (hown : s.vm.findClass own = some m.cls)
    (w1 : (Jvm.Cond.methodLink own index y).before a0 Z = true) (w2 : (Jvm.Cond.declares y).before a0 Z = true) (hnf : NotFace s y) (ws : (Jvm.Cond.selects C y z).before a0 Z = true) (wi : (Jvm.Cond.instanceMethod z).before a0 Z = true) (hy : y.cls ≠ "java/lang/invoke/MethodHandle" ∧ y.cls ≠ "java/lang/invoke/VarHandle")
    (eT : T.heap = h) {b : Addr} (E : Exa Z h b C) {rm : Room} {W : Nat} {argsL rest : List Value} (K : own_Con l Z [] z bytes maxL rt rm (.ref b :: argsL).toArray h Q) (w4 : (Jvm.Cond.code z bytes maxL rt).before a0 Z = true) (w3 : (Jvm.Cond.initialized z.cls).before a0 Z = true) (hf : rm.frames + 1 ≤ R.frames) (hl : W + (maxL + 11) + rm.locals ≤ R.locals)
    {g : JFrame} (hg : g.method = m) (hsize : g.locals.size = c.maxLocals) (hlen : ∀ sig, parseMethodDescriptor y.desc = some sig → argsL.length = sig.parameters.length)
    (hstack : g.stack = argsL.reverse ++ .ref b :: rest) (hW : 2 * g.monitorRoom + (rest.map fun v => v.category).sum ≤ W) (hdg : decode c.code g.pc = .ok (.invokevirtual index, 3)) (hc : cells + rm.cells ≤ R.cells) (hs : slots + rm.slots ≤ R.slots) :
    ∃ (v : Option Value) (T' : State) (L : List Loc), Stand p l e R s m args below meth c T' (locs ++ L) (cells + rm.cells) (slots + rm.slots) ∧ Q v T'.heap L ∧
      ∀ target, Steps p.tables e below (T'.setTop { g with pc := g.pc + 3, stack := v.toList ++ rest }) target → Steps p.tables e below (T.setTop g) target := by
  obtain ⟨cq, kq, qa, qb, qc⟩ := isOf hZ eT E
  obtain ⟨v, _, ⟨T', L', k', n'⟩, -, X', ⟨L, hQ, q1, q2, q3⟩, st⟩ := X.virtualBack hx hown (mvT hZ w1) (mvT hZ w2) hnf (mvT hZ ws) (mvT hZ wi) hy (backOf (W := W) K hZ w4 w3 hf hl) qa qc hg hsize (Steps.refl _) hlen hstack hW hdg (fun _ _ => ⟨rfl, eT, hc, hs⟩)
  dsimp only [Pt.U, Pt.locs, Pt.cells, Pt.slots] at X' q1 q2 q3 st hQ
  subst q1 q2 q3
  exact ⟨v, T', L, X', hQ, fun t k => st.trans k⟩
theorem own_callVP (X : Stand p l e R s m args below meth c T locs cells slots) (hx : p.tables.exec = Jvm.exec) (hZ : Z.Warmed39 s.vm) {own C : String} {index : Nat} {y z : MethodName} {bytes : ByteArray} {maxL : Nat} {rt : Option FieldType} (hown : s.vm.findClass own = some m.cls)
    (w1 : (Jvm.Cond.methodLink own index y).before a0 Z = true) (w2 : (Jvm.Cond.declares y).before a0 Z = true) (hnf : NotFace s y) (ws : (Jvm.Cond.selects C y z).before a0 Z = true) (wi : (Jvm.Cond.instanceMethod z).before a0 Z = true) (hy : y.cls ≠ "java/lang/invoke/MethodHandle" ∧ y.cls ≠ "java/lang/invoke/VarHandle")
    (eT : T.heap = h) {b : Addr} (E : Exa Z h b C) {rf rl : Nat} {W : Nat} {argsL rest : List Value} {r : Value} (K : own_Con l Z [] z bytes maxL rt { frames := rf, cells := 0, slots := 0, locals := rl } (.ref b :: argsL).toArray h (own_Q1 (some r) h)) (w4 : (Jvm.Cond.code z bytes maxL rt).before a0 Z = true) (w3 : (Jvm.Cond.initialized z.cls).before a0 Z = true) (hf : rf + 1 ≤ R.frames) (hl : W + (maxL + 11) + rl ≤ R.locals)
    {g : JFrame} (hg : g.method = m) (hsize : g.locals.size = c.maxLocals) (hlen : ∀ sig, parseMethodDescriptor y.desc = some sig → argsL.length = sig.parameters.length)
    (hstack : g.stack = argsL.reverse ++ .ref b :: rest) (hW : 2 * g.monitorRoom + (rest.map fun v => v.category).sum ≤ W) (hdg : decode c.code g.pc = .ok (.invokevirtual index, 3)) (hc : cells ≤ R.cells) (hs : slots ≤ R.slots) :
    ∃ T' : State, Stand p l e R s m args below meth c T' locs cells slots ∧ T'.heap = h ∧
      ∀ target, Steps p.tables e below (T'.setTop { g with pc := g.pc + 3, stack := r :: rest }) target → Steps p.tables e below (T.setTop g) target := by
  obtain ⟨v, T', L, X', ⟨rfl, hh, rfl⟩, st⟩ := own_callV X hx hZ hown w1 w2 hnf ws wi hy eT E (W := W) K w4 w3 hf hl hg hsize hlen hstack hW hdg hc hs
  rw [List.append_nil] at X'
  exact ⟨T', X', hh, st⟩
theorem own_kext {h h' : Heap} (K : Keep h h' []) : Ext h h' := ⟨K.1, fun a c q => K.2.1 a c q nin0⟩
theorem own_callIB (X : Stand p l e R s m args below meth c T locs cells slots) (hx : p.tables.exec = Jvm.exec) (hZ : Z.Warmed39 s.vm) {own : String} {index : Nat} {y : MethodName} (hy1 : y.name = "<init>") {bytes : ByteArray} {maxL : Nat} (hown : s.vm.findClass own = some m.cls)
    (w1 : (Jvm.Cond.methodLink own index y).before a0 Z = true) (w2 : (Jvm.Cond.instanceMethod y).before a0 Z = true) (w4 : (Jvm.Cond.code y bytes maxL none).before a0 Z = true) (hy : y.cls ≠ "java/lang/invoke/MethodHandle" ∧ y.cls ≠ "java/lang/invoke/VarHandle")
    (eT : T.heap = h) {W kc ks : Nat} {a : Addr} {argsL rest : List Value} (K : Back l R p e below s args y 3 W (fun A a' => a' = (.ref a :: argsL).toArray ∧ A.U.heap = h ∧ A.cells + kc ≤ R.cells ∧ A.slots + ks ≤ R.slots) (fun A _ v B => ∃ L, Q v B.U.heap L ∧ B.locs = A.locs ++ L ∧ B.cells = A.cells + kc ∧ B.slots = A.slots + ks))
    {g : JFrame} (hg : g.method = m) (hsize : g.locals.size = c.maxLocals) (hlen : ∀ sig, parseMethodDescriptor y.desc = some sig → argsL.length = sig.parameters.length)
    (hstack : g.stack = argsL.reverse ++ .ref a :: rest) (hW : 2 * g.monitorRoom + (rest.map fun v => v.category).sum ≤ W) (hdg : decode c.code g.pc = .ok (.invokespecial index, 3)) (hc : cells + kc ≤ R.cells) (hs : slots + ks ≤ R.slots) :
    ∃ (v : Option Value) (T' : State) (L : List Loc), Stand p l e R s m args below meth c T' (locs ++ L) (cells + kc) (slots + ks) ∧ Q v T'.heap L ∧
      ∀ target, Steps p.tables e below (T'.setTop { g with pc := g.pc + 3, stack := v.toList ++ rest }) target → Steps p.tables e below (T.setTop g) target := by
  obtain ⟨v, _, ⟨T', L', k', n'⟩, -, X', ⟨L, hQ, q1, q2, q3⟩, st⟩ := X.specialBack hx hy1 hown (mvT hZ w1) (mvT hZ w2) (mvT hZ w4) hy K hg hsize (Steps.refl _) (a := a) hlen hstack hW hdg (fun _ _ => ⟨rfl, eT, hc, hs⟩)
  dsimp only [Pt.U, Pt.locs, Pt.cells, Pt.slots] at X' q1 q2 q3 st hQ
  subst q1 q2 q3
  exact ⟨v, T', L, X', hQ, fun t k => st.trans k⟩
theorem own_callVB (X : Stand p l e R s m args below meth c T locs cells slots) (hx : p.tables.exec = Jvm.exec) (hZ : Z.Warmed39 s.vm) {own C : String} {index : Nat} {y z : MethodName} (hown : s.vm.findClass own = some m.cls)
    (w1 : (Jvm.Cond.methodLink own index y).before a0 Z = true) (w2 : (Jvm.Cond.declares y).before a0 Z = true) (hnf : NotFace s y) (ws : (Jvm.Cond.selects C y z).before a0 Z = true) (wi : (Jvm.Cond.instanceMethod z).before a0 Z = true) (hy : y.cls ≠ "java/lang/invoke/MethodHandle" ∧ y.cls ≠ "java/lang/invoke/VarHandle")
    (eT : T.heap = h) {b : Addr} (E : Exa Z h b C) {W kc ks : Nat} {argsL rest : List Value} (K : Back l R p e below s args z 3 W (fun A a' => a' = (.ref b :: argsL).toArray ∧ A.U.heap = h ∧ A.cells + kc ≤ R.cells ∧ A.slots + ks ≤ R.slots) (fun A _ v B => ∃ L, Q v B.U.heap L ∧ B.locs = A.locs ++ L ∧ B.cells = A.cells + kc ∧ B.slots = A.slots + ks))
    {g : JFrame} (hg : g.method = m) (hsize : g.locals.size = c.maxLocals) (hlen : ∀ sig, parseMethodDescriptor y.desc = some sig → argsL.length = sig.parameters.length)
    (hstack : g.stack = argsL.reverse ++ .ref b :: rest) (hW : 2 * g.monitorRoom + (rest.map fun v => v.category).sum ≤ W) (hdg : decode c.code g.pc = .ok (.invokevirtual index, 3)) (hc : cells + kc ≤ R.cells) (hs : slots + ks ≤ R.slots) :
    ∃ (v : Option Value) (T' : State) (L : List Loc), Stand p l e R s m args below meth c T' (locs ++ L) (cells + kc) (slots + ks) ∧ Q v T'.heap L ∧
      ∀ target, Steps p.tables e below (T'.setTop { g with pc := g.pc + 3, stack := v.toList ++ rest }) target → Steps p.tables e below (T.setTop g) target := by
  obtain ⟨cq, kq, qa, qb, qc⟩ := isOf hZ eT E
  obtain ⟨v, _, ⟨T', L', k', n'⟩, -, X', ⟨L, hQ, q1, q2, q3⟩, st⟩ := X.virtualBack hx hown (mvT hZ w1) (mvT hZ w2) hnf (mvT hZ ws) (mvT hZ wi) hy K qa qc hg hsize (Steps.refl _) hlen hstack hW hdg (fun _ _ => ⟨rfl, eT, hc, hs⟩)
  dsimp only [Pt.U, Pt.locs, Pt.cells, Pt.slots] at X' q1 q2 q3 st hQ
  subst q1 q2 q3
  exact ⟨v, T', L, X', hQ, fun t k => st.trans k⟩
theorem own_cl_eq {x y : Int64} (h : x = y) : Jvm.Free.XT.cmpL x y = 0 := by
  subst h; unfold Jvm.Free.XT.cmpL
  rw [if_neg (by rw [Int64.lt_iff_toInt_lt]; omega), if_pos rfl]
theorem own_cl_eq_n {x y : Int64} (h : ¬ x = y) : ¬ Jvm.Free.XT.cmpL x y = 0 := by
  unfold Jvm.Free.XT.cmpL
  by_cases h1 : y < x
  · rw [if_pos h1]; decide
  · rw [if_neg h1, if_neg h]; decide
theorem own_cl_gt {x y : Int64} (h : y < x) : (0 : Int32) < Jvm.Free.XT.cmpL x y := by
  unfold Jvm.Free.XT.cmpL; rw [if_pos h]; decide
theorem own_cl_gt_n {x y : Int64} (h : ¬ y < x) : ¬ (0 : Int32) < Jvm.Free.XT.cmpL x y := by
  unfold Jvm.Free.XT.cmpL; rw [if_neg h]
  by_cases h1 : x = y
  · rw [if_pos h1]; decide
  · rw [if_neg h1]; decide
theorem own_cl_lt {x y : Int64} (h : x < y) : Jvm.Free.XT.cmpL x y < (0 : Int32) := by
  unfold Jvm.Free.XT.cmpL
  rw [if_neg (by rw [Int64.lt_iff_toInt_lt] at h ⊢; omega), if_neg (by intro q; subst q; rw [Int64.lt_iff_toInt_lt] at h; omega)]; decide
theorem own_cl_lt_n {x y : Int64} (h : ¬ x < y) : ¬ Jvm.Free.XT.cmpL x y < (0 : Int32) := by
  unfold Jvm.Free.XT.cmpL
  by_cases h1 : y < x
  · rw [if_pos h1]; decide
  · rw [if_neg h1]
    have h2 : x = y := by
      rw [Int64.lt_iff_toInt_lt] at h h1
      exact Int64.toInt_inj.mp (by omega)
    rw [if_pos h2]; decide
theorem own_eq_int {a : Array Value} {s : State} {t : Term} {k : Int32} (h : (Jvm.Cond.eq t (Term.int k)).value a s none s [] = some true) : t.eval a s none [] s = some (.int k) := by
  obtain ⟨x, y, hx, hy, k1, k2⟩ := cmp_v (Or.inl h)
  obtain rfl : y = .int k := Option.some.inj (hy.symm.trans (Term.int_eval k))
  obtain ⟨z, rfl⟩ := k2
  rw [hx, gotT (Cond.eq_ints hx hy) h]
end Own
section OwnFloat
open Jvm.FP.Core
/-- a finite double whose value is n / 2 ^ k -/
def own_V (x : UInt64) (n : Int) (k : Nat) : Prop := ∃ s c q, val64 x = .fin s c q ∧ signed s c * ((2 ^ (q + (k : Int)).toNat : Nat) : Int) = n * ((2 ^ (-(q + (k : Int))).toNat : Nat) : Int)
theorem own_canc {z a : Int} {p m : Nat} {E : Int} (hE : (p : Int) - m = E) (h : z * ((2 ^ p : Nat) : Int) = a * ((2 ^ m : Nat) : Int)) : z * ((2 ^ E.toNat : Nat) : Int) = a * ((2 ^ (-E).toNat : Nat) : Int) := by
  obtain ⟨t, e1, e2⟩ : ∃ t : Nat, p = E.toNat + t ∧ m = (-E).toNat + t := ⟨p - E.toNat, by omega, by omega⟩
  rw [e1, e2, Nat.pow_add, Nat.pow_add, Int.natCast_mul, Int.natCast_mul, ← Int.mul_assoc, ← Int.mul_assoc] at h
  exact Int.eq_of_mul_eq_mul_right (by have := Nat.two_pow_pos t; omega) h
theorem own_cancN {z a : Nat} {p m : Nat} {E : Int} (hE : (p : Int) - m = E) (h : z * 2 ^ p = a * 2 ^ m) : z * 2 ^ E.toNat = a * 2 ^ (-E).toNat := by
  have := own_canc (z := (z : Int)) (a := (a : Int)) hE (by exact_mod_cast h)
  exact_mod_cast this
theorem own_sgn {s : Bool} {A P M : Nat} {n : Int} (hM : 0 < M) (h : signed s A * (P : Int) = n * (M : Int)) : ∃ N : Nat, n = signed s N ∧ A * P = N * M := by
  have hM' : (0 : Int) < (M : Int) := by omega
  cases s with
  | false =>
    have h' : ((A * P : Nat) : Int) = n * (M : Int) := by rw [Int.natCast_mul]; exact h
    have hn : 0 ≤ n := by
      refine Int.le_of_not_gt fun q => ?_
      have := Int.mul_neg_of_neg_of_pos q hM'
      omega
    refine ⟨n.toNat, ?_, ?_⟩
    · show n = ((n.toNat : Nat) : Int); omega
    · have e : n = ((n.toNat : Nat) : Int) := by omega
      rw [e] at h'; exact_mod_cast h'
  | true =>
    have h0 : (-(A : Int)) * (P : Int) = n * (M : Int) := h
    have h' : ((A * P : Nat) : Int) = (-n) * (M : Int) := by rw [Int.natCast_mul, Int.neg_mul, ← h0, Int.neg_mul, Int.neg_neg]
    have hn : 0 ≤ -n := by
      refine Int.le_of_not_gt fun q => ?_
      have := Int.mul_neg_of_neg_of_pos q hM'
      omega
    refine ⟨(-n).toNat, ?_, ?_⟩
    · show n = -(((-n).toNat : Nat) : Int); omega
    · have e : -n = (((-n).toNat : Nat) : Int) := by omega
      rw [e] at h'; exact_mod_cast h'
theorem own_rr {s : Bool} {A B N k : Nat} {e : Int} (hN : N < 2 ^ 53) (hk : k ≤ 1000) (hB : 0 < B) (h : A * 2 ^ (e + (k : Int)).toNat = N * B * 2 ^ (-(e + (k : Int))).toNat) :
    ∃ c q, roundRatio b64 s A B e = .fin s c q ∧ c * 2 ^ (q + (k : Int)).toNat = N * 2 ^ (-(q + (k : Int))).toNat := by
  have hqmin : b64.qmin = -1074 := by decide
  have hqmax : b64.qmax = 971 := by decide
  by_cases h0 : N = 0
  · refine ⟨0, b64.qmin, ?_, by rw [h0, Nat.zero_mul, Nat.zero_mul]⟩
    rw [h0, Nat.zero_mul, Nat.zero_mul] at h
    have := Nat.two_pow_pos (e + (k : Int)).toNat
    rcases Nat.mul_eq_zero.mp h with q | q
    · unfold roundRatio; rw [if_pos q]
    · omega
  · have l1 : 2 ^ N.log2 ≤ N := Nat.log2_self_le h0
    have l2 : N < 2 ^ (N.log2 + 1) := Nat.lt_log2_self
    have l3 : N.log2 < 53 := by
      refine Nat.lt_of_not_le fun q => ?_
      have := Nat.pow_le_pow_right (show 0 < 2 by decide) q
      omega
    generalize N.log2 = L at l1 l2 l3
    obtain ⟨t, ht⟩ : ∃ t, L + t = 52 := ⟨52 - L, by omega⟩
    have c1 : 2 ^ 52 ≤ N * 2 ^ t := by
      have := Nat.mul_le_mul_right (2 ^ t) l1
      rwa [← Nat.pow_add, ht] at this
    have c2 : N * 2 ^ t < 2 ^ 53 := by
      have := Nat.mul_lt_mul_of_pos_right l2 (Nat.two_pow_pos t)
      rwa [← Nat.pow_add, show L + 1 + t = 53 by omega] at this
    refine ⟨N * 2 ^ t, -(k : Int) - t, ?_, ?_⟩
    · refine roundRatio_exact good_b64 hB ⟨c2, by omega, by omega, Or.inr c1⟩ ?_
      have := own_cancN (z := A) (a := N * 2 ^ t * B) (p := (e + (k : Int)).toNat + t) (m := (-(e + (k : Int))).toNat) (E := e - (-(k : Int) - t)) (by omega) (by
        rw [Nat.pow_add, ← Nat.mul_assoc, h]; ac_rfl)
      rw [show -(e - (-(k : Int) - t)) = -(k : Int) - t - e by omega] at this
      exact this
    · rw [show (-(k : Int) - t + (k : Int)).toNat = 0 by omega, show (-(-(k : Int) - t + (k : Int))).toNat = t by omega, Nat.pow_zero, Nat.mul_one]
theorem own_abs_signed (s : Bool) (N : Nat) : (signed s N).natAbs = N := by cases s <;> simp [signed]
theorem own_V_rr {x : UInt64} {s : Bool} {A B k : Nat} {e n : Int} (hx : val64 x = roundRatio b64 s A B e) (hB : 0 < B) (hk : k ≤ 1000) (hn : n.natAbs < 2 ^ 53)
    (h : signed s A * ((2 ^ (e + (k : Int)).toNat : Nat) : Int) = n * ((B * 2 ^ (-(e + (k : Int))).toNat : Nat) : Int)) : own_V x n k := by
  obtain ⟨N, rfl, hN⟩ := own_sgn (Nat.mul_pos hB (Nat.two_pow_pos _)) h
  rw [own_abs_signed] at hn
  obtain ⟨c, q, h1, h2⟩ := own_rr (s := s) hn hk hB (by rw [hN]; ac_rfl)
  refine ⟨s, c, q, hx.trans h1, ?_⟩
  cases s
  · show ((c : Nat) : Int) * _ = ((N : Nat) : Int) * _; exact_mod_cast h2
  · show (-((c : Nat) : Int)) * _ = (-((N : Nat) : Int)) * _
    rw [Int.neg_mul, Int.neg_mul]; congr 1; exact_mod_cast h2
theorem own_V_round {x : UInt64} {s : Bool} {A k : Nat} {e n : Int} (hx : val64 x = round b64 (.fin s A e)) (hk : k ≤ 1000) (hn : n.natAbs < 2 ^ 53)
    (h : signed s A * ((2 ^ (e + (k : Int)).toNat : Nat) : Int) = n * ((2 ^ (-(e + (k : Int))).toNat : Nat) : Int)) : own_V x n k :=
  own_V_rr (B := 1) hx (by decide) hk hn (by rw [Nat.one_mul]; exact h)
theorem own_V_int {x : UInt64} {n : Int} (hx : val64 x = round b64 (ofInt n)) (hn : n.natAbs < 2 ^ 53) : own_V x n 0 := by
  refine own_V_round (s := decide (n < 0)) (A := n.natAbs) (e := 0) hx (by decide) hn ?_
  simp only [Int.natCast_zero, Int.add_zero, Int.toNat_zero, Int.neg_zero, Nat.pow_zero]
  by_cases h : n < 0
  · rw [decide_eq_true h]; show -((n.natAbs : Nat) : Int) * _ = _; omega
  · rw [decide_eq_false h]; show ((n.natAbs : Nat) : Int) * _ = _; omega
theorem own_V_i2d (x : Int32) : own_V (FP.i2d x) x.toInt 0 := own_V_int (val64_i2d x) (by have := Int32.toInt_lt x; have := Int32.le_toInt x; omega)
theorem own_V_l2d {x : Int64} (h : x.toInt.natAbs < 2 ^ 53) : own_V (FP.l2d x) x.toInt 0 := own_V_int (val64_l2d x) h
theorem own_V_up {x : UInt64} {n : Int} {k : Nat} (j : Nat) (h : own_V x n k) : own_V x (n * ((2 ^ j : Nat) : Int)) (k + j) := by
  obtain ⟨s, c, q, h1, h2⟩ := h
  refine ⟨s, c, q, h1, ?_⟩
  refine own_canc (p := (q + (k : Int)).toNat + j) (m := (-(q + (k : Int))).toNat) (by omega) ?_
  rw [Nat.pow_add, Int.natCast_mul, ← Int.mul_assoc, h2, Int.mul_assoc, Int.mul_assoc, Int.mul_comm ((2 ^ j : Nat) : Int)]
theorem own_V_down {x : UInt64} {n : Int} {k : Nat} (j : Nat) (h : own_V x (n * ((2 ^ j : Nat) : Int)) (k + j)) : own_V x n k := by
  obtain ⟨s, c, q, h1, h2⟩ := h
  refine ⟨s, c, q, h1, ?_⟩
  refine own_canc (p := (q + ((k + j : Nat) : Int)).toNat) (m := j + (-(q + ((k + j : Nat) : Int))).toNat) (by omega) ?_
  rw [h2, Nat.pow_add, Int.natCast_mul, ← Int.mul_assoc]
theorem own_signed_mul (s : Bool) (c k : Nat) : signed s (c * k) = signed s c * (k : Int) := signed_mul s c k
theorem own_units {s : Bool} {c k : Nat} {q e n : Int} (he : e ≤ q) (h : signed s c * ((2 ^ (q + (k : Int)).toNat : Nat) : Int) = n * ((2 ^ (-(q + (k : Int))).toNat : Nat) : Int)) :
    signed s (inUnits c q e) * ((2 ^ (e + (k : Int)).toNat : Nat) : Int) = n * ((2 ^ (-(e + (k : Int))).toNat : Nat) : Int) := by
  refine own_canc (p := (q + (k : Int)).toNat) (m := (-(q + (k : Int))).toNat + (q - e).toNat) (by omega) ?_
  unfold inUnits
  rw [signed_mul, Nat.pow_add, Int.natCast_mul, ← Int.mul_assoc, ← h, Int.mul_assoc, Int.mul_assoc, Int.mul_comm ((2 ^ (q - e).toNat : Nat) : Int)]
theorem own_sum_sign (s t : Bool) (v : Int) : signed (sumSign s t v) v.natAbs = v := by
  unfold sumSign
  by_cases h : v = 0
  · rw [h]; simp [signed]
  · rw [if_neg h]
    by_cases h' : v < 0
    · rw [decide_eq_true h']; show -((v.natAbs : Nat) : Int) = v; omega
    · rw [decide_eq_false h']; show ((v.natAbs : Nat) : Int) = v; omega
theorem own_V_sum {x y z : UInt64} {a b : Int} {k : Nat} (hz : ∀ s c q t d r, val64 x = .fin s c q → val64 y = .fin t d r → val64 z = round b64 (exactSum (.fin s c q) (.fin t d r))) (hx : own_V x a k) (hy : own_V y b k) (hk : k ≤ 1000) (hn : (a + b).natAbs < 2 ^ 53) : own_V z (a + b) k := by
  obtain ⟨s, c, q, h1, h2⟩ := hx
  obtain ⟨t, d, r, g1, g2⟩ := hy
  refine own_V_round (hz _ _ _ _ _ _ h1 g1) hk hn ?_
  rw [own_sum_sign]
  unfold sumUnits
  rw [Int.add_mul, own_units (Int.min_le_left q r) h2, own_units (Int.min_le_right q r) g2, Int.add_mul]
theorem own_V_add {x y : UInt64} {a b : Int} {k : Nat} (hx : own_V x a k) (hy : own_V y b k) (hk : k ≤ 1000) (hn : (a + b).natAbs < 2 ^ 53) : own_V (FP.dadd x y) (a + b) k :=
  own_V_sum (fun _ _ _ _ _ _ h1 h2 => by rw [← h1, ← h2]; exact val64_dadd x y) hx hy hk hn
theorem own_V_sub {x y : UInt64} {a b : Int} {k : Nat} (hx : own_V x a k) (hy : own_V y b k) (hk : k ≤ 1000) (hn : (a - b).natAbs < 2 ^ 53) : own_V (FP.dsub x y) (a - b) k := by
  obtain ⟨s, c, q, h1, h2⟩ := hx
  obtain ⟨t, d, r, g1, g2⟩ := hy
  have hv : val64 (FP.dsub x y) = round b64 (exactSum (.fin s c q) (.fin (!t) d r)) := by
    rw [← h1, show Datum.fin (!t) d r = negate (val64 y) by rw [g1]; rfl]; exact val64_dsub x y
  refine own_V_round hv hk hn ?_
  have g3 : signed (!t) d * ((2 ^ (r + (k : Int)).toNat : Nat) : Int) = (-b) * ((2 ^ (-(r + (k : Int))).toNat : Nat) : Int) := by
    rw [show signed (!t) d = -(signed t d) by cases t <;> simp [signed], Int.neg_mul, g2, Int.neg_mul]
  rw [own_sum_sign]
  unfold sumUnits
  rw [Int.add_mul, own_units (Int.min_le_left q r) h2, own_units (Int.min_le_right q r) g3, ← Int.add_mul, Int.sub_eq_add_neg]
theorem own_signed_prod (s t : Bool) (c d : Nat) : signed (s != t) (c * d) = signed s c * signed t d := by
  cases s <;> cases t <;> simp [signed, Int.neg_mul, Int.mul_neg]
theorem own_V_mul {x y : UInt64} {a b : Int} {k l : Nat} (hx : own_V x a k) (hy : own_V y b l) (hk : k + l ≤ 1000) (hn : (a * b).natAbs < 2 ^ 53) : own_V (FP.dmul x y) (a * b) (k + l) := by
  obtain ⟨s, c, q, h1, h2⟩ := hx
  obtain ⟨t, d, r, g1, g2⟩ := hy
  have hv : val64 (FP.dmul x y) = round b64 (.fin (s != t) (c * d) (q + r)) := by
    rw [show Datum.fin (s != t) (c * d) (q + r) = exactProduct (val64 x) (val64 y) by rw [h1, g1]; rfl]; exact val64_dmul x y
  refine own_V_round hv hk hn ?_
  refine own_canc (p := (q + (k : Int)).toNat + (r + (l : Int)).toNat) (m := (-(q + (k : Int))).toNat + (-(r + (l : Int))).toNat) (by omega) ?_
  rw [own_signed_prod, Nat.pow_add, Nat.pow_add, Int.natCast_mul, Int.natCast_mul]
  calc signed s c * signed t d * (((2 ^ (q + (k : Int)).toNat : Nat) : Int) * ((2 ^ (r + (l : Int)).toNat : Nat) : Int))
      = (signed s c * ((2 ^ (q + (k : Int)).toNat : Nat) : Int)) * (signed t d * ((2 ^ (r + (l : Int)).toNat : Nat) : Int)) := by ac_rfl
    _ = (a * ((2 ^ (-(q + (k : Int))).toNat : Nat) : Int)) * (b * ((2 ^ (-(r + (l : Int))).toNat : Nat) : Int)) := by rw [h2, g2]
    _ = _ := by ac_rfl
theorem own_V_div {x y : UInt64} {a b n : Int} {k l j : Nat} (hx : own_V x a k) (hy : own_V y b l) (hb : b ≠ 0) (hj : j ≤ 1000) (hn : n.natAbs < 2 ^ 53) (h : a * ((2 ^ (l + j) : Nat) : Int) = n * b * ((2 ^ k : Nat) : Int)) : own_V (FP.ddiv x y) n j := by
  obtain ⟨s, c, q, h1, h2⟩ := hx
  obtain ⟨t, d, r, g1, g2⟩ := hy
  obtain ⟨A, rfl, hA⟩ := own_sgn (Nat.two_pow_pos _) h2
  obtain ⟨B, rfl, hB⟩ := own_sgn (Nat.two_pow_pos _) g2
  have hB0 : 0 < B := Nat.pos_of_ne_zero fun q => hb (by rw [q]; exact signed_zero t)
  have hd : 0 < d := Nat.pos_of_ne_zero fun q => by
    rw [q, Nat.zero_mul] at hB
    have := Nat.mul_pos hB0 (Nat.two_pow_pos (-(r + (l : Int))).toNat)
    omega
  have hv : val64 (FP.ddiv x y) = roundRatio b64 (s != t) c d (q - r) := by
    have := val64_ddiv x y
    rw [h1, g1] at this
    rw [show val64 (FP.ddiv x y) = quotient b64 (.fin s c q) (.fin t d r) from this]
    show (if d = 0 then _ else _) = _
    rw [if_neg (by omega)]
  have hs : signed (s != t) A * ((2 ^ (l + j) : Nat) : Int) = n * ((B * 2 ^ k : Nat) : Int) := by
    rw [Int.natCast_mul, ← Int.mul_assoc]
    cases s <;> cases t
    · exact h
    · have h' : ((A : Nat) : Int) * ((2 ^ (l + j) : Nat) : Int) = n * (-((B : Nat) : Int)) * ((2 ^ k : Nat) : Int) := h
      show (-((A : Nat) : Int)) * _ = _
      rw [Int.neg_mul, h', Int.mul_neg, Int.neg_mul, Int.neg_neg]
    · have h' : (-((A : Nat) : Int)) * ((2 ^ (l + j) : Nat) : Int) = n * ((B : Nat) : Int) * ((2 ^ k : Nat) : Int) := h
      show (-((A : Nat) : Int)) * _ = _
      exact h'
    · have h' : (-((A : Nat) : Int)) * ((2 ^ (l + j) : Nat) : Int) = n * (-((B : Nat) : Int)) * ((2 ^ k : Nat) : Int) := h
      show ((A : Nat) : Int) * _ = _
      rw [Int.neg_mul, Int.mul_neg, Int.neg_mul] at h'
      exact Int.neg_inj.mp h'
  obtain ⟨N, rfl, hN⟩ := own_sgn (Nat.mul_pos hB0 (Nat.two_pow_pos k)) hs
  rw [own_abs_signed] at hn
  obtain ⟨c', q', r1, r2⟩ := own_rr (s := s != t) (A := c) (B := d) (N := N) (k := j) (e := q - r) hn hj hd (by
    refine own_cancN (p := (q + (k : Int)).toNat + (l + j) + (-(r + (l : Int))).toNat) (m := (r + (l : Int)).toNat + k + (-(q + (k : Int))).toNat) (by omega) ?_
    have pw : ∀ u v w : Nat, 2 ^ (u + v + w) = 2 ^ u * 2 ^ v * 2 ^ w := fun u v w => by rw [Nat.pow_add, Nat.pow_add]
    rw [pw, pw]
    calc c * (2 ^ (q + (k : Int)).toNat * 2 ^ (l + j) * 2 ^ (-(r + (l : Int))).toNat)
        = (c * 2 ^ (q + (k : Int)).toNat) * (2 ^ (l + j) * 2 ^ (-(r + (l : Int))).toNat) := by ac_rfl
      _ = (A * 2 ^ (l + j)) * (2 ^ (-(q + (k : Int))).toNat * 2 ^ (-(r + (l : Int))).toNat) := by rw [hA]; ac_rfl
      _ = (B * 2 ^ (-(r + (l : Int))).toNat) * (N * 2 ^ k * 2 ^ (-(q + (k : Int))).toNat) := by rw [hN]; ac_rfl
      _ = _ := by rw [← hB]; ac_rfl)
  refine ⟨s != t, c', q', hv.trans r1, ?_⟩
  cases s != t
  · show ((c' : Nat) : Int) * _ = ((N : Nat) : Int) * _; exact_mod_cast r2
  · show (-((c' : Nat) : Int)) * _ = (-((N : Nat) : Int)) * _
    rw [Int.neg_mul, Int.neg_mul]; congr 1; exact_mod_cast r2
theorem own_cmp_scale {z w a b : Int} {P M : Nat} (hP : 0 < P) (hM : 0 < M) (h1 : z * (P : Int) = a * (M : Int)) (h2 : w * (P : Int) = b * (M : Int)) : compare z w = compare a b := by
  have hP' : (0 : Int) < (P : Int) := by omega
  have hM' : (0 : Int) < (M : Int) := by omega
  have key : ∀ {z w a b : Int}, z * (P : Int) = a * (M : Int) → w * (P : Int) = b * (M : Int) → z < w → a < b := by
    intro z w a b h1 h2 h
    have := Int.mul_lt_mul_of_pos_right h hP'
    rw [h1, h2] at this
    exact Int.lt_of_mul_lt_mul_right this (Int.le_of_lt hM')
  rcases Int.lt_trichotomy z w with h | h | h
  · rw [show compare z w = .lt from Int.compare_eq_lt.mpr h, show compare a b = .lt from Int.compare_eq_lt.mpr (key h1 h2 h)]
  · subst h
    have : a = b := Int.eq_of_mul_eq_mul_right (Int.ne_of_gt hM') (h1.symm.trans h2)
    rw [this, show compare z z = .eq from Int.compare_eq_eq.mpr rfl, show compare b b = .eq from Int.compare_eq_eq.mpr rfl]
  · rw [show compare z w = .gt from Int.compare_eq_gt.mpr h, show compare a b = .gt from Int.compare_eq_gt.mpr (key h2 h1 h)]
theorem own_V_cmp {x y : UInt64} {a b : Int} {k : Nat} (hx : own_V x a k) (hy : own_V y b k) : FP.dcmp x y = some (compare a b) := by
  obtain ⟨s, c, q, h1, h2⟩ := hx
  obtain ⟨t, d, r, g1, g2⟩ := hy
  show order (val64 x) (val64 y) = _
  rw [h1, g1]
  show some (compare _ _) = _
  rw [own_cmp_scale (Nat.two_pow_pos _) (Nat.two_pow_pos _) (own_units (Int.min_le_left q r) h2) (own_units (Int.min_le_right q r) g2)]
theorem own_V_nn {x : UInt64} {n : Int} {k : Nat} (h : own_V x n k) : val64 x ≠ .nan := by
  obtain ⟨s, c, q, h1, -⟩ := h
  rw [h1]; intro q; cases q
theorem own_V_no {x : UInt64} {n : Int} {k : Nat} (h : own_V x n k) : Jvm.Free.Fl.NoNaN64 x := Jvm.Free.Fl.noNaN64_no.mpr (decide_eq_false (own_V_nn h))
def own_ci (a b : Int) : Int32 := if a < b then -1 else if a = b then 0 else 1
theorem own_V_ci {x y : UInt64} {a b : Int} {k : Nat} (o : CmpOp) (hx : own_V x a k) (hy : own_V y b k) : cmpValue (FP.dcmp x y) o = own_ci a b := by
  rw [own_V_cmp hx hy]; unfold own_ci
  rcases Int.lt_trichotomy a b with h | h | h
  · rw [show compare a b = .lt from Int.compare_eq_lt.mpr h, if_pos h]; rfl
  · rw [show compare a b = .eq from Int.compare_eq_eq.mpr h, if_neg (by omega), if_pos h]; rfl
  · rw [show compare a b = .gt from Int.compare_eq_gt.mpr h, if_neg (by omega), if_neg (by omega)]; rfl
theorem own_ci_self (a : Int) : own_ci a a = 0 := by unfold own_ci; rw [if_neg (by omega), if_pos rfl]
end OwnFloat


theorem own_dd_0 : decode method_2_code 0 = .ok (.iload_n 0, 1) := by decide +kernel
theorem own_dd_1 : decode method_2_code 1 = .ok (.iconst 3, 1) := by decide +kernel
theorem own_dd_2 : decode method_2_code 2 = .ok (.iand, 1) := by decide +kernel
theorem own_dd_3 : decode method_2_code 3 = .ok (.istore_n 1, 1) := by decide +kernel
theorem own_dd_4 : decode method_2_code 4 = .ok (.iload_n 1, 1) := by decide +kernel
theorem own_dd_5 : decode method_2_code 5 = .ok (.iconst 3, 1) := by decide +kernel
theorem own_dd_6 : decode method_2_code 6 = .ok (.if_icmp .ne 10, 3) := by decide +kernel
theorem own_dd_9 : decode method_2_code 9 = .ok (.iload_n 0, 1) := by decide +kernel
theorem own_dd_10 : decode method_2_code 10 = .ok (.iconst 2, 1) := by decide +kernel
theorem own_dd_11 : decode method_2_code 11 = .ok (.ishr, 1) := by decide +kernel
theorem own_dd_12 : decode method_2_code 12 = .ok (.ldc 7, 2) := by decide +kernel
theorem own_dd_14 : decode method_2_code 14 = .ok (.irem, 1) := by decide +kernel
theorem own_dd_15 : decode method_2_code 15 = .ok (.ireturn, 1) := by decide +kernel
theorem own_dd_16 : decode method_2_code 16 = .ok (.iload_n 1, 1) := by decide +kernel
theorem own_dd_17 : decode method_2_code 17 = .ok (.iconst 1, 1) := by decide +kernel
theorem own_dd_18 : decode method_2_code 18 = .ok (.isub, 1) := by decide +kernel
theorem own_dd_19 : decode method_2_code 19 = .ok (.ireturn, 1) := by decide +kernel
theorem own_pn_SampleMeanAddPinLaw : plainName "com/example/varistat/varistat/stats/SampleMeanAddPinLaw" = true := by first | (simp [plainName, overriddenIn]; done) | decide +kernel
theorem own_efd (m : MethodId) (x0 : Int32) : entryFrame m #[(.int x0)] 2 = mkF m 0 #[.val (.int x0), .unset] [] := by first | (simp [entryFrame, mkF, argsToLocals, Value.category, maxLocals]; done) | rfl
def own_draw (p1 : Int32) : Int32 := (if (p1 &&& (3 : Int32)) = (3 : Int32) then ((p1 >>> ((2 : Int32) &&& 31)) % (1048576 : Int32)) else ((p1 &&& (3 : Int32)) - (1 : Int32)))
set_option maxRecDepth 65536 in
set_option maxHeartbeats 40000000 in
theorem own_rm_draw (l : Launch) (Z : State) (a0 : Array Value) (hw : ∀ d ∈ tables_1, d.before a0 Z = true) (p1 : Int32) (h0 : Heap) : own_Con l Z [] (⟨"com/example/varistat/varistat/stats/SampleMeanAddPinLaw", "draw", "(I)I"⟩ : MethodName) method_2_code 2 (some .int) ({ frames := 0, cells := 0, slots := 0, locals := 0 } : Room) #[(.int p1)] h0 (own_Q1 (some (.int (own_draw p1))) h0) := by
  refine own_body (plainFor_of_name own_pn_SampleMeanAddPinLaw) ?_
  intro p e s m below meth c s₁ X0 hx hby hml hret hlk hown hnm hZ e0
  refine oS (u' := s₁.setTop (mkF m 0 #[.val (.int p1), .unset] [])) (fun _ kst => castTop (own_efd m p1) kst) ?_
  refine oS (u' := s₁.setTop (mkF m 1 #[.val (.int p1), .unset] [(.int p1)])) (fun _ kst => XS.iloadN X0.here hx rfl (hb hby own_dd_0) rfl kst) ?_
  refine oS (u' := s₁.setTop (mkF m 2 #[.val (.int p1), .unset] [(.int (3 : Int32)), (.int p1)])) (fun _ kst => XS.iconst X0.here hx rfl (hb hby own_dd_1) kst) ?_
  refine oS (u' := s₁.setTop (mkF m 3 #[.val (.int p1), .unset] [(.int (p1 &&& (3 : Int32)))])) (fun _ kst => XS.iand X0.here hx rfl (hb hby own_dd_2) rfl kst) ?_
  refine oS (u' := s₁.setTop (mkF m 4 #[.val (.int p1), .val (.int (p1 &&& (3 : Int32)))] [])) (fun _ kst => XS.istoreN X0.here hx rfl (hb hby own_dd_3) rfl (l' := #[.val (.int p1), .val (.int (p1 &&& (3 : Int32)))]) rfl kst) ?_
  refine oS (u' := s₁.setTop (mkF m 5 #[.val (.int p1), .val (.int (p1 &&& (3 : Int32)))] [(.int (p1 &&& (3 : Int32)))])) (fun _ kst => XS.iloadN X0.here hx rfl (hb hby own_dd_4) rfl kst) ?_
  refine oS (u' := s₁.setTop (mkF m 6 #[.val (.int p1), .val (.int (p1 &&& (3 : Int32)))] [(.int (3 : Int32)), (.int (p1 &&& (3 : Int32)))])) (fun _ kst => XS.iconst X0.here hx rfl (hb hby own_dd_5) kst) ?_
  by_cases hc1 : (p1 &&& (3 : Int32)) = (3 : Int32)
  · refine oS (u' := s₁.setTop (mkF m 9 #[.val (.int p1), .val (.int (p1 &&& (3 : Int32)))] [])) (fun _ kst => XS.icmpNo X0.here hx rfl (hb hby own_dd_6) rfl (teq hc1).2 kst) ?_
    refine oS (u' := s₁.setTop (mkF m 10 #[.val (.int p1), .val (.int (p1 &&& (3 : Int32)))] [(.int p1)])) (fun _ kst => XS.iloadN X0.here hx rfl (hb hby own_dd_9) rfl kst) ?_
    refine oS (u' := s₁.setTop (mkF m 11 #[.val (.int p1), .val (.int (p1 &&& (3 : Int32)))] [(.int (2 : Int32)), (.int p1)])) (fun _ kst => XS.iconst X0.here hx rfl (hb hby own_dd_10) kst) ?_
    refine oS (u' := s₁.setTop (mkF m 12 #[.val (.int p1), .val (.int (p1 &&& (3 : Int32)))] [(.int (p1 >>> ((2 : Int32) &&& 31)))])) (fun _ kst => XS.ishr X0.here hx rfl (hb hby own_dd_11) rfl kst) ?_
    refine oS (u' := s₁.setTop (mkF m 14 #[.val (.int p1), .val (.int (p1 &&& (3 : Int32)))] [(.int (1048576 : Int32)), (.int (p1 >>> ((2 : Int32) &&& 31)))])) (fun _ kst => X0.ldcInt hx hown (mvT hZ (hw _ (List.mem_of_getElem? (i := 4) rfl))) (g := (mkF m 12 #[.val (.int p1), .val (.int (p1 &&& (3 : Int32)))] [(.int (p1 >>> ((2 : Int32) &&& 31)))])) rfl (hb hby own_dd_12) _ kst) ?_
    refine oS (u' := s₁.setTop (mkF m 15 #[.val (.int p1), .val (.int (p1 &&& (3 : Int32)))] [(.int ((p1 >>> ((2 : Int32) &&& 31)) % (1048576 : Int32)))])) (fun _ kst => iremM X0 hx rfl (hb hby own_dd_14) rfl (by decide) kst) ?_
    refine own_retI X0 hx hlk hret (hb hby own_dd_15) ?_ (by decide) (by decide)
    exact ⟨(by show (some (.int ((p1 >>> ((2 : Int32) &&& 31)) % (1048576 : Int32))) : Option Value) = _; unfold own_draw; rw [if_pos hc1]), e0, rfl⟩
  · refine oS (u' := s₁.setTop (mkF m 16 #[.val (.int p1), .val (.int (p1 &&& (3 : Int32)))] [])) (fun _ kst => XS.icmpYes X0.here hx rfl (pc0 := 6) (pc' := 16) rfl (hb hby own_dd_6) rfl (feq hc1).2 (by decide) (by decide) kst) ?_
    refine oS (u' := s₁.setTop (mkF m 17 #[.val (.int p1), .val (.int (p1 &&& (3 : Int32)))] [(.int (p1 &&& (3 : Int32)))])) (fun _ kst => XS.iloadN X0.here hx rfl (hb hby own_dd_16) rfl kst) ?_
    refine oS (u' := s₁.setTop (mkF m 18 #[.val (.int p1), .val (.int (p1 &&& (3 : Int32)))] [(.int (1 : Int32)), (.int (p1 &&& (3 : Int32)))])) (fun _ kst => XS.iconst X0.here hx rfl (hb hby own_dd_17) kst) ?_
    refine oS (u' := s₁.setTop (mkF m 19 #[.val (.int p1), .val (.int (p1 &&& (3 : Int32)))] [(.int ((p1 &&& (3 : Int32)) - (1 : Int32)))])) (fun _ kst => XS.isub X0.here hx rfl (hb hby own_dd_18) rfl kst) ?_
    refine own_retI X0 hx hlk hret (hb hby own_dd_19) ?_ (by decide) (by decide)
    exact ⟨(by show (some (.int ((p1 &&& (3 : Int32)) - (1 : Int32))) : Option Value) = _; unfold own_draw; rw [if_neg hc1]), e0, rfl⟩
def own_mu (x : UInt64) (cnt : Int64) (mu : UInt64) : UInt64 := FP.dadd mu (FP.ddiv (FP.dsub x mu) (FP.l2d (cnt + (1 : Int64))))
def own_sd (x : UInt64) (cnt : Int64) (mu sd : UInt64) : UInt64 := FP.dadd sd (FP.dmul (FP.dsub x mu) (FP.dsub x (own_mu x cnt mu)))
def own_on (x : UInt64) (n : Int64) : Int64 := if cmpValue (FP.dcmp x FP.dconst1) .l = (0 : Int32) then n + (1 : Int64) else n
def own_zo (x : UInt64) (z : Int32) : Int32 := if cmpValue (FP.dcmp x FP.dconst1) .l = (0 : Int32) then z else if cmpValue (FP.dcmp x FP.dconst0) .l = (0 : Int32) then z else (0 : Int32)
def own_Ok (x : UInt64) (cnt : Int64) (mu sd : UInt64) : Prop :=
  Jvm.Free.Fl.NoNaN64 (FP.dsub x mu) ∧ Jvm.Free.Fl.NoNaN64 (FP.ddiv (FP.dsub x mu) (FP.l2d (cnt + (1 : Int64)))) ∧ Jvm.Free.Fl.NoNaN64 (FP.dadd mu (FP.ddiv (FP.dsub x mu) (FP.l2d (cnt + (1 : Int64))))) ∧
  Jvm.Free.Fl.NoNaN64 (FP.dsub x (own_mu x cnt mu)) ∧ Jvm.Free.Fl.NoNaN64 (FP.dmul (FP.dsub x mu) (FP.dsub x (own_mu x cnt mu))) ∧ Jvm.Free.Fl.NoNaN64 (FP.dadd sd (FP.dmul (FP.dsub x mu) (FP.dsub x (own_mu x cnt mu))))
theorem own_mul_le {a b : Int} {m n : Nat} (ha : a.natAbs ≤ m) (hb : b.natAbs ≤ n) : (a * b).natAbs ≤ m * n := by
  rw [Int.natAbs_mul]; exact Nat.mul_le_mul ha hb
theorem own_step {x mu sd : UInt64} {cnt : Int64} {X M Q S : Int} {N : Nat} (hx : own_V x X 1) (hm : own_V mu M 1) (hs : own_V sd S 2) (hc : (cnt + (1 : Int64)).toInt = (N : Int)) (hN : 1 ≤ N) (hN2 : N ≤ 3)
    (hq : X - M = (N : Int) * Q) (bX : X.natAbs ≤ 8388608) (bM : M.natAbs ≤ 8388608) (bQ : Q.natAbs ≤ 16777216) (bS : S.natAbs ≤ 1125899906842624) :
    own_Ok x cnt mu sd ∧ own_V (own_mu x cnt mu) (M + Q) 1 ∧ own_V (own_sd x cnt mu sd) (S + (X - M) * (X - (M + Q))) 2 := by
  have hn := own_V_l2d (x := cnt + (1 : Int64)) (by rw [hc]; omega)
  rw [hc] at hn
  have v1 := own_V_sub hx hm (by decide) (by omega)
  have v2 : own_V (FP.ddiv (FP.dsub x mu) (FP.l2d (cnt + (1 : Int64)))) Q 1 := own_V_div v1 hn (by omega) (by decide) (by omega) (by
    rw [hq, Int.mul_comm (N : Int) Q])
  have v3 := own_V_add hm v2 (by decide) (by omega)
  have v4 : own_V (FP.dsub x (own_mu x cnt mu)) (X - (M + Q)) 1 := own_V_sub hx v3 (by decide) (by omega)
  have bp := own_mul_le (a := X - M) (b := X - (M + Q)) (m := 16777216) (n := 33554432) (by omega) (by omega)
  have v5 := own_V_mul v1 v4 (by decide) (by omega)
  have v6 := own_V_add hs v5 (by decide) (by omega)
  exact ⟨⟨own_V_no v1, own_V_no v2, own_V_no v3, own_V_no v4, own_V_no v5, own_V_no v6⟩, v3, v6⟩
theorem own_V_zero (k : Nat) : own_V (0 : UInt64) 0 k := ⟨false, 0, -1074, by decide +kernel, by show (0 : Int) * _ = _; rw [Int.zero_mul, Int.zero_mul]⟩
theorem own_V_d0 : own_V FP.dconst0 0 0 := own_V_zero 0
theorem own_V_d1 : own_V FP.dconst1 1 0 := ⟨false, 4503599627370496, -52, by decide +kernel, by decide⟩
theorem own_V_two : own_V (4611686018427387904 : UInt64) 2 0 := ⟨false, 4503599627370496, -51, by decide +kernel, by decide⟩
theorem own_ci_eq {a b : Int} : own_ci a b = (0 : Int32) ↔ a = b := by
  unfold own_ci
  constructor
  · intro h
    by_cases h1 : a < b
    · rw [if_pos h1] at h; exact absurd h (by decide)
    · rw [if_neg h1] at h
      by_cases h2 : a = b
      · exact h2
      · rw [if_neg h2] at h; exact absurd h (by decide)
  · intro h; rw [if_neg (by omega), if_pos h]
theorem own_on_int (a : Int32) (n : Int64) : own_on (FP.i2d a) n = if a = (1 : Int32) then n + (1 : Int64) else n := by
  unfold own_on
  rw [own_V_ci .l (own_V_i2d a) own_V_d1]
  have e : own_ci a.toInt 1 = (0 : Int32) ↔ a = (1 : Int32) := own_ci_eq.trans ⟨fun h => Int32.toInt_inj.mp (by rw [h]; rfl), fun h => by rw [h]; rfl⟩
  by_cases h : a = (1 : Int32)
  · rw [if_pos h, if_pos (e.mpr h)]
  · rw [if_neg h, if_neg (fun q => h (e.mp q))]
theorem own_zo_int (a : Int32) (z : Int32) : own_zo (FP.i2d a) z = if a = (1 : Int32) then z else if a = (0 : Int32) then z else (0 : Int32) := by
  unfold own_zo
  rw [own_V_ci .l (own_V_i2d a) own_V_d1, own_V_ci .l (own_V_i2d a) own_V_d0]
  have e : own_ci a.toInt 1 = (0 : Int32) ↔ a = (1 : Int32) := own_ci_eq.trans ⟨fun h => Int32.toInt_inj.mp (by rw [h]; rfl), fun h => by rw [h]; rfl⟩
  have e' : own_ci a.toInt 0 = (0 : Int32) ↔ a = (0 : Int32) := own_ci_eq.trans ⟨fun h => Int32.toInt_inj.mp (by rw [h]; rfl), fun h => by rw [h]; rfl⟩
  by_cases h : a = (1 : Int32)
  · rw [if_pos h, if_pos (e.mpr h)]
  · rw [if_neg h, if_neg (fun q => h (e.mp q))]
    by_cases h' : a = (0 : Int32)
    · rw [if_pos h', if_pos (e'.mpr h')]
    · rw [if_neg h', if_neg (fun q => h' (e'.mp q))]

theorem own_di_0 : decode prog_124_method_1_code 0 = .ok (.aload_n 0, 1) := by decide +kernel
theorem own_di_1 : decode prog_124_method_1_code 1 = .ok (.invokespecial 1, 3) := by decide +kernel
theorem own_di_4 : decode prog_124_method_1_code 4 = .ok (.aload_n 0, 1) := by decide +kernel
theorem own_di_5 : decode prog_124_method_1_code 5 = .ok (.iconst 1, 1) := by decide +kernel
theorem own_di_6 : decode prog_124_method_1_code 6 = .ok (.putfield 7, 3) := by decide +kernel
theorem own_di_9 : decode prog_124_method_1_code 9 = .ok (.return_, 1) := by decide +kernel
theorem own_pn_SampleMean : plainName "com/example/varistat/varistat/stats/SampleMean" = true := by first | (simp [plainName, overriddenIn]; done) | decide +kernel
theorem own_efi (m : MethodId) (x0 : Addr) : entryFrame m #[(.ref x0)] 1 = mkF m 0 #[.val (.ref x0)] [] := by first | (simp [entryFrame, mkF, argsToLocals, Value.category, maxLocals]; done) | rfl
theorem own_pd0 : parseMethodDescriptor "()V" = some ⟨[], none⟩ := by decide +kernel
set_option maxRecDepth 65536 in
set_option maxHeartbeats 40000000 in
theorem own_rm_sminit (l : Launch) (Z : State) (a0 : Array Value) (hw : ∀ d ∈ tables_1, d.before a0 Z = true) (r0 : Addr) (h0 : Heap) (n0 : Nat) (Z0 : n0 ≤ h0.size) (E0 : Exa Z h0 r0 "com/example/varistat/varistat/stats/SampleMean") (F0 : Fld Z h0 r0 "com/example/varistat/varistat/stats/SampleMean" "count" "J" (.long (0 : Int64))) (F1 : Fld Z h0 r0 "com/example/varistat/varistat/stats/SampleMean" "mean" "D" (.double (0 : UInt64))) (F2 : Fld Z h0 r0 "com/example/varistat/varistat/stats/SampleMean" "squaredDeviations" "D" (.double (0 : UInt64))) (F3 : Fld Z h0 r0 "com/example/varistat/varistat/stats/SampleMean" "ones" "J" (.long (0 : Int64))) (F4 : Fld Z h0 r0 "com/example/varistat/varistat/stats/SampleMean" "zeroOne" "Z" (.int (0 : Int32))) (g0 : n0 ≤ r0) : own_Con l Z [] (⟨"com/example/varistat/varistat/stats/SampleMean", "<init>", "()V"⟩ : MethodName) prog_124_method_1_code 1 none ({ frames := 1, cells := 0, slots := 0, locals := 12 } : Room) #[(.ref r0)] h0 (fun v h L => v = none ∧ Fr n0 L ∧ Keep h0 h [r0] ∧ Fld Z h r0 "com/example/varistat/varistat/stats/SampleMean" "count" "J" (.long (0 : Int64)) ∧ Fld Z h r0 "com/example/varistat/varistat/stats/SampleMean" "mean" "D" (.double (0 : UInt64)) ∧ Fld Z h r0 "com/example/varistat/varistat/stats/SampleMean" "squaredDeviations" "D" (.double (0 : UInt64)) ∧ Fld Z h r0 "com/example/varistat/varistat/stats/SampleMean" "ones" "J" (.long (0 : Int64)) ∧ Fld Z h r0 "com/example/varistat/varistat/stats/SampleMean" "zeroOne" "Z" (.int (1 : Int32))) := by
  refine own_body (plainFor_of_name own_pn_SampleMean) ?_
  intro p e s m below meth c s₁ X0 hx hby hml hret hlk hown hnm hZ e0
  have N0 := Fr.nil n0
  have K0 : Keep h0 h0 [r0] := Keep.refl _ _
  refine oS (u' := s₁.setTop (mkF m 0 #[.val (.ref r0)] [])) (fun _ kst => castTop (own_efi m r0) kst) ?_
  refine oS (u' := s₁.setTop (mkF m 1 #[.val (.ref r0)] [(.ref r0)])) (fun _ kst => XS.aloadN X0.here hx rfl (hb hby own_di_0) rfl rfl kst) ?_
  obtain ⟨T2, X2, e2, st2⟩ := initO X0 hx hZ hown (hw _ (List.mem_of_getElem? (i := 11) rfl)) (hw _ (List.mem_of_getElem? (i := 12) rfl)) (hw _ (List.mem_of_getElem? (i := 13) rfl)) e0 (g := (mkF m 1 #[.val (.ref r0)] [(.ref r0)])) rfl (by rw [hml]; rfl) rfl (hb hby own_di_1) (by decide) (W := 0) (by show 2 * 0 + _ ≤ _; exact Nat.le_of_eq rfl) (by decide)
  refine oS (u' := T2.setTop (mkF m 4 #[.val (.ref r0)] [])) st2 ?_
  refine oS (u' := T2.setTop (mkF m 5 #[.val (.ref r0)] [(.ref r0)])) (fun _ kst => XS.aloadN X2.here hx rfl (hb hby own_di_4) rfl rfl kst) ?_
  refine oS (u' := T2.setTop (mkF m 6 #[.val (.ref r0)] [(.int (1 : Int32)), (.ref r0)])) (fun _ kst => XS.iconst X2.here hx rfl (hb hby own_di_5) kst) ?_
  obtain ⟨T3, h3, X3, e3, W3, st3⟩ := putF X2 hx hZ hown (host := "") (Or.inl (hw _ (List.mem_of_getElem? (i := 14) rfl))) Via.refl e2 F4 E0 (Or.inl (hw _ (List.mem_of_getElem? (i := 15) rfl))) (hw _ (List.mem_of_getElem? (i := 6) rfl)) (ty := .boolean) (by decide) rfl rfl (g := (mkF m 6 #[.val (.ref r0)] [(.int (1 : Int32)), (.ref r0)])) rfl rfl (hb hby own_di_6)
  have f3_E_r0 := E0.wr W3
  have f3_F_r0_count := F0.other W3 (Or.inr (slot_ne (Or.inl (hw _ (List.mem_of_getElem? (i := 22) rfl))) (Or.inl (hw _ (List.mem_of_getElem? (i := 15) rfl))) (by decide) (t := .long) (t' := .boolean) (by decide) (by decide)))
  have f3_F_r0_mean := F1.other W3 (Or.inr (slot_ne (Or.inl (hw _ (List.mem_of_getElem? (i := 24) rfl))) (Or.inl (hw _ (List.mem_of_getElem? (i := 15) rfl))) (by decide) (t := .double) (t' := .boolean) (by decide) (by decide)))
  have f3_F_r0_squaredDeviations := F2.other W3 (Or.inr (slot_ne (Or.inl (hw _ (List.mem_of_getElem? (i := 26) rfl))) (Or.inl (hw _ (List.mem_of_getElem? (i := 15) rfl))) (by decide) (t := .double) (t' := .boolean) (by decide) (by decide)))
  have f3_F_r0_ones := F3.other W3 (Or.inr (slot_ne (Or.inl (hw _ (List.mem_of_getElem? (i := 43) rfl))) (Or.inl (hw _ (List.mem_of_getElem? (i := 15) rfl))) (by decide) (t := .long) (t' := .boolean) (by decide) (by decide)))
  have f3_F_r0_zeroOne := F4.same W3
  have K3 := K0.wr W3 (Or.inl (List.mem_of_getElem? (i := 0) rfl))
  have Z3 := Nat.le_trans Z0 (Keep.of_wr W3).1
  have N3 := Fr.snoc X3 N0 g0
  refine oS (u' := T3.setTop (mkF m 9 #[.val (.ref r0)] [])) st3 ?_
  refine own_ret0 X3 hx hlk hret (hb hby own_di_9) ?_ (by decide) (by decide)
  show _ ∧ _
  rw [e3]
  exact ⟨rfl, N3, K3, f3_F_r0_count, f3_F_r0_mean, f3_F_r0_squaredDeviations, f3_F_r0_ones, f3_F_r0_zeroOne⟩
theorem own_da_0 : decode prog_124_method_2_code 0 = .ok (.aload_n 0, 1) := by decide +kernel
theorem own_da_1 : decode prog_124_method_2_code 1 = .ok (.dup, 1) := by decide +kernel
theorem own_da_2 : decode prog_124_method_2_code 2 = .ok (.getfield 13, 3) := by decide +kernel
theorem own_da_5 : decode prog_124_method_2_code 5 = .ok (.lconst 1, 1) := by decide +kernel
theorem own_da_6 : decode prog_124_method_2_code 6 = .ok (.ladd, 1) := by decide +kernel
theorem own_da_7 : decode prog_124_method_2_code 7 = .ok (.putfield 13, 3) := by decide +kernel
theorem own_da_10 : decode prog_124_method_2_code 10 = .ok (.dload_n 1, 1) := by decide +kernel
theorem own_da_11 : decode prog_124_method_2_code 11 = .ok (.aload_n 0, 1) := by decide +kernel
theorem own_da_12 : decode prog_124_method_2_code 12 = .ok (.getfield 17, 3) := by decide +kernel
theorem own_da_15 : decode prog_124_method_2_code 15 = .ok (.dsub, 1) := by decide +kernel
theorem own_da_16 : decode prog_124_method_2_code 16 = .ok (.dstore_n 3, 1) := by decide +kernel
theorem own_da_17 : decode prog_124_method_2_code 17 = .ok (.aload_n 0, 1) := by decide +kernel
theorem own_da_18 : decode prog_124_method_2_code 18 = .ok (.dup, 1) := by decide +kernel
theorem own_da_19 : decode prog_124_method_2_code 19 = .ok (.getfield 17, 3) := by decide +kernel
theorem own_da_22 : decode prog_124_method_2_code 22 = .ok (.dload_n 3, 1) := by decide +kernel
theorem own_da_23 : decode prog_124_method_2_code 23 = .ok (.aload_n 0, 1) := by decide +kernel
theorem own_da_24 : decode prog_124_method_2_code 24 = .ok (.getfield 13, 3) := by decide +kernel
theorem own_da_27 : decode prog_124_method_2_code 27 = .ok (.l2d, 1) := by decide +kernel
theorem own_da_28 : decode prog_124_method_2_code 28 = .ok (.ddiv, 1) := by decide +kernel
theorem own_da_29 : decode prog_124_method_2_code 29 = .ok (.dadd, 1) := by decide +kernel
theorem own_da_30 : decode prog_124_method_2_code 30 = .ok (.putfield 17, 3) := by decide +kernel
theorem own_da_33 : decode prog_124_method_2_code 33 = .ok (.aload_n 0, 1) := by decide +kernel
theorem own_da_34 : decode prog_124_method_2_code 34 = .ok (.dup, 1) := by decide +kernel
theorem own_da_35 : decode prog_124_method_2_code 35 = .ok (.getfield 21, 3) := by decide +kernel
theorem own_da_38 : decode prog_124_method_2_code 38 = .ok (.dload_n 3, 1) := by decide +kernel
theorem own_da_39 : decode prog_124_method_2_code 39 = .ok (.dload_n 1, 1) := by decide +kernel
theorem own_da_40 : decode prog_124_method_2_code 40 = .ok (.aload_n 0, 1) := by decide +kernel
theorem own_da_41 : decode prog_124_method_2_code 41 = .ok (.getfield 17, 3) := by decide +kernel
theorem own_da_44 : decode prog_124_method_2_code 44 = .ok (.dsub, 1) := by decide +kernel
theorem own_da_45 : decode prog_124_method_2_code 45 = .ok (.dmul, 1) := by decide +kernel
theorem own_da_46 : decode prog_124_method_2_code 46 = .ok (.dadd, 1) := by decide +kernel
theorem own_da_47 : decode prog_124_method_2_code 47 = .ok (.putfield 21, 3) := by decide +kernel
theorem own_da_50 : decode prog_124_method_2_code 50 = .ok (.dload_n 1, 1) := by decide +kernel
theorem own_da_51 : decode prog_124_method_2_code 51 = .ok (.dconst 1, 1) := by decide +kernel
theorem own_da_52 : decode prog_124_method_2_code 52 = .ok (.dcmp .l, 1) := by decide +kernel
theorem own_da_53 : decode prog_124_method_2_code 53 = .ok (.ifCond .ne 16, 3) := by decide +kernel
theorem own_da_56 : decode prog_124_method_2_code 56 = .ok (.aload_n 0, 1) := by decide +kernel
theorem own_da_57 : decode prog_124_method_2_code 57 = .ok (.dup, 1) := by decide +kernel
theorem own_da_58 : decode prog_124_method_2_code 58 = .ok (.getfield 24, 3) := by decide +kernel
theorem own_da_61 : decode prog_124_method_2_code 61 = .ok (.lconst 1, 1) := by decide +kernel
theorem own_da_62 : decode prog_124_method_2_code 62 = .ok (.ladd, 1) := by decide +kernel
theorem own_da_63 : decode prog_124_method_2_code 63 = .ok (.putfield 24, 3) := by decide +kernel
theorem own_da_66 : decode prog_124_method_2_code 66 = .ok (.goto 14, 3) := by decide +kernel
theorem own_da_69 : decode prog_124_method_2_code 69 = .ok (.dload_n 1, 1) := by decide +kernel
theorem own_da_70 : decode prog_124_method_2_code 70 = .ok (.dconst 0, 1) := by decide +kernel
theorem own_da_71 : decode prog_124_method_2_code 71 = .ok (.dcmp .l, 1) := by decide +kernel
theorem own_da_72 : decode prog_124_method_2_code 72 = .ok (.ifCond .eq 8, 3) := by decide +kernel
theorem own_da_75 : decode prog_124_method_2_code 75 = .ok (.aload_n 0, 1) := by decide +kernel
theorem own_da_76 : decode prog_124_method_2_code 76 = .ok (.iconst 0, 1) := by decide +kernel
theorem own_da_77 : decode prog_124_method_2_code 77 = .ok (.putfield 7, 3) := by decide +kernel
theorem own_da_80 : decode prog_124_method_2_code 80 = .ok (.return_, 1) := by decide +kernel
theorem own_efa (m : MethodId) (x0 : Addr) (x1 : UInt64) : entryFrame m #[(.ref x0), (.double x1)] 5 = mkF m 0 #[.val (.ref x0), .val (.double x1), .second, .unset, .unset] [] := by first | (simp [entryFrame, mkF, argsToLocals, Value.category, maxLocals]; done) | rfl
set_option maxRecDepth 65536 in
set_option maxHeartbeats 40000000 in
theorem own_rm_smadd (l : Launch) (Z : State) (a0 : Array Value) (hw : ∀ d ∈ tables_1, d.before a0 Z = true) (r0 : Addr) (p1 : UInt64) (cnt : Int64) (mu : UInt64) (sd : UInt64) (on : Int64) (zo : Int32) (h0 : Heap) (n0 : Nat) (Z0 : n0 ≤ h0.size) (E0 : Exa Z h0 r0 "com/example/varistat/varistat/stats/SampleMean") (F0 : Fld Z h0 r0 "com/example/varistat/varistat/stats/SampleMean" "count" "J" (.long cnt)) (F1 : Fld Z h0 r0 "com/example/varistat/varistat/stats/SampleMean" "mean" "D" (.double mu)) (F2 : Fld Z h0 r0 "com/example/varistat/varistat/stats/SampleMean" "squaredDeviations" "D" (.double sd)) (F3 : Fld Z h0 r0 "com/example/varistat/varistat/stats/SampleMean" "ones" "J" (.long on)) (F4 : Fld Z h0 r0 "com/example/varistat/varistat/stats/SampleMean" "zeroOne" "Z" (.int zo)) (g0 : n0 ≤ r0) (ok : own_Ok p1 cnt mu sd) : own_Con l Z [] (⟨"com/example/varistat/varistat/stats/SampleMean", "add", "(D)V"⟩ : MethodName) prog_124_method_2_code 5 none ({ frames := 0, cells := 0, slots := 0, locals := 0 } : Room) #[(.ref r0), (.double p1)] h0 (fun v h L => v = none ∧ Fr n0 L ∧ Keep h0 h [r0] ∧ Fld Z h r0 "com/example/varistat/varistat/stats/SampleMean" "count" "J" (.long (cnt + (1 : Int64))) ∧ Fld Z h r0 "com/example/varistat/varistat/stats/SampleMean" "mean" "D" (.double (own_mu p1 cnt mu)) ∧ Fld Z h r0 "com/example/varistat/varistat/stats/SampleMean" "squaredDeviations" "D" (.double (own_sd p1 cnt mu sd)) ∧ Fld Z h r0 "com/example/varistat/varistat/stats/SampleMean" "ones" "J" (.long (own_on p1 on)) ∧ Fld Z h r0 "com/example/varistat/varistat/stats/SampleMean" "zeroOne" "Z" (.int (own_zo p1 zo))) := by
  refine own_body (plainFor_of_name own_pn_SampleMean) ?_
  intro p e s m below meth c s₁ X0 hx hby hml hret hlk hown hnm hZ e0
  have N0 := Fr.nil n0
  have K0 : Keep h0 h0 [r0] := Keep.refl _ _
  refine oS (u' := s₁.setTop (mkF m 0 #[.val (.ref r0), .val (.double p1), .second, .unset, .unset] [])) (fun _ kst => castTop (own_efa m r0 p1) kst) ?_
  refine oS (u' := s₁.setTop (mkF m 1 #[.val (.ref r0), .val (.double p1), .second, .unset, .unset] [(.ref r0)])) (fun _ kst => XS.aloadN X0.here hx rfl (hb hby own_da_0) rfl rfl kst) ?_
  refine oS (u' := s₁.setTop (mkF m 2 #[.val (.ref r0), .val (.double p1), .second, .unset, .unset] [(.ref r0), (.ref r0)])) (fun _ kst => XS.dup X0.here hx rfl (hb hby own_da_1) rfl rfl kst) ?_
  obtain ⟨T4, X4, e4, st4⟩ := getF X0 hx hZ hown (host := "") (Or.inl (hw _ (List.mem_of_getElem? (i := 21) rfl))) Via.refl e0 F0 (g := (mkF m 2 #[.val (.ref r0), .val (.double p1), .second, .unset, .unset] [(.ref r0), (.ref r0)])) rfl rfl (hb hby own_da_2)
  refine oS (u' := T4.setTop (mkF m 5 #[.val (.ref r0), .val (.double p1), .second, .unset, .unset] [(.long cnt), (.ref r0)])) st4 ?_
  refine oS (u' := T4.setTop (mkF m 6 #[.val (.ref r0), .val (.double p1), .second, .unset, .unset] [(.long (1 : Int64)), (.long cnt), (.ref r0)])) (fun _ kst => XS.lconst X4.here hx rfl (hb hby own_da_5) kst) ?_
  refine oS (u' := T4.setTop (mkF m 7 #[.val (.ref r0), .val (.double p1), .second, .unset, .unset] [(.long (cnt + (1 : Int64))), (.ref r0)])) (fun _ kst => XS.ladd X4.here hx rfl (hb hby own_da_6) rfl kst) ?_
  obtain ⟨T5, h5, X5, e5, W5, st5⟩ := putF X4 hx hZ hown (host := "") (Or.inl (hw _ (List.mem_of_getElem? (i := 21) rfl))) Via.refl e4 F0 E0 (Or.inl (hw _ (List.mem_of_getElem? (i := 22) rfl))) (hw _ (List.mem_of_getElem? (i := 6) rfl)) (ty := .long) (by decide) rfl rfl (g := (mkF m 7 #[.val (.ref r0), .val (.double p1), .second, .unset, .unset] [(.long (cnt + (1 : Int64))), (.ref r0)])) rfl rfl (hb hby own_da_7)
  have f5_E_r0 := E0.wr W5
  have f5_F_r0_count := F0.same W5
  have f5_F_r0_mean := F1.other W5 (Or.inr (slot_ne (Or.inl (hw _ (List.mem_of_getElem? (i := 24) rfl))) (Or.inl (hw _ (List.mem_of_getElem? (i := 22) rfl))) (by decide) (t := .double) (t' := .long) (by decide) (by decide)))
  have f5_F_r0_squaredDeviations := F2.other W5 (Or.inr (slot_ne (Or.inl (hw _ (List.mem_of_getElem? (i := 26) rfl))) (Or.inl (hw _ (List.mem_of_getElem? (i := 22) rfl))) (by decide) (t := .double) (t' := .long) (by decide) (by decide)))
  have f5_F_r0_ones := F3.other W5 (Or.inr (slot_ne (Or.inl (hw _ (List.mem_of_getElem? (i := 43) rfl))) (Or.inl (hw _ (List.mem_of_getElem? (i := 22) rfl))) (by decide) (t := .long) (t' := .long) (by decide) (by decide)))
  have f5_F_r0_zeroOne := F4.other W5 (Or.inr (slot_ne (Or.inl (hw _ (List.mem_of_getElem? (i := 15) rfl))) (Or.inl (hw _ (List.mem_of_getElem? (i := 22) rfl))) (by decide) (t := .boolean) (t' := .long) (by decide) (by decide)))
  have K5 := K0.wr W5 (Or.inl (List.mem_of_getElem? (i := 0) rfl))
  have Z5 := Nat.le_trans Z0 (Keep.of_wr W5).1
  have N5 := Fr.snoc X5 N0 g0
  refine oS (u' := T5.setTop (mkF m 10 #[.val (.ref r0), .val (.double p1), .second, .unset, .unset] [])) st5 ?_
  refine oS (u' := T5.setTop (mkF m 11 #[.val (.ref r0), .val (.double p1), .second, .unset, .unset] [(.double p1)])) (fun _ kst => XS.dloadN X5.here hx rfl (hb hby own_da_10) rfl kst) ?_
  refine oS (u' := T5.setTop (mkF m 12 #[.val (.ref r0), .val (.double p1), .second, .unset, .unset] [(.ref r0), (.double p1)])) (fun _ kst => XS.aloadN X5.here hx rfl (hb hby own_da_11) rfl rfl kst) ?_
  obtain ⟨T6, X6, e6, st6⟩ := getF X5 hx hZ hown (host := "") (Or.inl (hw _ (List.mem_of_getElem? (i := 23) rfl))) Via.refl e5 f5_F_r0_mean (g := (mkF m 12 #[.val (.ref r0), .val (.double p1), .second, .unset, .unset] [(.ref r0), (.double p1)])) rfl rfl (hb hby own_da_12)
  refine oS (u' := T6.setTop (mkF m 15 #[.val (.ref r0), .val (.double p1), .second, .unset, .unset] [(.double mu), (.double p1)])) st6 ?_
  refine oS (u' := T6.setTop (mkF m 16 #[.val (.ref r0), .val (.double p1), .second, .unset, .unset] [(.double (FP.dsub p1 mu))])) (fun _ kst => XS.dsubS X6.here hx rfl (hb hby own_da_15) rfl ok.1 rfl kst) ?_
  refine oS (u' := T6.setTop (mkF m 17 #[.val (.ref r0), .val (.double p1), .second, .val (.double (FP.dsub p1 mu)), .second] [])) (fun _ kst => XS.dstoreN X6.here hx rfl (hb hby own_da_16) rfl (l' := #[.val (.ref r0), .val (.double p1), .second, .val (.double (FP.dsub p1 mu)), .second]) rfl kst) ?_
  refine oS (u' := T6.setTop (mkF m 18 #[.val (.ref r0), .val (.double p1), .second, .val (.double (FP.dsub p1 mu)), .second] [(.ref r0)])) (fun _ kst => XS.aloadN X6.here hx rfl (hb hby own_da_17) rfl rfl kst) ?_
  refine oS (u' := T6.setTop (mkF m 19 #[.val (.ref r0), .val (.double p1), .second, .val (.double (FP.dsub p1 mu)), .second] [(.ref r0), (.ref r0)])) (fun _ kst => XS.dup X6.here hx rfl (hb hby own_da_18) rfl rfl kst) ?_
  obtain ⟨T7, X7, e7, st7⟩ := getF X6 hx hZ hown (host := "") (Or.inl (hw _ (List.mem_of_getElem? (i := 23) rfl))) Via.refl e6 f5_F_r0_mean (g := (mkF m 19 #[.val (.ref r0), .val (.double p1), .second, .val (.double (FP.dsub p1 mu)), .second] [(.ref r0), (.ref r0)])) rfl rfl (hb hby own_da_19)
  refine oS (u' := T7.setTop (mkF m 22 #[.val (.ref r0), .val (.double p1), .second, .val (.double (FP.dsub p1 mu)), .second] [(.double mu), (.ref r0)])) st7 ?_
  refine oS (u' := T7.setTop (mkF m 23 #[.val (.ref r0), .val (.double p1), .second, .val (.double (FP.dsub p1 mu)), .second] [(.double (FP.dsub p1 mu)), (.double mu), (.ref r0)])) (fun _ kst => XS.dloadN X7.here hx rfl (hb hby own_da_22) rfl kst) ?_
  refine oS (u' := T7.setTop (mkF m 24 #[.val (.ref r0), .val (.double p1), .second, .val (.double (FP.dsub p1 mu)), .second] [(.ref r0), (.double (FP.dsub p1 mu)), (.double mu), (.ref r0)])) (fun _ kst => XS.aloadN X7.here hx rfl (hb hby own_da_23) rfl rfl kst) ?_
  obtain ⟨T8, X8, e8, st8⟩ := getF X7 hx hZ hown (host := "") (Or.inl (hw _ (List.mem_of_getElem? (i := 21) rfl))) Via.refl e7 f5_F_r0_count (g := (mkF m 24 #[.val (.ref r0), .val (.double p1), .second, .val (.double (FP.dsub p1 mu)), .second] [(.ref r0), (.double (FP.dsub p1 mu)), (.double mu), (.ref r0)])) rfl rfl (hb hby own_da_24)
  refine oS (u' := T8.setTop (mkF m 27 #[.val (.ref r0), .val (.double p1), .second, .val (.double (FP.dsub p1 mu)), .second] [(.long (cnt + (1 : Int64))), (.double (FP.dsub p1 mu)), (.double mu), (.ref r0)])) st8 ?_
  refine oS (u' := T8.setTop (mkF m 28 #[.val (.ref r0), .val (.double p1), .second, .val (.double (FP.dsub p1 mu)), .second] [(.double (FP.l2d (cnt + (1 : Int64)))), (.double (FP.dsub p1 mu)), (.double mu), (.ref r0)])) (fun _ kst => XS.l2dS X8.here hx rfl (hb hby own_da_27) rfl rfl kst) ?_
  refine oS (u' := T8.setTop (mkF m 29 #[.val (.ref r0), .val (.double p1), .second, .val (.double (FP.dsub p1 mu)), .second] [(.double (FP.ddiv (FP.dsub p1 mu) (FP.l2d (cnt + (1 : Int64))))), (.double mu), (.ref r0)])) (fun _ kst => XS.ddivS X8.here hx rfl (hb hby own_da_28) rfl ok.2.1 rfl kst) ?_
  refine oS (u' := T8.setTop (mkF m 30 #[.val (.ref r0), .val (.double p1), .second, .val (.double (FP.dsub p1 mu)), .second] [(.double (own_mu p1 cnt mu)), (.ref r0)])) (fun _ kst => XS.daddS X8.here hx rfl (hb hby own_da_29) rfl ok.2.2.1 rfl kst) ?_
  obtain ⟨T9, h9, X9, e9, W9, st9⟩ := putF X8 hx hZ hown (host := "") (Or.inl (hw _ (List.mem_of_getElem? (i := 23) rfl))) Via.refl e8 f5_F_r0_mean f5_E_r0 (Or.inl (hw _ (List.mem_of_getElem? (i := 24) rfl))) (hw _ (List.mem_of_getElem? (i := 6) rfl)) (ty := .double) (by decide) rfl rfl (g := (mkF m 30 #[.val (.ref r0), .val (.double p1), .second, .val (.double (FP.dsub p1 mu)), .second] [(.double (own_mu p1 cnt mu)), (.ref r0)])) rfl rfl (hb hby own_da_30)
  have f9_E_r0 := f5_E_r0.wr W9
  have f9_F_r0_count := f5_F_r0_count.other W9 (Or.inr (slot_ne (Or.inl (hw _ (List.mem_of_getElem? (i := 22) rfl))) (Or.inl (hw _ (List.mem_of_getElem? (i := 24) rfl))) (by decide) (t := .long) (t' := .double) (by decide) (by decide)))
  have f9_F_r0_mean := f5_F_r0_mean.same W9
  have f9_F_r0_squaredDeviations := f5_F_r0_squaredDeviations.other W9 (Or.inr (slot_ne (Or.inl (hw _ (List.mem_of_getElem? (i := 26) rfl))) (Or.inl (hw _ (List.mem_of_getElem? (i := 24) rfl))) (by decide) (t := .double) (t' := .double) (by decide) (by decide)))
  have f9_F_r0_ones := f5_F_r0_ones.other W9 (Or.inr (slot_ne (Or.inl (hw _ (List.mem_of_getElem? (i := 43) rfl))) (Or.inl (hw _ (List.mem_of_getElem? (i := 24) rfl))) (by decide) (t := .long) (t' := .double) (by decide) (by decide)))
  have f9_F_r0_zeroOne := f5_F_r0_zeroOne.other W9 (Or.inr (slot_ne (Or.inl (hw _ (List.mem_of_getElem? (i := 15) rfl))) (Or.inl (hw _ (List.mem_of_getElem? (i := 24) rfl))) (by decide) (t := .boolean) (t' := .double) (by decide) (by decide)))
  have K9 := K5.wr W9 (Or.inl (List.mem_of_getElem? (i := 0) rfl))
  have Z9 := Nat.le_trans Z5 (Keep.of_wr W9).1
  have N9 := Fr.snoc X9 N5 g0
  refine oS (u' := T9.setTop (mkF m 33 #[.val (.ref r0), .val (.double p1), .second, .val (.double (FP.dsub p1 mu)), .second] [])) st9 ?_
  refine oS (u' := T9.setTop (mkF m 34 #[.val (.ref r0), .val (.double p1), .second, .val (.double (FP.dsub p1 mu)), .second] [(.ref r0)])) (fun _ kst => XS.aloadN X9.here hx rfl (hb hby own_da_33) rfl rfl kst) ?_
  refine oS (u' := T9.setTop (mkF m 35 #[.val (.ref r0), .val (.double p1), .second, .val (.double (FP.dsub p1 mu)), .second] [(.ref r0), (.ref r0)])) (fun _ kst => XS.dup X9.here hx rfl (hb hby own_da_34) rfl rfl kst) ?_
  obtain ⟨T10, X10, e10, st10⟩ := getF X9 hx hZ hown (host := "") (Or.inl (hw _ (List.mem_of_getElem? (i := 25) rfl))) Via.refl e9 f9_F_r0_squaredDeviations (g := (mkF m 35 #[.val (.ref r0), .val (.double p1), .second, .val (.double (FP.dsub p1 mu)), .second] [(.ref r0), (.ref r0)])) rfl rfl (hb hby own_da_35)
  refine oS (u' := T10.setTop (mkF m 38 #[.val (.ref r0), .val (.double p1), .second, .val (.double (FP.dsub p1 mu)), .second] [(.double sd), (.ref r0)])) st10 ?_
  refine oS (u' := T10.setTop (mkF m 39 #[.val (.ref r0), .val (.double p1), .second, .val (.double (FP.dsub p1 mu)), .second] [(.double (FP.dsub p1 mu)), (.double sd), (.ref r0)])) (fun _ kst => XS.dloadN X10.here hx rfl (hb hby own_da_38) rfl kst) ?_
  refine oS (u' := T10.setTop (mkF m 40 #[.val (.ref r0), .val (.double p1), .second, .val (.double (FP.dsub p1 mu)), .second] [(.double p1), (.double (FP.dsub p1 mu)), (.double sd), (.ref r0)])) (fun _ kst => XS.dloadN X10.here hx rfl (hb hby own_da_39) rfl kst) ?_
  refine oS (u' := T10.setTop (mkF m 41 #[.val (.ref r0), .val (.double p1), .second, .val (.double (FP.dsub p1 mu)), .second] [(.ref r0), (.double p1), (.double (FP.dsub p1 mu)), (.double sd), (.ref r0)])) (fun _ kst => XS.aloadN X10.here hx rfl (hb hby own_da_40) rfl rfl kst) ?_
  obtain ⟨T11, X11, e11, st11⟩ := getF X10 hx hZ hown (host := "") (Or.inl (hw _ (List.mem_of_getElem? (i := 23) rfl))) Via.refl e10 f9_F_r0_mean (g := (mkF m 41 #[.val (.ref r0), .val (.double p1), .second, .val (.double (FP.dsub p1 mu)), .second] [(.ref r0), (.double p1), (.double (FP.dsub p1 mu)), (.double sd), (.ref r0)])) rfl rfl (hb hby own_da_41)
  refine oS (u' := T11.setTop (mkF m 44 #[.val (.ref r0), .val (.double p1), .second, .val (.double (FP.dsub p1 mu)), .second] [(.double (own_mu p1 cnt mu)), (.double p1), (.double (FP.dsub p1 mu)), (.double sd), (.ref r0)])) st11 ?_
  refine oS (u' := T11.setTop (mkF m 45 #[.val (.ref r0), .val (.double p1), .second, .val (.double (FP.dsub p1 mu)), .second] [(.double (FP.dsub p1 (own_mu p1 cnt mu))), (.double (FP.dsub p1 mu)), (.double sd), (.ref r0)])) (fun _ kst => XS.dsubS X11.here hx rfl (hb hby own_da_44) rfl ok.2.2.2.1 rfl kst) ?_
  refine oS (u' := T11.setTop (mkF m 46 #[.val (.ref r0), .val (.double p1), .second, .val (.double (FP.dsub p1 mu)), .second] [(.double (FP.dmul (FP.dsub p1 mu) (FP.dsub p1 (own_mu p1 cnt mu)))), (.double sd), (.ref r0)])) (fun _ kst => XS.dmulS X11.here hx rfl (hb hby own_da_45) rfl ok.2.2.2.2.1 rfl kst) ?_
  refine oS (u' := T11.setTop (mkF m 47 #[.val (.ref r0), .val (.double p1), .second, .val (.double (FP.dsub p1 mu)), .second] [(.double (own_sd p1 cnt mu sd)), (.ref r0)])) (fun _ kst => XS.daddS X11.here hx rfl (hb hby own_da_46) rfl ok.2.2.2.2.2 rfl kst) ?_
  obtain ⟨T12, h12, X12, e12, W12, st12⟩ := putF X11 hx hZ hown (host := "") (Or.inl (hw _ (List.mem_of_getElem? (i := 25) rfl))) Via.refl e11 f9_F_r0_squaredDeviations f9_E_r0 (Or.inl (hw _ (List.mem_of_getElem? (i := 26) rfl))) (hw _ (List.mem_of_getElem? (i := 6) rfl)) (ty := .double) (by decide) rfl rfl (g := (mkF m 47 #[.val (.ref r0), .val (.double p1), .second, .val (.double (FP.dsub p1 mu)), .second] [(.double (own_sd p1 cnt mu sd)), (.ref r0)])) rfl rfl (hb hby own_da_47)
  have f12_E_r0 := f9_E_r0.wr W12
  have f12_F_r0_count := f9_F_r0_count.other W12 (Or.inr (slot_ne (Or.inl (hw _ (List.mem_of_getElem? (i := 22) rfl))) (Or.inl (hw _ (List.mem_of_getElem? (i := 26) rfl))) (by decide) (t := .long) (t' := .double) (by decide) (by decide)))
  have f12_F_r0_mean := f9_F_r0_mean.other W12 (Or.inr (slot_ne (Or.inl (hw _ (List.mem_of_getElem? (i := 24) rfl))) (Or.inl (hw _ (List.mem_of_getElem? (i := 26) rfl))) (by decide) (t := .double) (t' := .double) (by decide) (by decide)))
  have f12_F_r0_squaredDeviations := f9_F_r0_squaredDeviations.same W12
  have f12_F_r0_ones := f9_F_r0_ones.other W12 (Or.inr (slot_ne (Or.inl (hw _ (List.mem_of_getElem? (i := 43) rfl))) (Or.inl (hw _ (List.mem_of_getElem? (i := 26) rfl))) (by decide) (t := .long) (t' := .double) (by decide) (by decide)))
  have f12_F_r0_zeroOne := f9_F_r0_zeroOne.other W12 (Or.inr (slot_ne (Or.inl (hw _ (List.mem_of_getElem? (i := 15) rfl))) (Or.inl (hw _ (List.mem_of_getElem? (i := 26) rfl))) (by decide) (t := .boolean) (t' := .double) (by decide) (by decide)))
  have K12 := K9.wr W12 (Or.inl (List.mem_of_getElem? (i := 0) rfl))
  have Z12 := Nat.le_trans Z9 (Keep.of_wr W12).1
  have N12 := Fr.snoc X12 N9 g0
  refine oS (u' := T12.setTop (mkF m 50 #[.val (.ref r0), .val (.double p1), .second, .val (.double (FP.dsub p1 mu)), .second] [])) st12 ?_
  refine oS (u' := T12.setTop (mkF m 51 #[.val (.ref r0), .val (.double p1), .second, .val (.double (FP.dsub p1 mu)), .second] [(.double p1)])) (fun _ kst => XS.dloadN X12.here hx rfl (hb hby own_da_50) rfl kst) ?_
  refine oS (u' := T12.setTop (mkF m 52 #[.val (.ref r0), .val (.double p1), .second, .val (.double (FP.dsub p1 mu)), .second] [(.double FP.dconst1), (.double p1)])) (fun _ kst => XS.dconst1 X12.here hx rfl (hb hby own_da_51) rfl kst) ?_
  refine oS (u' := T12.setTop (mkF m 53 #[.val (.ref r0), .val (.double p1), .second, .val (.double (FP.dsub p1 mu)), .second] [(.int (cmpValue (FP.dcmp p1 FP.dconst1) .l))])) (fun _ kst => XS.dcmpS X12.here hx rfl (hb hby own_da_52) rfl rfl kst) ?_
  by_cases hc13 : (cmpValue (FP.dcmp p1 FP.dconst1) .l) = (0 : Int32)
  · refine oS (u' := T12.setTop (mkF m 56 #[.val (.ref r0), .val (.double p1), .second, .val (.double (FP.dsub p1 mu)), .second] [])) (fun _ kst => XS.ifNo X12.here hx rfl (hb hby own_da_53) rfl ((if0 _ _).trans (teq hc13).2) kst) ?_
    refine oS (u' := T12.setTop (mkF m 57 #[.val (.ref r0), .val (.double p1), .second, .val (.double (FP.dsub p1 mu)), .second] [(.ref r0)])) (fun _ kst => XS.aloadN X12.here hx rfl (hb hby own_da_56) rfl rfl kst) ?_
    refine oS (u' := T12.setTop (mkF m 58 #[.val (.ref r0), .val (.double p1), .second, .val (.double (FP.dsub p1 mu)), .second] [(.ref r0), (.ref r0)])) (fun _ kst => XS.dup X12.here hx rfl (hb hby own_da_57) rfl rfl kst) ?_
    obtain ⟨T14, X14, e14, st14⟩ := getF X12 hx hZ hown (host := "") (Or.inl (hw _ (List.mem_of_getElem? (i := 42) rfl))) Via.refl e12 f12_F_r0_ones (g := (mkF m 58 #[.val (.ref r0), .val (.double p1), .second, .val (.double (FP.dsub p1 mu)), .second] [(.ref r0), (.ref r0)])) rfl rfl (hb hby own_da_58)
    refine oS (u' := T14.setTop (mkF m 61 #[.val (.ref r0), .val (.double p1), .second, .val (.double (FP.dsub p1 mu)), .second] [(.long on), (.ref r0)])) st14 ?_
    refine oS (u' := T14.setTop (mkF m 62 #[.val (.ref r0), .val (.double p1), .second, .val (.double (FP.dsub p1 mu)), .second] [(.long (1 : Int64)), (.long on), (.ref r0)])) (fun _ kst => XS.lconst X14.here hx rfl (hb hby own_da_61) kst) ?_
    refine oS (u' := T14.setTop (mkF m 63 #[.val (.ref r0), .val (.double p1), .second, .val (.double (FP.dsub p1 mu)), .second] [(.long (on + (1 : Int64))), (.ref r0)])) (fun _ kst => XS.ladd X14.here hx rfl (hb hby own_da_62) rfl kst) ?_
    obtain ⟨T15, h15, X15, e15, W15, st15⟩ := putF X14 hx hZ hown (host := "") (Or.inl (hw _ (List.mem_of_getElem? (i := 42) rfl))) Via.refl e14 f12_F_r0_ones f12_E_r0 (Or.inl (hw _ (List.mem_of_getElem? (i := 43) rfl))) (hw _ (List.mem_of_getElem? (i := 6) rfl)) (ty := .long) (by decide) rfl rfl (g := (mkF m 63 #[.val (.ref r0), .val (.double p1), .second, .val (.double (FP.dsub p1 mu)), .second] [(.long (on + (1 : Int64))), (.ref r0)])) rfl rfl (hb hby own_da_63)
    have f15_E_r0 := f12_E_r0.wr W15
    have f15_F_r0_count := f12_F_r0_count.other W15 (Or.inr (slot_ne (Or.inl (hw _ (List.mem_of_getElem? (i := 22) rfl))) (Or.inl (hw _ (List.mem_of_getElem? (i := 43) rfl))) (by decide) (t := .long) (t' := .long) (by decide) (by decide)))
    have f15_F_r0_mean := f12_F_r0_mean.other W15 (Or.inr (slot_ne (Or.inl (hw _ (List.mem_of_getElem? (i := 24) rfl))) (Or.inl (hw _ (List.mem_of_getElem? (i := 43) rfl))) (by decide) (t := .double) (t' := .long) (by decide) (by decide)))
    have f15_F_r0_squaredDeviations := f12_F_r0_squaredDeviations.other W15 (Or.inr (slot_ne (Or.inl (hw _ (List.mem_of_getElem? (i := 26) rfl))) (Or.inl (hw _ (List.mem_of_getElem? (i := 43) rfl))) (by decide) (t := .double) (t' := .long) (by decide) (by decide)))
    have f15_F_r0_ones := f12_F_r0_ones.same W15
    have f15_F_r0_zeroOne := f12_F_r0_zeroOne.other W15 (Or.inr (slot_ne (Or.inl (hw _ (List.mem_of_getElem? (i := 15) rfl))) (Or.inl (hw _ (List.mem_of_getElem? (i := 43) rfl))) (by decide) (t := .boolean) (t' := .long) (by decide) (by decide)))
    have K15 := K12.wr W15 (Or.inl (List.mem_of_getElem? (i := 0) rfl))
    have Z15 := Nat.le_trans Z12 (Keep.of_wr W15).1
    have N15 := Fr.snoc X15 N12 g0
    refine oS (u' := T15.setTop (mkF m 66 #[.val (.ref r0), .val (.double p1), .second, .val (.double (FP.dsub p1 mu)), .second] [])) st15 ?_
    refine oS (u' := T15.setTop (mkF m 80 #[.val (.ref r0), .val (.double p1), .second, .val (.double (FP.dsub p1 mu)), .second] [])) (fun _ kst => XS.goto X15.here hx rfl (pc0 := 66) (pc' := 80) rfl (hb hby own_da_66) (by decide) (by decide) kst) ?_
    refine own_ret0 X15 hx hlk hret (hb hby own_da_80) ?_ (by decide) (by decide)
    show _ ∧ _
    rw [e15]
    exact ⟨rfl, N15, K15, f15_F_r0_count, f15_F_r0_mean, f15_F_r0_squaredDeviations, (by unfold own_on; rw [if_pos hc13]; exact f15_F_r0_ones), (by unfold own_zo; rw [if_pos hc13]; exact f15_F_r0_zeroOne)⟩
  · refine oS (u' := T12.setTop (mkF m 69 #[.val (.ref r0), .val (.double p1), .second, .val (.double (FP.dsub p1 mu)), .second] [])) (fun _ kst => XS.ifYes X12.here hx rfl (pc0 := 53) (pc' := 69) rfl (hb hby own_da_53) rfl ((if0 _ _).trans (feq hc13).2) (by decide) (by decide) kst) ?_
    refine oS (u' := T12.setTop (mkF m 70 #[.val (.ref r0), .val (.double p1), .second, .val (.double (FP.dsub p1 mu)), .second] [(.double p1)])) (fun _ kst => XS.dloadN X12.here hx rfl (hb hby own_da_69) rfl kst) ?_
    refine oS (u' := T12.setTop (mkF m 71 #[.val (.ref r0), .val (.double p1), .second, .val (.double (FP.dsub p1 mu)), .second] [(.double FP.dconst0), (.double p1)])) (fun _ kst => XS.dconst0 X12.here hx rfl (hb hby own_da_70) rfl kst) ?_
    refine oS (u' := T12.setTop (mkF m 72 #[.val (.ref r0), .val (.double p1), .second, .val (.double (FP.dsub p1 mu)), .second] [(.int (cmpValue (FP.dcmp p1 FP.dconst0) .l))])) (fun _ kst => XS.dcmpS X12.here hx rfl (hb hby own_da_71) rfl rfl kst) ?_
    by_cases hc16 : (cmpValue (FP.dcmp p1 FP.dconst0) .l) = (0 : Int32)
    · refine oS (u' := T12.setTop (mkF m 80 #[.val (.ref r0), .val (.double p1), .second, .val (.double (FP.dsub p1 mu)), .second] [])) (fun _ kst => XS.ifYes X12.here hx rfl (pc0 := 72) (pc' := 80) rfl (hb hby own_da_72) rfl ((if0 _ _).trans (teq hc16).1) (by decide) (by decide) kst) ?_
      refine own_ret0 X12 hx hlk hret (hb hby own_da_80) ?_ (by decide) (by decide)
      show _ ∧ _
      rw [e12]
      exact ⟨rfl, N12, K12, f12_F_r0_count, f12_F_r0_mean, f12_F_r0_squaredDeviations, (by unfold own_on; rw [if_neg hc13]; exact f12_F_r0_ones), (by unfold own_zo; rw [if_neg hc13, if_pos hc16]; exact f12_F_r0_zeroOne)⟩
    · refine oS (u' := T12.setTop (mkF m 75 #[.val (.ref r0), .val (.double p1), .second, .val (.double (FP.dsub p1 mu)), .second] [])) (fun _ kst => XS.ifNo X12.here hx rfl (hb hby own_da_72) rfl ((if0 _ _).trans (feq hc16).1) kst) ?_
      refine oS (u' := T12.setTop (mkF m 76 #[.val (.ref r0), .val (.double p1), .second, .val (.double (FP.dsub p1 mu)), .second] [(.ref r0)])) (fun _ kst => XS.aloadN X12.here hx rfl (hb hby own_da_75) rfl rfl kst) ?_
      refine oS (u' := T12.setTop (mkF m 77 #[.val (.ref r0), .val (.double p1), .second, .val (.double (FP.dsub p1 mu)), .second] [(.int (0 : Int32)), (.ref r0)])) (fun _ kst => XS.iconst X12.here hx rfl (hb hby own_da_76) kst) ?_
      obtain ⟨T17, h17, X17, e17, W17, st17⟩ := putF X12 hx hZ hown (host := "") (Or.inl (hw _ (List.mem_of_getElem? (i := 14) rfl))) Via.refl e12 f12_F_r0_zeroOne f12_E_r0 (Or.inl (hw _ (List.mem_of_getElem? (i := 15) rfl))) (hw _ (List.mem_of_getElem? (i := 6) rfl)) (ty := .boolean) (by decide) rfl rfl (g := (mkF m 77 #[.val (.ref r0), .val (.double p1), .second, .val (.double (FP.dsub p1 mu)), .second] [(.int (0 : Int32)), (.ref r0)])) rfl rfl (hb hby own_da_77)
      have f17_E_r0 := f12_E_r0.wr W17
      have f17_F_r0_count := f12_F_r0_count.other W17 (Or.inr (slot_ne (Or.inl (hw _ (List.mem_of_getElem? (i := 22) rfl))) (Or.inl (hw _ (List.mem_of_getElem? (i := 15) rfl))) (by decide) (t := .long) (t' := .boolean) (by decide) (by decide)))
      have f17_F_r0_mean := f12_F_r0_mean.other W17 (Or.inr (slot_ne (Or.inl (hw _ (List.mem_of_getElem? (i := 24) rfl))) (Or.inl (hw _ (List.mem_of_getElem? (i := 15) rfl))) (by decide) (t := .double) (t' := .boolean) (by decide) (by decide)))
      have f17_F_r0_squaredDeviations := f12_F_r0_squaredDeviations.other W17 (Or.inr (slot_ne (Or.inl (hw _ (List.mem_of_getElem? (i := 26) rfl))) (Or.inl (hw _ (List.mem_of_getElem? (i := 15) rfl))) (by decide) (t := .double) (t' := .boolean) (by decide) (by decide)))
      have f17_F_r0_ones := f12_F_r0_ones.other W17 (Or.inr (slot_ne (Or.inl (hw _ (List.mem_of_getElem? (i := 43) rfl))) (Or.inl (hw _ (List.mem_of_getElem? (i := 15) rfl))) (by decide) (t := .long) (t' := .boolean) (by decide) (by decide)))
      have f17_F_r0_zeroOne := f12_F_r0_zeroOne.same W17
      have K17 := K12.wr W17 (Or.inl (List.mem_of_getElem? (i := 0) rfl))
      have Z17 := Nat.le_trans Z12 (Keep.of_wr W17).1
      have N17 := Fr.snoc X17 N12 g0
      refine oS (u' := T17.setTop (mkF m 80 #[.val (.ref r0), .val (.double p1), .second, .val (.double (FP.dsub p1 mu)), .second] [])) st17 ?_
      refine own_ret0 X17 hx hlk hret (hb hby own_da_80) ?_ (by decide) (by decide)
      show _ ∧ _
      rw [e17]
      exact ⟨rfl, N17, K17, f17_F_r0_count, f17_F_r0_mean, f17_F_r0_squaredDeviations, (by unfold own_on; rw [if_neg hc13]; exact f17_F_r0_ones), (by unfold own_zo; rw [if_neg hc13, if_neg hc16]; exact f17_F_r0_zeroOne)⟩
theorem own_dv_0 : decode prog_124_method_5_code 0 = .ok (.aload_n 0, 1) := by decide +kernel
theorem own_dv_1 : decode prog_124_method_5_code 1 = .ok (.getfield 13, 3) := by decide +kernel
theorem own_dv_4 : decode prog_124_method_5_code 4 = .ok (.ldc2_w 27, 3) := by decide +kernel
theorem own_dv_7 : decode prog_124_method_5_code 7 = .ok (.lcmp, 1) := by decide +kernel
theorem own_dv_8 : decode prog_124_method_5_code 8 = .ok (.ifCond .ge 9, 3) := by decide +kernel
theorem own_dv_11 : decode prog_124_method_5_code 11 = .ok (.ldc2_w 31, 3) := by decide +kernel
theorem own_dv_14 : decode prog_124_method_5_code 14 = .ok (.goto 15, 3) := by decide +kernel
theorem own_dv_17 : decode prog_124_method_5_code 17 = .ok (.aload_n 0, 1) := by decide +kernel
theorem own_dv_18 : decode prog_124_method_5_code 18 = .ok (.getfield 21, 3) := by decide +kernel
theorem own_dv_21 : decode prog_124_method_5_code 21 = .ok (.aload_n 0, 1) := by decide +kernel
theorem own_dv_22 : decode prog_124_method_5_code 22 = .ok (.getfield 13, 3) := by decide +kernel
theorem own_dv_25 : decode prog_124_method_5_code 25 = .ok (.lconst 1, 1) := by decide +kernel
theorem own_dv_26 : decode prog_124_method_5_code 26 = .ok (.lsub, 1) := by decide +kernel
theorem own_dv_27 : decode prog_124_method_5_code 27 = .ok (.l2d, 1) := by decide +kernel
theorem own_dv_28 : decode prog_124_method_5_code 28 = .ok (.ddiv, 1) := by decide +kernel
theorem own_dv_29 : decode prog_124_method_5_code 29 = .ok (.dreturn, 1) := by decide +kernel
theorem own_efv (m : MethodId) (x0 : Addr) : entryFrame m #[(.ref x0)] 1 = mkF m 0 #[.val (.ref x0)] [] := by first | (simp [entryFrame, mkF, argsToLocals, Value.category, maxLocals]; done) | rfl
def own_var (r0 : Addr) (cnt : Int64) (sd : UInt64) : UInt64 := (if cnt < (2 : Int64) then (9221120237041090560 : UInt64) else (FP.ddiv sd (FP.l2d (cnt - (1 : Int64)))))
set_option maxRecDepth 65536 in
set_option maxHeartbeats 40000000 in
theorem own_rm_var (l : Launch) (Z : State) (a0 : Array Value) (hw : ∀ d ∈ tables_1, d.before a0 Z = true) (r0 : Addr) (cnt : Int64) (sd : UInt64) (h0 : Heap) (Fc : Fld Z h0 r0 "com/example/varistat/varistat/stats/SampleMean" "count" "J" (.long cnt)) (Fs : Fld Z h0 r0 "com/example/varistat/varistat/stats/SampleMean" "squaredDeviations" "D" (.double sd)) (no : ¬ cnt < (2 : Int64) → Jvm.Free.Fl.NoNaN64 (FP.ddiv sd (FP.l2d (cnt - (1 : Int64))))) : own_Con l Z [] (⟨"com/example/varistat/varistat/stats/SampleMean", "variance", "()D"⟩ : MethodName) prog_124_method_5_code 1 (some .double) ({ frames := 0, cells := 0, slots := 0, locals := 0 } : Room) #[(.ref r0)] h0 (own_Q1 (some (.double (own_var r0 cnt sd))) h0) := by
  refine own_body (plainFor_of_name own_pn_SampleMean) ?_
  intro p e s m below meth c s₁ X0 hx hby hml hret hlk hown hnm hZ e0
  refine oS (u' := s₁.setTop (mkF m 0 #[.val (.ref r0)] [])) (fun _ kst => castTop (own_efv m r0) kst) ?_
  refine oS (u' := s₁.setTop (mkF m 1 #[.val (.ref r0)] [(.ref r0)])) (fun _ kst => XS.aloadN X0.here hx rfl (hb hby own_dv_0) rfl rfl kst) ?_
  obtain ⟨T18, X18, e18, st18⟩ := getF X0 hx hZ hown (host := "") (Or.inl (hw _ (List.mem_of_getElem? (i := 21) rfl))) Via.refl e0 Fc (g := (mkF m 1 #[.val (.ref r0)] [(.ref r0)])) rfl rfl (hb hby own_dv_1)
  refine oS (u' := T18.setTop (mkF m 4 #[.val (.ref r0)] [(.long cnt)])) st18 ?_
  refine oS (u' := T18.setTop (mkF m 7 #[.val (.ref r0)] [(.long (2 : Int64)), (.long cnt)])) (fun _ kst => X18.ldc2Long hx hown (mvT hZ (hw _ (List.mem_of_getElem? (i := 56) rfl))) (g := (mkF m 4 #[.val (.ref r0)] [(.long cnt)])) rfl (hb hby own_dv_4) _ kst) ?_
  refine oS (u' := T18.setTop (mkF m 8 #[.val (.ref r0)] [(.int (Jvm.Free.XT.cmpL cnt (2 : Int64)))])) (fun _ kst => XS.lcmp X18.here hx rfl (hb hby own_dv_7) rfl kst) ?_
  by_cases hc19 : cnt < (2 : Int64)
  · refine oS (u' := T18.setTop (mkF m 11 #[.val (.ref r0)] [])) (fun _ kst => XS.ifNo X18.here hx rfl (hb hby own_dv_8) rfl ((if0 _ _).trans (tlt (own_cl_lt hc19)).2.1) kst) ?_
    refine oS (u' := T18.setTop (mkF m 14 #[.val (.ref r0)] [(.double (9221120237041090560 : UInt64))])) (fun _ kst => X18.ldc2DoubleC hx hown (mvT hZ (hw _ (List.mem_of_getElem? (i := 57) rfl))) (g := (mkF m 11 #[.val (.ref r0)] [])) rfl (hb hby own_dv_11) _ kst) ?_
    refine oS (u' := T18.setTop (mkF m 29 #[.val (.ref r0)] [(.double (9221120237041090560 : UInt64))])) (fun _ kst => XS.goto X18.here hx rfl (pc0 := 14) (pc' := 29) rfl (hb hby own_dv_14) (by decide) (by decide) kst) ?_
    refine own_retD X18 hx hlk hret (hb hby own_dv_29) ?_ (by decide) (by decide)
    exact ⟨(by show (some (.double (9221120237041090560 : UInt64)) : Option Value) = _; unfold own_var; rw [if_pos hc19]), e18, rfl⟩
  · refine oS (u' := T18.setTop (mkF m 17 #[.val (.ref r0)] [])) (fun _ kst => XS.ifYes X18.here hx rfl (pc0 := 8) (pc' := 17) rfl (hb hby own_dv_8) rfl ((if0 _ _).trans (flt (own_cl_lt_n hc19)).2.1) (by decide) (by decide) kst) ?_
    refine oS (u' := T18.setTop (mkF m 18 #[.val (.ref r0)] [(.ref r0)])) (fun _ kst => XS.aloadN X18.here hx rfl (hb hby own_dv_17) rfl rfl kst) ?_
    obtain ⟨T20, X20, e20, st20⟩ := getF X18 hx hZ hown (host := "") (Or.inl (hw _ (List.mem_of_getElem? (i := 25) rfl))) Via.refl e18 Fs (g := (mkF m 18 #[.val (.ref r0)] [(.ref r0)])) rfl rfl (hb hby own_dv_18)
    refine oS (u' := T20.setTop (mkF m 21 #[.val (.ref r0)] [(.double sd)])) st20 ?_
    refine oS (u' := T20.setTop (mkF m 22 #[.val (.ref r0)] [(.ref r0), (.double sd)])) (fun _ kst => XS.aloadN X20.here hx rfl (hb hby own_dv_21) rfl rfl kst) ?_
    obtain ⟨T21, X21, e21, st21⟩ := getF X20 hx hZ hown (host := "") (Or.inl (hw _ (List.mem_of_getElem? (i := 21) rfl))) Via.refl e20 Fc (g := (mkF m 22 #[.val (.ref r0)] [(.ref r0), (.double sd)])) rfl rfl (hb hby own_dv_22)
    refine oS (u' := T21.setTop (mkF m 25 #[.val (.ref r0)] [(.long cnt), (.double sd)])) st21 ?_
    refine oS (u' := T21.setTop (mkF m 26 #[.val (.ref r0)] [(.long (1 : Int64)), (.long cnt), (.double sd)])) (fun _ kst => XS.lconst X21.here hx rfl (hb hby own_dv_25) kst) ?_
    refine oS (u' := T21.setTop (mkF m 27 #[.val (.ref r0)] [(.long (cnt - (1 : Int64))), (.double sd)])) (fun _ kst => XS.lsub X21.here hx rfl (hb hby own_dv_26) rfl kst) ?_
    refine oS (u' := T21.setTop (mkF m 28 #[.val (.ref r0)] [(.double (FP.l2d (cnt - (1 : Int64)))), (.double sd)])) (fun _ kst => XS.l2dS X21.here hx rfl (hb hby own_dv_27) rfl rfl kst) ?_
    refine oS (u' := T21.setTop (mkF m 29 #[.val (.ref r0)] [(.double (FP.ddiv sd (FP.l2d (cnt - (1 : Int64)))))])) (fun _ kst => XS.ddivS X21.here hx rfl (hb hby own_dv_28) rfl (no hc19) rfl kst) ?_
    refine own_retD X21 hx hlk hret (hb hby own_dv_29) ?_ (by decide) (by decide)
    exact ⟨(by show (some (.double (FP.ddiv sd (FP.l2d (cnt - (1 : Int64))))) : Option Value) = _; unfold own_var; rw [if_neg hc19]), e21, rfl⟩
theorem own_dg0_0 : decode prog_124_method_3_code 0 = .ok (.aload_n 0, 1) := by decide +kernel
theorem own_dg0_1 : decode prog_124_method_3_code 1 = .ok (.getfield 13, 3) := by decide +kernel
theorem own_dg0_4 : decode prog_124_method_3_code 4 = .ok (.lreturn, 1) := by decide +kernel
theorem own_efg0 (m : MethodId) (x0 : Addr) : entryFrame m #[(.ref x0)] 1 = mkF m 0 #[.val (.ref x0)] [] := by first | (simp [entryFrame, mkF, argsToLocals, Value.category, maxLocals]; done) | rfl
set_option maxRecDepth 65536 in
set_option maxHeartbeats 40000000 in
theorem own_rm_get_count (l : Launch) (Z : State) (a0 : Array Value) (hw : ∀ d ∈ tables_1, d.before a0 Z = true) (r0 : Addr) (v : Int64) (h0 : Heap) (F1 : Fld Z h0 r0 "com/example/varistat/varistat/stats/SampleMean" "count" "J" (.long v)) : own_Con l Z [] (⟨"com/example/varistat/varistat/stats/SampleMean", "count", "()J"⟩ : MethodName) prog_124_method_3_code 1 (some .long) ({ frames := 0, cells := 0, slots := 0, locals := 0 } : Room) #[(.ref r0)] h0 (own_Q1 (some (.long v)) h0) := by
  refine own_body (plainFor_of_name own_pn_SampleMean) ?_
  intro p e s m below meth c s₁ X0 hx hby hml hret hlk hown hnm hZ e0
  refine oS (u' := s₁.setTop (mkF m 0 #[.val (.ref r0)] [])) (fun _ kst => castTop (own_efg0 m r0) kst) ?_
  refine oS (u' := s₁.setTop (mkF m 1 #[.val (.ref r0)] [(.ref r0)])) (fun _ kst => XS.aloadN X0.here hx rfl (hb hby own_dg0_0) rfl rfl kst) ?_
  obtain ⟨T22, X22, e22, st22⟩ := getF X0 hx hZ hown (host := "") (Or.inl (hw _ (List.mem_of_getElem? (i := 21) rfl))) Via.refl e0 F1 (g := (mkF m 1 #[.val (.ref r0)] [(.ref r0)])) rfl rfl (hb hby own_dg0_1)
  refine oS (u' := T22.setTop (mkF m 4 #[.val (.ref r0)] [(.long v)])) st22 ?_
  refine own_retJ X22 hx hlk hret (hb hby own_dg0_4) ?_ (by decide) (by decide)
  exact ⟨rfl, e22, rfl⟩
theorem own_dg1_0 : decode prog_124_method_4_code 0 = .ok (.aload_n 0, 1) := by decide +kernel
theorem own_dg1_1 : decode prog_124_method_4_code 1 = .ok (.getfield 17, 3) := by decide +kernel
theorem own_dg1_4 : decode prog_124_method_4_code 4 = .ok (.dreturn, 1) := by decide +kernel
theorem own_efg1 (m : MethodId) (x0 : Addr) : entryFrame m #[(.ref x0)] 1 = mkF m 0 #[.val (.ref x0)] [] := by first | (simp [entryFrame, mkF, argsToLocals, Value.category, maxLocals]; done) | rfl
set_option maxRecDepth 65536 in
set_option maxHeartbeats 40000000 in
theorem own_rm_get_mean (l : Launch) (Z : State) (a0 : Array Value) (hw : ∀ d ∈ tables_1, d.before a0 Z = true) (r0 : Addr) (v : UInt64) (h0 : Heap) (F1 : Fld Z h0 r0 "com/example/varistat/varistat/stats/SampleMean" "mean" "D" (.double v)) : own_Con l Z [] (⟨"com/example/varistat/varistat/stats/SampleMean", "mean", "()D"⟩ : MethodName) prog_124_method_4_code 1 (some .double) ({ frames := 0, cells := 0, slots := 0, locals := 0 } : Room) #[(.ref r0)] h0 (own_Q1 (some (.double v)) h0) := by
  refine own_body (plainFor_of_name own_pn_SampleMean) ?_
  intro p e s m below meth c s₁ X0 hx hby hml hret hlk hown hnm hZ e0
  refine oS (u' := s₁.setTop (mkF m 0 #[.val (.ref r0)] [])) (fun _ kst => castTop (own_efg1 m r0) kst) ?_
  refine oS (u' := s₁.setTop (mkF m 1 #[.val (.ref r0)] [(.ref r0)])) (fun _ kst => XS.aloadN X0.here hx rfl (hb hby own_dg1_0) rfl rfl kst) ?_
  obtain ⟨T23, X23, e23, st23⟩ := getF X0 hx hZ hown (host := "") (Or.inl (hw _ (List.mem_of_getElem? (i := 23) rfl))) Via.refl e0 F1 (g := (mkF m 1 #[.val (.ref r0)] [(.ref r0)])) rfl rfl (hb hby own_dg1_1)
  refine oS (u' := T23.setTop (mkF m 4 #[.val (.ref r0)] [(.double v)])) st23 ?_
  refine own_retD X23 hx hlk hret (hb hby own_dg1_4) ?_ (by decide) (by decide)
  exact ⟨rfl, e23, rfl⟩
theorem own_dg2_0 : decode prog_124_method_7_code 0 = .ok (.aload_n 0, 1) := by decide +kernel
theorem own_dg2_1 : decode prog_124_method_7_code 1 = .ok (.getfield 24, 3) := by decide +kernel
theorem own_dg2_4 : decode prog_124_method_7_code 4 = .ok (.lreturn, 1) := by decide +kernel
theorem own_efg2 (m : MethodId) (x0 : Addr) : entryFrame m #[(.ref x0)] 1 = mkF m 0 #[.val (.ref x0)] [] := by first | (simp [entryFrame, mkF, argsToLocals, Value.category, maxLocals]; done) | rfl
set_option maxRecDepth 65536 in
set_option maxHeartbeats 40000000 in
theorem own_rm_get_ones (l : Launch) (Z : State) (a0 : Array Value) (hw : ∀ d ∈ tables_1, d.before a0 Z = true) (r0 : Addr) (v : Int64) (h0 : Heap) (F1 : Fld Z h0 r0 "com/example/varistat/varistat/stats/SampleMean" "ones" "J" (.long v)) : own_Con l Z [] (⟨"com/example/varistat/varistat/stats/SampleMean", "ones", "()J"⟩ : MethodName) prog_124_method_7_code 1 (some .long) ({ frames := 0, cells := 0, slots := 0, locals := 0 } : Room) #[(.ref r0)] h0 (own_Q1 (some (.long v)) h0) := by
  refine own_body (plainFor_of_name own_pn_SampleMean) ?_
  intro p e s m below meth c s₁ X0 hx hby hml hret hlk hown hnm hZ e0
  refine oS (u' := s₁.setTop (mkF m 0 #[.val (.ref r0)] [])) (fun _ kst => castTop (own_efg2 m r0) kst) ?_
  refine oS (u' := s₁.setTop (mkF m 1 #[.val (.ref r0)] [(.ref r0)])) (fun _ kst => XS.aloadN X0.here hx rfl (hb hby own_dg2_0) rfl rfl kst) ?_
  obtain ⟨T24, X24, e24, st24⟩ := getF X0 hx hZ hown (host := "") (Or.inl (hw _ (List.mem_of_getElem? (i := 42) rfl))) Via.refl e0 F1 (g := (mkF m 1 #[.val (.ref r0)] [(.ref r0)])) rfl rfl (hb hby own_dg2_1)
  refine oS (u' := T24.setTop (mkF m 4 #[.val (.ref r0)] [(.long v)])) st24 ?_
  refine own_retJ X24 hx hlk hret (hb hby own_dg2_4) ?_ (by decide) (by decide)
  exact ⟨rfl, e24, rfl⟩
theorem own_dg3_0 : decode prog_124_method_6_code 0 = .ok (.aload_n 0, 1) := by decide +kernel
theorem own_dg3_1 : decode prog_124_method_6_code 1 = .ok (.getfield 7, 3) := by decide +kernel
theorem own_dg3_4 : decode prog_124_method_6_code 4 = .ok (.ireturn, 1) := by decide +kernel
theorem own_efg3 (m : MethodId) (x0 : Addr) : entryFrame m #[(.ref x0)] 1 = mkF m 0 #[.val (.ref x0)] [] := by first | (simp [entryFrame, mkF, argsToLocals, Value.category, maxLocals]; done) | rfl
set_option maxRecDepth 65536 in
set_option maxHeartbeats 40000000 in
theorem own_rm_get_isZeroOne (l : Launch) (Z : State) (a0 : Array Value) (hw : ∀ d ∈ tables_1, d.before a0 Z = true) (r0 : Addr) (v : Int32) (h0 : Heap) (F1 : Fld Z h0 r0 "com/example/varistat/varistat/stats/SampleMean" "zeroOne" "Z" (.int v)) : own_Con l Z [] (⟨"com/example/varistat/varistat/stats/SampleMean", "isZeroOne", "()Z"⟩ : MethodName) prog_124_method_6_code 1 (some .boolean) ({ frames := 0, cells := 0, slots := 0, locals := 0 } : Room) #[(.ref r0)] h0 (own_Q1 (some (.int (v &&& 1))) h0) := by
  refine own_body (plainFor_of_name own_pn_SampleMean) ?_
  intro p e s m below meth c s₁ X0 hx hby hml hret hlk hown hnm hZ e0
  refine oS (u' := s₁.setTop (mkF m 0 #[.val (.ref r0)] [])) (fun _ kst => castTop (own_efg3 m r0) kst) ?_
  refine oS (u' := s₁.setTop (mkF m 1 #[.val (.ref r0)] [(.ref r0)])) (fun _ kst => XS.aloadN X0.here hx rfl (hb hby own_dg3_0) rfl rfl kst) ?_
  obtain ⟨T25, X25, e25, st25⟩ := getF X0 hx hZ hown (host := "") (Or.inl (hw _ (List.mem_of_getElem? (i := 14) rfl))) Via.refl e0 F1 (g := (mkF m 1 #[.val (.ref r0)] [(.ref r0)])) rfl rfl (hb hby own_dg3_1)
  refine oS (u' := T25.setTop (mkF m 4 #[.val (.ref r0)] [(.int v)])) st25 ?_
  refine own_retN X25 hx hlk (t := .boolean) hret (by simp) (hb hby own_dg3_4) ?_ (by decide) (by decide)
  exact ⟨rfl, e25, rfl⟩
def own_oa (p : Int32) : Int64 := if own_draw p = (1 : Int32) then (1 : Int64) else (0 : Int64)
def own_za (p : Int32) : Int32 := if own_draw p = (0 : Int32) then (1 : Int32) else (if own_draw p = (1 : Int32) then (1 : Int32) else (0 : Int32))
def own_zb (p1 p2 : Int32) : Int32 := if own_za p1 = (0 : Int32) then (0 : Int32) else (if own_draw p2 = (0 : Int32) then (1 : Int32) else (if own_draw p2 = (1 : Int32) then (1 : Int32) else (0 : Int32)))
theorem own_draw_in (p : Int32) : -1048576 ≤ (own_draw p).toInt ∧ (own_draw p).toInt ≤ 1048576 := by
  unfold own_draw
  split
  · generalize p >>> ((2 : Int32) &&& 31) = x
    have e : (x % (1048576 : Int32)).toInt = x.toInt.tmod (1048576 : Int32).toInt := Int32.toInt_mod x _
    have e2 : (1048576 : Int32).toInt = 1048576 := by decide
    rw [e2] at e
    have e3 := Int.natAbs_tmod x.toInt 1048576
    have e4 := Nat.mod_lt x.toInt.natAbs (show 0 < (1048576 : Int).natAbs by decide)
    rw [← e3, ← e] at e4
    have e5 : (1048576 : Int).natAbs = 1048576 := by decide
    omega
  · have e1 : (p &&& (3 : Int32)).toInt = p.toInt % 2 ^ 2 := Jvm.Kit.i32_mask p 3 (k := 2) (by decide) (by decide)
    have e4 : ((p &&& (3 : Int32)) - (1 : Int32)).toInt = p.toInt % 2 ^ 2 - 1 := by
      rw [Int32.toInt_sub, e1, show (1 : Int32).toInt = 1 from rfl]
      exact Int.bmod_eq_of_le (by omega) (by omega)
    omega
theorem own_V_i2d1 (a : Int32) : own_V (FP.i2d a) (a.toInt * 2) 1 := own_V_up 1 (own_V_i2d a)
theorem own_s1 (p : Int32) : own_Ok (FP.i2d (own_draw p)) (0 : Int64) (0 : UInt64) (0 : UInt64) ∧ own_V (own_mu (FP.i2d (own_draw p)) (0 : Int64) (0 : UInt64)) ((own_draw p).toInt * 2) 1 ∧ own_V (own_sd (FP.i2d (own_draw p)) (0 : Int64) (0 : UInt64) (0 : UInt64)) 0 2 := by
  have ha := own_draw_in p
  have hx := own_V_i2d1 (own_draw p)
  generalize own_draw p = a at ha hx
  obtain ⟨h1, h2, h3⟩ := own_step (N := 1) (Q := a.toInt * 2) (cnt := (0 : Int64)) hx (own_V_zero 1) (own_V_zero 2) (by decide) (by decide) (by decide) (by omega) (by omega) (by decide) (by omega) (by decide)
  refine ⟨h1, ?_, ?_⟩
  · rw [Int.zero_add] at h2; exact h2
  · rw [show a.toInt * 2 - (0 + a.toInt * 2) = 0 by omega, Int.mul_zero, Int.zero_add] at h3; exact h3
theorem own_s2 (p1 p2 : Int32) : own_Ok (FP.i2d (own_draw p2)) ((0 : Int64) + (1 : Int64)) (own_mu (FP.i2d (own_draw p1)) (0 : Int64) (0 : UInt64)) (own_sd (FP.i2d (own_draw p1)) (0 : Int64) (0 : UInt64) (0 : UInt64)) ∧
    own_V (own_mu (FP.i2d (own_draw p2)) ((0 : Int64) + (1 : Int64)) (own_mu (FP.i2d (own_draw p1)) (0 : Int64) (0 : UInt64))) ((own_draw p1).toInt + (own_draw p2).toInt) 1 ∧
    own_V (own_sd (FP.i2d (own_draw p2)) ((0 : Int64) + (1 : Int64)) (own_mu (FP.i2d (own_draw p1)) (0 : Int64) (0 : UInt64)) (own_sd (FP.i2d (own_draw p1)) (0 : Int64) (0 : UInt64) (0 : UInt64))) (((own_draw p2).toInt - (own_draw p1).toInt) * 2 * ((own_draw p2).toInt - (own_draw p1).toInt)) 2 := by
  obtain ⟨-, k2, k3⟩ := own_s1 p1
  have ha := own_draw_in p1
  have hb := own_draw_in p2
  have hx := own_V_i2d1 (own_draw p2)
  generalize own_draw p1 = a at ha k2 k3
  generalize own_draw p2 = b at hb hx
  obtain ⟨h1, h2, h3⟩ := own_step (N := 2) (Q := b.toInt - a.toInt) (cnt := (0 : Int64) + (1 : Int64)) hx k2 k3 (by decide) (by decide) (by decide) (by omega) (by omega) (by omega) (by omega) (by decide)
  refine ⟨h1, ?_, ?_⟩
  · rw [show a.toInt * 2 + (b.toInt - a.toInt) = a.toInt + b.toInt by omega] at h2; exact h2
  · rw [Int.zero_add, show b.toInt * 2 - a.toInt * 2 = (b.toInt - a.toInt) * 2 by omega, show b.toInt * 2 - (a.toInt * 2 + (b.toInt - a.toInt)) = b.toInt - a.toInt by omega] at h3; exact h3
theorem own_c1 (p : Int32) : cmpValue (FP.dcmp (own_mu (FP.i2d (own_draw p)) (0 : Int64) (0 : UInt64)) (FP.i2d (own_draw p))) .l = (0 : Int32) :=
  (own_V_ci .l (own_s1 p).2.1 (own_V_i2d1 _)).trans (own_ci_self _)
theorem own_s3 (p1 p2 : Int32) : own_V (FP.dmul (own_mu (FP.i2d (own_draw p2)) ((0 : Int64) + (1 : Int64)) (own_mu (FP.i2d (own_draw p1)) (0 : Int64) (0 : UInt64))) (4611686018427387904 : UInt64)) (((own_draw p1).toInt + (own_draw p2).toInt) * 2) 1 :=
  own_V_mul (own_s2 p1 p2).2.1 own_V_two (by decide) (by have := own_draw_in p1; have := own_draw_in p2; omega)
theorem own_c2 (p1 p2 : Int32) : cmpValue (FP.dcmp (FP.dmul (own_mu (FP.i2d (own_draw p2)) ((0 : Int64) + (1 : Int64)) (own_mu (FP.i2d (own_draw p1)) (0 : Int64) (0 : UInt64))) (4611686018427387904 : UInt64)) (FP.l2d ((own_draw p1).toInt64 + (own_draw p2).toInt64))) .l = (0 : Int32) := by
  have h := own_s3 p1 p2
  have ha := own_draw_in p1
  have hb := own_draw_in p2
  have e : ((own_draw p1).toInt64 + (own_draw p2).toInt64).toInt = (own_draw p1).toInt + (own_draw p2).toInt := by
    rw [Int64.toInt_add, Int32.toInt_toInt64, Int32.toInt_toInt64]
    exact Int.bmod_eq_of_le (by omega) (by omega)
  have k := own_V_up 1 (own_V_l2d (x := (own_draw p1).toInt64 + (own_draw p2).toInt64) (by rw [e]; omega))
  rw [e] at k
  exact (own_V_ci .l h k).trans (own_ci_self _)
theorem own_sq_bound {a b : Int} (ha : -1048576 ≤ a ∧ a ≤ 1048576) (hb : -1048576 ≤ b ∧ b ≤ 1048576) : ((b - a) * 2 * (b - a)).natAbs ≤ 8796093022208 := own_mul_le (m := 4194304) (n := 2097152) (by omega) (by omega)
theorem own_s4 (p1 p2 : Int32) : own_V (FP.ddiv (own_sd (FP.i2d (own_draw p2)) ((0 : Int64) + (1 : Int64)) (own_mu (FP.i2d (own_draw p1)) (0 : Int64) (0 : UInt64)) (own_sd (FP.i2d (own_draw p1)) (0 : Int64) (0 : UInt64) (0 : UInt64))) (FP.l2d ((((0 : Int64) + (1 : Int64)) + (1 : Int64)) - (1 : Int64)))) (((own_draw p2).toInt - (own_draw p1).toInt) * 2 * ((own_draw p2).toInt - (own_draw p1).toInt)) 2 := by
  have h := (own_s2 p1 p2).2.2
  have hb := own_sq_bound (own_draw_in p1) (own_draw_in p2)
  have k := own_V_l2d (x := (((0 : Int64) + (1 : Int64)) + (1 : Int64)) - (1 : Int64)) (by decide)
  rw [show ((((0 : Int64) + (1 : Int64)) + (1 : Int64)) - (1 : Int64)).toInt = 1 by decide] at k
  exact own_V_div h k (by decide) (by decide) (by omega) (by rw [Int.mul_one])
theorem own_var_eq (a : Addr) (sd : UInt64) : own_var a (((0 : Int64) + (1 : Int64)) + (1 : Int64)) sd = FP.ddiv sd (FP.l2d ((((0 : Int64) + (1 : Int64)) + (1 : Int64)) - (1 : Int64))) := by
  unfold own_var; rw [if_neg (by decide)]
theorem own_s5 (r : Addr) (p1 p2 : Int32) : own_V (FP.dmul (own_var r (((0 : Int64) + (1 : Int64)) + (1 : Int64)) (own_sd (FP.i2d (own_draw p2)) ((0 : Int64) + (1 : Int64)) (own_mu (FP.i2d (own_draw p1)) (0 : Int64) (0 : UInt64)) (own_sd (FP.i2d (own_draw p1)) (0 : Int64) (0 : UInt64) (0 : UInt64)))) (4611686018427387904 : UInt64)) (((own_draw p2).toInt - (own_draw p1).toInt) * 2 * ((own_draw p2).toInt - (own_draw p1).toInt) * 2) 2 := by
  rw [own_var_eq]
  exact own_V_mul (own_s4 p1 p2) own_V_two (by decide) (by have := own_sq_bound (own_draw_in p1) (own_draw_in p2); omega)
theorem own_c3 (r : Addr) (p1 p2 : Int32) : cmpValue (FP.dcmp (FP.dmul (own_var r (((0 : Int64) + (1 : Int64)) + (1 : Int64)) (own_sd (FP.i2d (own_draw p2)) ((0 : Int64) + (1 : Int64)) (own_mu (FP.i2d (own_draw p1)) (0 : Int64) (0 : UInt64)) (own_sd (FP.i2d (own_draw p1)) (0 : Int64) (0 : UInt64) (0 : UInt64)))) (4611686018427387904 : UInt64)) (FP.l2d (((own_draw p2).toInt64 - (own_draw p1).toInt64) * ((own_draw p2).toInt64 - (own_draw p1).toInt64)))) .l = (0 : Int32) := by
  have h := own_s5 r p1 p2
  have ha := own_draw_in p1
  have hb := own_draw_in p2
  have e : ((own_draw p2).toInt64 - (own_draw p1).toInt64).toInt = (own_draw p2).toInt - (own_draw p1).toInt := by
    rw [Int64.toInt_sub, Int32.toInt_toInt64, Int32.toInt_toInt64]
    exact Int.bmod_eq_of_le (by omega) (by omega)
  have bb := own_mul_le (a := (own_draw p2).toInt - (own_draw p1).toInt) (b := (own_draw p2).toInt - (own_draw p1).toInt) (m := 2097152) (n := 2097152) (by omega) (by omega)
  have e2 : (((own_draw p2).toInt64 - (own_draw p1).toInt64) * ((own_draw p2).toInt64 - (own_draw p1).toInt64)).toInt = ((own_draw p2).toInt - (own_draw p1).toInt) * ((own_draw p2).toInt - (own_draw p1).toInt) := by
    rw [Int64.toInt_mul, e]
    exact Int.bmod_eq_of_le (by omega) (by omega)
  have k := own_V_up 2 (own_V_l2d (x := ((own_draw p2).toInt64 - (own_draw p1).toInt64) * ((own_draw p2).toInt64 - (own_draw p1).toInt64)) (by rw [e2]; omega))
  rw [e2] at k
  generalize (own_draw p2).toInt - (own_draw p1).toInt = D at h k
  have e4 : D * D * ((2 ^ 2 : Nat) : Int) = D * 2 * D * 2 := by
    rw [Int.mul_assoc D 2 D, Int.mul_comm 2 D, ← Int.mul_assoc, Int.mul_assoc (D * D) 2 2]; rfl
  rw [e4] at k
  exact (own_V_ci .l h k).trans (own_ci_self _)
theorem own_o1 (p : Int32) : own_on (FP.i2d (own_draw p)) (0 : Int64) = own_oa p := by
  rw [own_on_int]; unfold own_oa; by_cases h : own_draw p = (1 : Int32)
  · rw [if_pos h, if_pos h]; rfl
  · rw [if_neg h, if_neg h]
theorem own_o2 (p1 p2 : Int32) : own_on (FP.i2d (own_draw p2)) (own_on (FP.i2d (own_draw p1)) (0 : Int64)) = own_oa p1 + own_oa p2 := by
  rw [own_o1, own_on_int]
  show _ = _ + (if own_draw p2 = (1 : Int32) then (1 : Int64) else (0 : Int64))
  by_cases h : own_draw p2 = (1 : Int32)
  · rw [if_pos h, if_pos h]
  · rw [if_neg h, if_neg h, Int64.add_zero]
theorem own_zz (p : Int32) (z : Int32) : own_zo (FP.i2d (own_draw p)) z = if own_draw p = (0 : Int32) then z else if own_draw p = (1 : Int32) then z else (0 : Int32) := by
  rw [own_zo_int]
  by_cases h : own_draw p = (1 : Int32)
  · by_cases h' : own_draw p = (0 : Int32)
    · rw [if_pos h, if_pos h']
    · rw [if_pos h, if_neg h', if_pos h]
  · rw [if_neg h]
    by_cases h' : own_draw p = (0 : Int32)
    · rw [if_pos h', if_pos h']
    · rw [if_neg h', if_neg h', if_neg h]
theorem own_z1 (p : Int32) : (own_zo (FP.i2d (own_draw p)) (1 : Int32) &&& 1) = own_za p := by
  rw [own_zz]; unfold own_za
  by_cases h' : own_draw p = (0 : Int32)
  · rw [if_pos h']; rfl
  · rw [if_neg h']
    by_cases h : own_draw p = (1 : Int32)
    · rw [if_pos h]; rfl
    · rw [if_neg h]; rfl
theorem own_z0 (p : Int32) : own_zo (FP.i2d (own_draw p)) (1 : Int32) = own_za p := own_zz p 1
theorem own_z2 (p1 p2 : Int32) : (own_zo (FP.i2d (own_draw p2)) (own_zo (FP.i2d (own_draw p1)) (1 : Int32)) &&& 1) = own_zb p1 p2 := by
  rw [own_z0, own_zz]; unfold own_zb
  have hz : own_za p1 = (0 : Int32) ∨ own_za p1 = (1 : Int32) := by unfold own_za; split; exact Or.inr rfl; split; exact Or.inr rfl; exact Or.inl rfl
  rcases hz with h | h <;> rw [h] <;> by_cases h1 : own_draw p2 = (0 : Int32) <;> by_cases h2 : own_draw p2 = (1 : Int32) <;> simp only [h1, h2, if_true, if_false] <;> decide

theorem own_ef0 (m : MethodId) (x0 : Int32) (x1 : Int32) : entryFrame m #[(.int x0), (.int x1)] maxLocals = mkF m 0 #[.val (.int x0), .val (.int x1), .unset, .unset, .unset, .unset, .unset, .unset, .unset, .unset, .unset, .unset, .unset, .unset, .unset, .unset] [] := by first | (simp [entryFrame, mkF, argsToLocals, Value.category, maxLocals]; done) | rfl
theorem own_pd1 : parseMethodDescriptor "(I)I" = some ⟨[.int], some .int⟩ := by decide +kernel
theorem own_pd2 : parseMethodDescriptor "(D)V" = some ⟨[.double], none⟩ := by decide +kernel
theorem own_pd3 : parseMethodDescriptor "()J" = some ⟨[], some .long⟩ := by decide +kernel
theorem own_pd4 : parseMethodDescriptor "()D" = some ⟨[], some .double⟩ := by decide +kernel
theorem own_pd5 : parseMethodDescriptor "()Z" = some ⟨[], some .boolean⟩ := by decide +kernel
set_option maxRecDepth 65536 in
set_option maxHeartbeats 40000000 in
theorem own_law (l : Launch) (Z : State) (a0 : Array Value) (hw : ∀ d ∈ tables_1, d.before a0 Z = true) (p1 : Int32) (p2 : Int32) (h0 : Heap) (n0 : Nat) (Z0 : n0 ≤ h0.size) : own_Con l Z tables_1 x code maxLocals ret room_1 #[(.int p1), (.int p2)] h0 (fun v _ L => v = some (.int (1 : Int32)) ∧ Fr n0 L) := by
  refine own_body (plainFor_of_name own_pn_SampleMeanAddPinLaw) ?_
  intro p e s m below meth c s₁ X0 hx hby hml hret hlk hown hnm hZ e0
  have N0 := Fr.nil n0
  refine oS (u' := s₁.setTop (mkF m 0 #[.val (.int p1), .val (.int p2), .unset, .unset, .unset, .unset, .unset, .unset, .unset, .unset, .unset, .unset, .unset, .unset, .unset, .unset] [])) (fun _ kst => castTop (own_ef0 m p1 p2) kst) ?_
  refine oS (u' := s₁.setTop (mkF m 1 #[.val (.int p1), .val (.int p2), .unset, .unset, .unset, .unset, .unset, .unset, .unset, .unset, .unset, .unset, .unset, .unset, .unset, .unset] [(.int p1)])) (fun _ kst => XS.iloadN X0.here hx rfl (hb hby at_0) rfl kst) ?_
  obtain ⟨T26, X26, e26, st26⟩ := own_callSP X0 hx hZ (y := (⟨"com/example/varistat/varistat/stats/SampleMeanAddPinLaw", "draw", "(I)I"⟩ : MethodName)) hown (hw _ (List.mem_of_getElem? (i := 0) rfl)) (hw _ (List.mem_of_getElem? (i := 1) rfl)) (hw _ (List.mem_of_getElem? (i := 3) rfl)) (hw _ (List.mem_of_getElem? (i := 2) rfl)) (by decide) e0 (W := 0) (own_rm_draw l Z a0 hw p1 h0 ) (by decide) (by decide) (g := (mkF m 1 #[.val (.int p1), .val (.int p2), .unset, .unset, .unset, .unset, .unset, .unset, .unset, .unset, .unset, .unset, .unset, .unset, .unset, .unset] [(.int p1)])) rfl (by rw [hml]; rfl) (argsL := [(.int p1)]) (rest := []) (lenOf own_pd1 rfl) rfl (by show 2 * 0 + _ ≤ _; exact Nat.le_of_eq rfl) (hb hby at_1) (by decide) (by decide)
  refine oS (u' := T26.setTop (mkF m 4 #[.val (.int p1), .val (.int p2), .unset, .unset, .unset, .unset, .unset, .unset, .unset, .unset, .unset, .unset, .unset, .unset, .unset, .unset] [(.int (own_draw p1))])) st26 ?_
  refine oS (u' := T26.setTop (mkF m 5 #[.val (.int p1), .val (.int p2), .val (.int (own_draw p1)), .unset, .unset, .unset, .unset, .unset, .unset, .unset, .unset, .unset, .unset, .unset, .unset, .unset] [])) (fun _ kst => XS.istoreN X26.here hx rfl (hb hby at_4) rfl (l' := #[.val (.int p1), .val (.int p2), .val (.int (own_draw p1)), .unset, .unset, .unset, .unset, .unset, .unset, .unset, .unset, .unset, .unset, .unset, .unset, .unset]) rfl kst) ?_
  refine oS (u' := T26.setTop (mkF m 6 #[.val (.int p1), .val (.int p2), .val (.int (own_draw p1)), .unset, .unset, .unset, .unset, .unset, .unset, .unset, .unset, .unset, .unset, .unset, .unset, .unset] [(.int p2)])) (fun _ kst => XS.iloadN X26.here hx rfl (hb hby at_5) rfl kst) ?_
  obtain ⟨T27, X27, e27, st27⟩ := own_callSP X26 hx hZ (y := (⟨"com/example/varistat/varistat/stats/SampleMeanAddPinLaw", "draw", "(I)I"⟩ : MethodName)) hown (hw _ (List.mem_of_getElem? (i := 0) rfl)) (hw _ (List.mem_of_getElem? (i := 1) rfl)) (hw _ (List.mem_of_getElem? (i := 3) rfl)) (hw _ (List.mem_of_getElem? (i := 2) rfl)) (by decide) e26 (W := 0) (own_rm_draw l Z a0 hw p2 h0 ) (by decide) (by decide) (g := (mkF m 6 #[.val (.int p1), .val (.int p2), .val (.int (own_draw p1)), .unset, .unset, .unset, .unset, .unset, .unset, .unset, .unset, .unset, .unset, .unset, .unset, .unset] [(.int p2)])) rfl (by rw [hml]; rfl) (argsL := [(.int p2)]) (rest := []) (lenOf own_pd1 rfl) rfl (by show 2 * 0 + _ ≤ _; exact Nat.le_of_eq rfl) (hb hby at_6) (by decide) (by decide)
  refine oS (u' := T27.setTop (mkF m 9 #[.val (.int p1), .val (.int p2), .val (.int (own_draw p1)), .unset, .unset, .unset, .unset, .unset, .unset, .unset, .unset, .unset, .unset, .unset, .unset, .unset] [(.int (own_draw p2))])) st27 ?_
  refine oS (u' := T27.setTop (mkF m 10 #[.val (.int p1), .val (.int p2), .val (.int (own_draw p1)), .val (.int (own_draw p2)), .unset, .unset, .unset, .unset, .unset, .unset, .unset, .unset, .unset, .unset, .unset, .unset] [])) (fun _ kst => XS.istoreN X27.here hx rfl (hb hby at_9) rfl (l' := #[.val (.int p1), .val (.int p2), .val (.int (own_draw p1)), .val (.int (own_draw p2)), .unset, .unset, .unset, .unset, .unset, .unset, .unset, .unset, .unset, .unset, .unset, .unset]) rfl kst) ?_
  obtain ⟨T28, h28, X28, e28, E28, A28, D28, -, st28⟩ := newO X27 hx hZ hown (hw _ (List.mem_of_getElem? (i := 5) rfl)) (hw _ (List.mem_of_getElem? (i := 6) rfl)) (hw _ (List.mem_of_getElem? (i := 7) rfl)) e27 (g := (mkF m 10 #[.val (.int p1), .val (.int p2), .val (.int (own_draw p1)), .val (.int (own_draw p2)), .unset, .unset, .unset, .unset, .unset, .unset, .unset, .unset, .unset, .unset, .unset, .unset] [])) rfl (hb hby at_10) (by decide) (by decide)
  obtain ⟨b28, g28⟩ : ∃ z, z = h0.size := ⟨_, rfl⟩
  rw [← g28] at A28 D28 st28
  have gb_b28 : n0 ≤ b28 := Nat.le_trans Z0 (Nat.le_of_eq g28.symm)
  have Z28 := Nat.le_trans Z0 E28.1
  have f28_F_zeroOne : Fld Z h28 b28 "com/example/varistat/varistat/stats/SampleMean" "zeroOne" "Z" (.int (0 : Int32)) := D28 (Or.inl (hw _ (List.mem_of_getElem? (i := 15) rfl))) (ty := .boolean) (by decide)
  have f28_F_count : Fld Z h28 b28 "com/example/varistat/varistat/stats/SampleMean" "count" "J" (.long (0 : Int64)) := D28 (Or.inl (hw _ (List.mem_of_getElem? (i := 22) rfl))) (ty := .long) (by decide)
  have f28_F_mean : Fld Z h28 b28 "com/example/varistat/varistat/stats/SampleMean" "mean" "D" (.double (0 : UInt64)) := D28 (Or.inl (hw _ (List.mem_of_getElem? (i := 24) rfl))) (ty := .double) (by decide)
  have f28_F_squaredDeviations : Fld Z h28 b28 "com/example/varistat/varistat/stats/SampleMean" "squaredDeviations" "D" (.double (0 : UInt64)) := D28 (Or.inl (hw _ (List.mem_of_getElem? (i := 26) rfl))) (ty := .double) (by decide)
  have f28_F_ones : Fld Z h28 b28 "com/example/varistat/varistat/stats/SampleMean" "ones" "J" (.long (0 : Int64)) := D28 (Or.inl (hw _ (List.mem_of_getElem? (i := 43) rfl))) (ty := .long) (by decide)
  refine oS (u' := T28.setTop (mkF m 13 #[.val (.int p1), .val (.int p2), .val (.int (own_draw p1)), .val (.int (own_draw p2)), .unset, .unset, .unset, .unset, .unset, .unset, .unset, .unset, .unset, .unset, .unset, .unset] [(.ref b28)])) st28 ?_
  refine oS (u' := T28.setTop (mkF m 14 #[.val (.int p1), .val (.int p2), .val (.int (own_draw p1)), .val (.int (own_draw p2)), .unset, .unset, .unset, .unset, .unset, .unset, .unset, .unset, .unset, .unset, .unset, .unset] [(.ref b28), (.ref b28)])) (fun _ kst => XS.dup X28.here hx rfl (hb hby at_13) rfl rfl kst) ?_
  obtain ⟨v29, T29, L29, X29, hQ29, st29⟩ := own_callI X28 hx hZ (y := (⟨"com/example/varistat/varistat/stats/SampleMean", "<init>", "()V"⟩ : MethodName)) rfl hown (hw _ (List.mem_of_getElem? (i := 8) rfl)) (hw _ (List.mem_of_getElem? (i := 9) rfl)) (hw _ (List.mem_of_getElem? (i := 10) rfl)) (hw _ (List.mem_of_getElem? (i := 7) rfl)) (by decide) e28 (W := 1) (own_rm_sminit l Z a0 hw b28 h28 n0 Z28 A28 f28_F_count f28_F_mean f28_F_squaredDeviations f28_F_ones f28_F_zeroOne gb_b28) (by decide) (by decide) (g := (mkF m 14 #[.val (.int p1), .val (.int p2), .val (.int (own_draw p1)), .val (.int (own_draw p2)), .unset, .unset, .unset, .unset, .unset, .unset, .unset, .unset, .unset, .unset, .unset, .unset] [(.ref b28), (.ref b28)])) rfl (by rw [hml]; rfl) (a := b28) (argsL := []) (rest := [(.ref b28)]) (lenOf own_pd0 rfl) rfl (by show 2 * 0 + _ ≤ _; exact Nat.le_of_eq rfl) (hb hby at_14) (by decide) (by decide)
  obtain ⟨rfl, Nq29, Kq29, q29_0, q29_1, q29_2, q29_3, q29_4⟩ := hQ29
  have f29_E_b28 := A28.keep Kq29
  have Z29 := Nat.le_trans Z28 Kq29.1
  have N29 := Fr.app N0 Nq29
  refine oS (u' := T29.setTop (mkF m 17 #[.val (.int p1), .val (.int p2), .val (.int (own_draw p1)), .val (.int (own_draw p2)), .unset, .unset, .unset, .unset, .unset, .unset, .unset, .unset, .unset, .unset, .unset, .unset] [(.ref b28)])) st29 ?_
  refine oS (u' := T29.setTop (mkF m 19 #[.val (.int p1), .val (.int p2), .val (.int (own_draw p1)), .val (.int (own_draw p2)), .val (.ref b28), .unset, .unset, .unset, .unset, .unset, .unset, .unset, .unset, .unset, .unset, .unset] [])) (fun _ kst => XS.astore X29.here hx rfl (hb hby at_17) rfl rfl (l' := #[.val (.int p1), .val (.int p2), .val (.int (own_draw p1)), .val (.int (own_draw p2)), .val (.ref b28), .unset, .unset, .unset, .unset, .unset, .unset, .unset, .unset, .unset, .unset, .unset]) rfl kst) ?_
  refine oS (u' := T29.setTop (mkF m 21 #[.val (.int p1), .val (.int p2), .val (.int (own_draw p1)), .val (.int (own_draw p2)), .val (.ref b28), .unset, .unset, .unset, .unset, .unset, .unset, .unset, .unset, .unset, .unset, .unset] [(.ref b28)])) (fun _ kst => XS.aload X29.here hx rfl (hb hby at_19) rfl rfl kst) ?_
  refine oS (u' := T29.setTop (mkF m 22 #[.val (.int p1), .val (.int p2), .val (.int (own_draw p1)), .val (.int (own_draw p2)), .val (.ref b28), .unset, .unset, .unset, .unset, .unset, .unset, .unset, .unset, .unset, .unset, .unset] [(.int (own_draw p1)), (.ref b28)])) (fun _ kst => XS.iloadN X29.here hx rfl (hb hby at_21) rfl kst) ?_
  refine oS (u' := T29.setTop (mkF m 23 #[.val (.int p1), .val (.int p2), .val (.int (own_draw p1)), .val (.int (own_draw p2)), .val (.ref b28), .unset, .unset, .unset, .unset, .unset, .unset, .unset, .unset, .unset, .unset, .unset] [(.double (FP.i2d (own_draw p1))), (.ref b28)])) (fun _ kst => XS.i2dS X29.here hx rfl (hb hby at_22) rfl rfl kst) ?_
  obtain ⟨v30, T30, L30, X30, hQ30, st30⟩ := own_callV X29 hx hZ (y := (⟨"com/example/varistat/varistat/stats/SampleMean", "add", "(D)V"⟩ : MethodName)) (z := (⟨"com/example/varistat/varistat/stats/SampleMean", "add", "(D)V"⟩ : MethodName)) hown (hw _ (List.mem_of_getElem? (i := 16) rfl)) (hw _ (List.mem_of_getElem? (i := 17) rfl)) (notFace_of_selects (args := #[]) (mvT hZ (hw _ (List.mem_of_getElem? (i := 19) rfl)))) (hw _ (List.mem_of_getElem? (i := 19) rfl)) (hw _ (List.mem_of_getElem? (i := 18) rfl)) (by decide) rfl f29_E_b28 (W := 0) (own_rm_smadd l Z a0 hw b28 (FP.i2d (own_draw p1)) (0 : Int64) (0 : UInt64) (0 : UInt64) (0 : Int64) (1 : Int32) T29.heap n0 Z29 f29_E_b28 q29_0 q29_1 q29_2 q29_3 q29_4 gb_b28 (own_s1 p1).1) (hw _ (List.mem_of_getElem? (i := 20) rfl)) (hw _ (List.mem_of_getElem? (i := 7) rfl)) (by decide) (by decide) (g := (mkF m 23 #[.val (.int p1), .val (.int p2), .val (.int (own_draw p1)), .val (.int (own_draw p2)), .val (.ref b28), .unset, .unset, .unset, .unset, .unset, .unset, .unset, .unset, .unset, .unset, .unset] [(.double (FP.i2d (own_draw p1))), (.ref b28)])) rfl (by rw [hml]; rfl) (b := b28) (argsL := [(.double (FP.i2d (own_draw p1)))]) (rest := []) (lenOf own_pd2 rfl) rfl (by show 2 * 0 + _ ≤ _; exact Nat.le_of_eq rfl) (hb hby at_23) (by decide) (by decide)
  obtain ⟨rfl, Nq30, Kq30, q30_0, q30_1, q30_2, q30_3, q30_4⟩ := hQ30
  have f30_E_b28 := f29_E_b28.keep Kq30
  have Z30 := Nat.le_trans Z29 Kq30.1
  have N30 := Fr.app N29 Nq30
  refine oS (u' := T30.setTop (mkF m 26 #[.val (.int p1), .val (.int p2), .val (.int (own_draw p1)), .val (.int (own_draw p2)), .val (.ref b28), .unset, .unset, .unset, .unset, .unset, .unset, .unset, .unset, .unset, .unset, .unset] [])) st30 ?_
  refine oS (u' := T30.setTop (mkF m 27 #[.val (.int p1), .val (.int p2), .val (.int (own_draw p1)), .val (.int (own_draw p2)), .val (.ref b28), .unset, .unset, .unset, .unset, .unset, .unset, .unset, .unset, .unset, .unset, .unset] [(.int (own_draw p1))])) (fun _ kst => XS.iloadN X30.here hx rfl (hb hby at_26) rfl kst) ?_
  refine oS (u' := T30.setTop (mkF m 28 #[.val (.int p1), .val (.int p2), .val (.int (own_draw p1)), .val (.int (own_draw p2)), .val (.ref b28), .unset, .unset, .unset, .unset, .unset, .unset, .unset, .unset, .unset, .unset, .unset] [(.int (1 : Int32)), (.int (own_draw p1))])) (fun _ kst => XS.iconst X30.here hx rfl (hb hby at_27) kst) ?_
  have km32 : ∀ tgt, Steps p.tables e below (T30.setTop (mkF m 36 #[.val (.int p1), .val (.int p2), .val (.int (own_draw p1)), .val (.int (own_draw p2)), .val (.ref b28), .unset, .unset, .unset, .unset, .unset, .unset, .unset, .unset, .unset, .unset, .unset] [(.long (if (own_draw p1) = (1 : Int32) then (1 : Int64) else (0 : Int64)))])) tgt → Steps p.tables e below (T30.setTop (mkF m 28 #[.val (.int p1), .val (.int p2), .val (.int (own_draw p1)), .val (.int (own_draw p2)), .val (.ref b28), .unset, .unset, .unset, .unset, .unset, .unset, .unset, .unset, .unset, .unset, .unset] [(.int (1 : Int32)), (.int (own_draw p1))])) tgt := by
    intro tgt kst
    by_cases hc31 : (own_draw p1) = (1 : Int32)
    · rw [show (if (own_draw p1) = (1 : Int32) then (1 : Int64) else (0 : Int64)) = (1 : Int64) from if_pos hc31] at kst
      refine XS.icmpNo X30.here hx rfl (hb hby at_28) rfl (teq hc31).2 ?_
      show Steps p.tables e below (T30.setTop (mkF m 31 #[.val (.int p1), .val (.int p2), .val (.int (own_draw p1)), .val (.int (own_draw p2)), .val (.ref b28), .unset, .unset, .unset, .unset, .unset, .unset, .unset, .unset, .unset, .unset, .unset] [])) _
      refine XS.lconst X30.here hx rfl (hb hby at_31) ?_
      show Steps p.tables e below (T30.setTop (mkF m 32 #[.val (.int p1), .val (.int p2), .val (.int (own_draw p1)), .val (.int (own_draw p2)), .val (.ref b28), .unset, .unset, .unset, .unset, .unset, .unset, .unset, .unset, .unset, .unset, .unset] [(.long (1 : Int64))])) _
      refine XS.goto X30.here hx rfl (pc0 := 32) (pc' := 36) rfl (hb hby at_32) (by decide) (by decide) ?_
      show Steps p.tables e below (T30.setTop (mkF m 36 #[.val (.int p1), .val (.int p2), .val (.int (own_draw p1)), .val (.int (own_draw p2)), .val (.ref b28), .unset, .unset, .unset, .unset, .unset, .unset, .unset, .unset, .unset, .unset, .unset] [(.long (1 : Int64))])) _
      exact kst
    · rw [show (if (own_draw p1) = (1 : Int32) then (1 : Int64) else (0 : Int64)) = (0 : Int64) from if_neg hc31] at kst
      refine XS.icmpYes X30.here hx rfl (pc0 := 28) (pc' := 35) rfl (hb hby at_28) rfl (feq hc31).2 (by decide) (by decide) ?_
      show Steps p.tables e below (T30.setTop (mkF m 35 #[.val (.int p1), .val (.int p2), .val (.int (own_draw p1)), .val (.int (own_draw p2)), .val (.ref b28), .unset, .unset, .unset, .unset, .unset, .unset, .unset, .unset, .unset, .unset, .unset] [])) _
      refine XS.lconst X30.here hx rfl (hb hby at_35) ?_
      show Steps p.tables e below (T30.setTop (mkF m 36 #[.val (.int p1), .val (.int p2), .val (.int (own_draw p1)), .val (.int (own_draw p2)), .val (.ref b28), .unset, .unset, .unset, .unset, .unset, .unset, .unset, .unset, .unset, .unset, .unset] [(.long (0 : Int64))])) _
      exact kst
  refine oS (u' := T30.setTop (mkF m 36 #[.val (.int p1), .val (.int p2), .val (.int (own_draw p1)), .val (.int (own_draw p2)), .val (.ref b28), .unset, .unset, .unset, .unset, .unset, .unset, .unset, .unset, .unset, .unset, .unset] [(.long (own_oa p1))])) km32 ?_
  refine oS (u' := T30.setTop (mkF m 38 #[.val (.int p1), .val (.int p2), .val (.int (own_draw p1)), .val (.int (own_draw p2)), .val (.ref b28), .val (.long (own_oa p1)), .second, .unset, .unset, .unset, .unset, .unset, .unset, .unset, .unset, .unset] [])) (fun _ kst => XS.lstore X30.here hx rfl (hb hby at_36) rfl (l' := #[.val (.int p1), .val (.int p2), .val (.int (own_draw p1)), .val (.int (own_draw p2)), .val (.ref b28), .val (.long (own_oa p1)), .second, .unset, .unset, .unset, .unset, .unset, .unset, .unset, .unset, .unset]) rfl kst) ?_
  refine oS (u' := T30.setTop (mkF m 39 #[.val (.int p1), .val (.int p2), .val (.int (own_draw p1)), .val (.int (own_draw p2)), .val (.ref b28), .val (.long (own_oa p1)), .second, .unset, .unset, .unset, .unset, .unset, .unset, .unset, .unset, .unset] [(.int (own_draw p1))])) (fun _ kst => XS.iloadN X30.here hx rfl (hb hby at_38) rfl kst) ?_
  have km36 : ∀ tgt, Steps p.tables e below (T30.setTop (mkF m 52 #[.val (.int p1), .val (.int p2), .val (.int (own_draw p1)), .val (.int (own_draw p2)), .val (.ref b28), .val (.long (own_oa p1)), .second, .unset, .unset, .unset, .unset, .unset, .unset, .unset, .unset, .unset] [(.int (if (own_draw p1) = (0 : Int32) then (1 : Int32) else (if (own_draw p1) = (1 : Int32) then (1 : Int32) else (0 : Int32))))])) tgt → Steps p.tables e below (T30.setTop (mkF m 39 #[.val (.int p1), .val (.int p2), .val (.int (own_draw p1)), .val (.int (own_draw p2)), .val (.ref b28), .val (.long (own_oa p1)), .second, .unset, .unset, .unset, .unset, .unset, .unset, .unset, .unset, .unset] [(.int (own_draw p1))])) tgt := by
    intro tgt kst
    by_cases hc33 : (own_draw p1) = (0 : Int32)
    · rw [show (if (own_draw p1) = (0 : Int32) then (1 : Int32) else (if (own_draw p1) = (1 : Int32) then (1 : Int32) else (0 : Int32))) = (1 : Int32) from if_pos hc33] at kst
      refine XS.ifYes X30.here hx rfl (pc0 := 39) (pc' := 47) rfl (hb hby at_39) rfl ((if0 _ _).trans (teq hc33).1) (by decide) (by decide) ?_
      show Steps p.tables e below (T30.setTop (mkF m 47 #[.val (.int p1), .val (.int p2), .val (.int (own_draw p1)), .val (.int (own_draw p2)), .val (.ref b28), .val (.long (own_oa p1)), .second, .unset, .unset, .unset, .unset, .unset, .unset, .unset, .unset, .unset] [])) _
      refine XS.iconst X30.here hx rfl (hb hby at_47) ?_
      show Steps p.tables e below (T30.setTop (mkF m 48 #[.val (.int p1), .val (.int p2), .val (.int (own_draw p1)), .val (.int (own_draw p2)), .val (.ref b28), .val (.long (own_oa p1)), .second, .unset, .unset, .unset, .unset, .unset, .unset, .unset, .unset, .unset] [(.int (1 : Int32))])) _
      refine XS.goto X30.here hx rfl (pc0 := 48) (pc' := 52) rfl (hb hby at_48) (by decide) (by decide) ?_
      show Steps p.tables e below (T30.setTop (mkF m 52 #[.val (.int p1), .val (.int p2), .val (.int (own_draw p1)), .val (.int (own_draw p2)), .val (.ref b28), .val (.long (own_oa p1)), .second, .unset, .unset, .unset, .unset, .unset, .unset, .unset, .unset, .unset] [(.int (1 : Int32))])) _
      exact kst
    · rw [show (if (own_draw p1) = (0 : Int32) then (1 : Int32) else (if (own_draw p1) = (1 : Int32) then (1 : Int32) else (0 : Int32))) = (if (own_draw p1) = (1 : Int32) then (1 : Int32) else (0 : Int32)) from if_neg hc33] at kst
      refine XS.ifNo X30.here hx rfl (hb hby at_39) rfl ((if0 _ _).trans (feq hc33).1) ?_
      show Steps p.tables e below (T30.setTop (mkF m 42 #[.val (.int p1), .val (.int p2), .val (.int (own_draw p1)), .val (.int (own_draw p2)), .val (.ref b28), .val (.long (own_oa p1)), .second, .unset, .unset, .unset, .unset, .unset, .unset, .unset, .unset, .unset] [])) _
      refine XS.iloadN X30.here hx rfl (hb hby at_42) rfl ?_
      show Steps p.tables e below (T30.setTop (mkF m 43 #[.val (.int p1), .val (.int p2), .val (.int (own_draw p1)), .val (.int (own_draw p2)), .val (.ref b28), .val (.long (own_oa p1)), .second, .unset, .unset, .unset, .unset, .unset, .unset, .unset, .unset, .unset] [(.int (own_draw p1))])) _
      refine XS.iconst X30.here hx rfl (hb hby at_43) ?_
      show Steps p.tables e below (T30.setTop (mkF m 44 #[.val (.int p1), .val (.int p2), .val (.int (own_draw p1)), .val (.int (own_draw p2)), .val (.ref b28), .val (.long (own_oa p1)), .second, .unset, .unset, .unset, .unset, .unset, .unset, .unset, .unset, .unset] [(.int (1 : Int32)), (.int (own_draw p1))])) _
      have km35 : ∀ tgt, Steps p.tables e below (T30.setTop (mkF m 52 #[.val (.int p1), .val (.int p2), .val (.int (own_draw p1)), .val (.int (own_draw p2)), .val (.ref b28), .val (.long (own_oa p1)), .second, .unset, .unset, .unset, .unset, .unset, .unset, .unset, .unset, .unset] [(.int (if (own_draw p1) = (1 : Int32) then (1 : Int32) else (0 : Int32)))])) tgt → Steps p.tables e below (T30.setTop (mkF m 44 #[.val (.int p1), .val (.int p2), .val (.int (own_draw p1)), .val (.int (own_draw p2)), .val (.ref b28), .val (.long (own_oa p1)), .second, .unset, .unset, .unset, .unset, .unset, .unset, .unset, .unset, .unset] [(.int (1 : Int32)), (.int (own_draw p1))])) tgt := by
        intro tgt kst
        by_cases hc34 : (own_draw p1) = (1 : Int32)
        · rw [show (if (own_draw p1) = (1 : Int32) then (1 : Int32) else (0 : Int32)) = (1 : Int32) from if_pos hc34] at kst
          refine XS.icmpNo X30.here hx rfl (hb hby at_44) rfl (teq hc34).2 ?_
          show Steps p.tables e below (T30.setTop (mkF m 47 #[.val (.int p1), .val (.int p2), .val (.int (own_draw p1)), .val (.int (own_draw p2)), .val (.ref b28), .val (.long (own_oa p1)), .second, .unset, .unset, .unset, .unset, .unset, .unset, .unset, .unset, .unset] [])) _
          refine XS.iconst X30.here hx rfl (hb hby at_47) ?_
          show Steps p.tables e below (T30.setTop (mkF m 48 #[.val (.int p1), .val (.int p2), .val (.int (own_draw p1)), .val (.int (own_draw p2)), .val (.ref b28), .val (.long (own_oa p1)), .second, .unset, .unset, .unset, .unset, .unset, .unset, .unset, .unset, .unset] [(.int (1 : Int32))])) _
          refine XS.goto X30.here hx rfl (pc0 := 48) (pc' := 52) rfl (hb hby at_48) (by decide) (by decide) ?_
          show Steps p.tables e below (T30.setTop (mkF m 52 #[.val (.int p1), .val (.int p2), .val (.int (own_draw p1)), .val (.int (own_draw p2)), .val (.ref b28), .val (.long (own_oa p1)), .second, .unset, .unset, .unset, .unset, .unset, .unset, .unset, .unset, .unset] [(.int (1 : Int32))])) _
          exact kst
        · rw [show (if (own_draw p1) = (1 : Int32) then (1 : Int32) else (0 : Int32)) = (0 : Int32) from if_neg hc34] at kst
          refine XS.icmpYes X30.here hx rfl (pc0 := 44) (pc' := 51) rfl (hb hby at_44) rfl (feq hc34).2 (by decide) (by decide) ?_
          show Steps p.tables e below (T30.setTop (mkF m 51 #[.val (.int p1), .val (.int p2), .val (.int (own_draw p1)), .val (.int (own_draw p2)), .val (.ref b28), .val (.long (own_oa p1)), .second, .unset, .unset, .unset, .unset, .unset, .unset, .unset, .unset, .unset] [])) _
          refine XS.iconst X30.here hx rfl (hb hby at_51) ?_
          show Steps p.tables e below (T30.setTop (mkF m 52 #[.val (.int p1), .val (.int p2), .val (.int (own_draw p1)), .val (.int (own_draw p2)), .val (.ref b28), .val (.long (own_oa p1)), .second, .unset, .unset, .unset, .unset, .unset, .unset, .unset, .unset, .unset] [(.int (0 : Int32))])) _
          exact kst
      refine km35 _ ?_
      show Steps p.tables e below (T30.setTop (mkF m 52 #[.val (.int p1), .val (.int p2), .val (.int (own_draw p1)), .val (.int (own_draw p2)), .val (.ref b28), .val (.long (own_oa p1)), .second, .unset, .unset, .unset, .unset, .unset, .unset, .unset, .unset, .unset] [(.int (if (own_draw p1) = (1 : Int32) then (1 : Int32) else (0 : Int32)))])) _
      exact kst
  refine oS (u' := T30.setTop (mkF m 52 #[.val (.int p1), .val (.int p2), .val (.int (own_draw p1)), .val (.int (own_draw p2)), .val (.ref b28), .val (.long (own_oa p1)), .second, .unset, .unset, .unset, .unset, .unset, .unset, .unset, .unset, .unset] [(.int (own_za p1))])) km36 ?_
  refine oS (u' := T30.setTop (mkF m 54 #[.val (.int p1), .val (.int p2), .val (.int (own_draw p1)), .val (.int (own_draw p2)), .val (.ref b28), .val (.long (own_oa p1)), .second, .val (.int (own_za p1)), .unset, .unset, .unset, .unset, .unset, .unset, .unset, .unset] [])) (fun _ kst => XS.istore X30.here hx rfl (hb hby at_52) rfl (l' := #[.val (.int p1), .val (.int p2), .val (.int (own_draw p1)), .val (.int (own_draw p2)), .val (.ref b28), .val (.long (own_oa p1)), .second, .val (.int (own_za p1)), .unset, .unset, .unset, .unset, .unset, .unset, .unset, .unset]) rfl kst) ?_
  refine oS (u' := T30.setTop (mkF m 56 #[.val (.int p1), .val (.int p2), .val (.int (own_draw p1)), .val (.int (own_draw p2)), .val (.ref b28), .val (.long (own_oa p1)), .second, .val (.int (own_za p1)), .unset, .unset, .unset, .unset, .unset, .unset, .unset, .unset] [(.ref b28)])) (fun _ kst => XS.aload X30.here hx rfl (hb hby at_54) rfl rfl kst) ?_
  obtain ⟨T37, X37, e37, st37⟩ := own_callVP X30 hx hZ (y := (⟨"com/example/varistat/varistat/stats/SampleMean", "count", "()J"⟩ : MethodName)) (z := (⟨"com/example/varistat/varistat/stats/SampleMean", "count", "()J"⟩ : MethodName)) hown (hw _ (List.mem_of_getElem? (i := 27) rfl)) (hw _ (List.mem_of_getElem? (i := 28) rfl)) (notFace_of_selects (args := #[]) (mvT hZ (hw _ (List.mem_of_getElem? (i := 30) rfl)))) (hw _ (List.mem_of_getElem? (i := 30) rfl)) (hw _ (List.mem_of_getElem? (i := 29) rfl)) (by decide) rfl f30_E_b28 (W := 0) (own_rm_get_count l Z a0 hw b28 ((0 : Int64) + (1 : Int64)) T30.heap q30_0) (hw _ (List.mem_of_getElem? (i := 31) rfl)) (hw _ (List.mem_of_getElem? (i := 7) rfl)) (by decide) (by decide) (g := (mkF m 56 #[.val (.int p1), .val (.int p2), .val (.int (own_draw p1)), .val (.int (own_draw p2)), .val (.ref b28), .val (.long (own_oa p1)), .second, .val (.int (own_za p1)), .unset, .unset, .unset, .unset, .unset, .unset, .unset, .unset] [(.ref b28)])) rfl (by rw [hml]; rfl) (b := b28) (argsL := []) (rest := []) (lenOf own_pd3 rfl) rfl (by show 2 * 0 + _ ≤ _; exact Nat.le_of_eq rfl) (hb hby at_56) (by decide) (by decide)
  refine oS (u' := T37.setTop (mkF m 59 #[.val (.int p1), .val (.int p2), .val (.int (own_draw p1)), .val (.int (own_draw p2)), .val (.ref b28), .val (.long (own_oa p1)), .second, .val (.int (own_za p1)), .unset, .unset, .unset, .unset, .unset, .unset, .unset, .unset] [(.long ((0 : Int64) + (1 : Int64)))])) st37 ?_
  refine oS (u' := T37.setTop (mkF m 60 #[.val (.int p1), .val (.int p2), .val (.int (own_draw p1)), .val (.int (own_draw p2)), .val (.ref b28), .val (.long (own_oa p1)), .second, .val (.int (own_za p1)), .unset, .unset, .unset, .unset, .unset, .unset, .unset, .unset] [(.long (1 : Int64)), (.long ((0 : Int64) + (1 : Int64)))])) (fun _ kst => XS.lconst X37.here hx rfl (hb hby at_59) kst) ?_
  refine oS (u' := T37.setTop (mkF m 61 #[.val (.int p1), .val (.int p2), .val (.int (own_draw p1)), .val (.int (own_draw p2)), .val (.ref b28), .val (.long (own_oa p1)), .second, .val (.int (own_za p1)), .unset, .unset, .unset, .unset, .unset, .unset, .unset, .unset] [(.int (Jvm.Free.XT.cmpL ((0 : Int64) + (1 : Int64)) (1 : Int64)))])) (fun _ kst => XS.lcmp X37.here hx rfl (hb hby at_60) rfl kst) ?_
  refine oS (u' := T37.setTop (mkF m 64 #[.val (.int p1), .val (.int p2), .val (.int (own_draw p1)), .val (.int (own_draw p2)), .val (.ref b28), .val (.long (own_oa p1)), .second, .val (.int (own_za p1)), .unset, .unset, .unset, .unset, .unset, .unset, .unset, .unset] [])) (fun _ kst => XS.ifNo X37.here hx rfl (hb hby at_61) rfl ((if0 _ _).trans (teq (own_cl_eq (by decide))).2) kst) ?_
  refine oS (u' := T37.setTop (mkF m 66 #[.val (.int p1), .val (.int p2), .val (.int (own_draw p1)), .val (.int (own_draw p2)), .val (.ref b28), .val (.long (own_oa p1)), .second, .val (.int (own_za p1)), .unset, .unset, .unset, .unset, .unset, .unset, .unset, .unset] [(.ref b28)])) (fun _ kst => XS.aload X37.here hx rfl (hb hby at_64) rfl rfl kst) ?_
  obtain ⟨T38, X38, e38, st38⟩ := own_callVP X37 hx hZ (y := (⟨"com/example/varistat/varistat/stats/SampleMean", "mean", "()D"⟩ : MethodName)) (z := (⟨"com/example/varistat/varistat/stats/SampleMean", "mean", "()D"⟩ : MethodName)) hown (hw _ (List.mem_of_getElem? (i := 32) rfl)) (hw _ (List.mem_of_getElem? (i := 33) rfl)) (notFace_of_selects (args := #[]) (mvT hZ (hw _ (List.mem_of_getElem? (i := 35) rfl)))) (hw _ (List.mem_of_getElem? (i := 35) rfl)) (hw _ (List.mem_of_getElem? (i := 34) rfl)) (by decide) e37 f30_E_b28 (W := 0) (own_rm_get_mean l Z a0 hw b28 (own_mu (FP.i2d (own_draw p1)) (0 : Int64) (0 : UInt64)) T30.heap q30_1) (hw _ (List.mem_of_getElem? (i := 36) rfl)) (hw _ (List.mem_of_getElem? (i := 7) rfl)) (by decide) (by decide) (g := (mkF m 66 #[.val (.int p1), .val (.int p2), .val (.int (own_draw p1)), .val (.int (own_draw p2)), .val (.ref b28), .val (.long (own_oa p1)), .second, .val (.int (own_za p1)), .unset, .unset, .unset, .unset, .unset, .unset, .unset, .unset] [(.ref b28)])) rfl (by rw [hml]; rfl) (b := b28) (argsL := []) (rest := []) (lenOf own_pd4 rfl) rfl (by show 2 * 0 + _ ≤ _; exact Nat.le_of_eq rfl) (hb hby at_66) (by decide) (by decide)
  refine oS (u' := T38.setTop (mkF m 69 #[.val (.int p1), .val (.int p2), .val (.int (own_draw p1)), .val (.int (own_draw p2)), .val (.ref b28), .val (.long (own_oa p1)), .second, .val (.int (own_za p1)), .unset, .unset, .unset, .unset, .unset, .unset, .unset, .unset] [(.double (own_mu (FP.i2d (own_draw p1)) (0 : Int64) (0 : UInt64)))])) st38 ?_
  refine oS (u' := T38.setTop (mkF m 70 #[.val (.int p1), .val (.int p2), .val (.int (own_draw p1)), .val (.int (own_draw p2)), .val (.ref b28), .val (.long (own_oa p1)), .second, .val (.int (own_za p1)), .unset, .unset, .unset, .unset, .unset, .unset, .unset, .unset] [(.int (own_draw p1)), (.double (own_mu (FP.i2d (own_draw p1)) (0 : Int64) (0 : UInt64)))])) (fun _ kst => XS.iloadN X38.here hx rfl (hb hby at_69) rfl kst) ?_
  refine oS (u' := T38.setTop (mkF m 71 #[.val (.int p1), .val (.int p2), .val (.int (own_draw p1)), .val (.int (own_draw p2)), .val (.ref b28), .val (.long (own_oa p1)), .second, .val (.int (own_za p1)), .unset, .unset, .unset, .unset, .unset, .unset, .unset, .unset] [(.double (FP.i2d (own_draw p1))), (.double (own_mu (FP.i2d (own_draw p1)) (0 : Int64) (0 : UInt64)))])) (fun _ kst => XS.i2dS X38.here hx rfl (hb hby at_70) rfl rfl kst) ?_
  refine oS (u' := T38.setTop (mkF m 72 #[.val (.int p1), .val (.int p2), .val (.int (own_draw p1)), .val (.int (own_draw p2)), .val (.ref b28), .val (.long (own_oa p1)), .second, .val (.int (own_za p1)), .unset, .unset, .unset, .unset, .unset, .unset, .unset, .unset] [(.int (0 : Int32))])) (fun _ kst => XS.dcmpS X38.here hx rfl (hb hby at_71) rfl (own_c1 p1) kst) ?_
  refine oS (u' := T38.setTop (mkF m 75 #[.val (.int p1), .val (.int p2), .val (.int (own_draw p1)), .val (.int (own_draw p2)), .val (.ref b28), .val (.long (own_oa p1)), .second, .val (.int (own_za p1)), .unset, .unset, .unset, .unset, .unset, .unset, .unset, .unset] [])) (fun _ kst => XS.ifNo X38.here hx rfl (hb hby at_72) rfl ((if0 _ _).trans (teq rfl).2) kst) ?_
  refine oS (u' := T38.setTop (mkF m 77 #[.val (.int p1), .val (.int p2), .val (.int (own_draw p1)), .val (.int (own_draw p2)), .val (.ref b28), .val (.long (own_oa p1)), .second, .val (.int (own_za p1)), .unset, .unset, .unset, .unset, .unset, .unset, .unset, .unset] [(.ref b28)])) (fun _ kst => XS.aload X38.here hx rfl (hb hby at_75) rfl rfl kst) ?_
  obtain ⟨T39, X39, e39, st39⟩ := own_callVP X38 hx hZ (y := (⟨"com/example/varistat/varistat/stats/SampleMean", "ones", "()J"⟩ : MethodName)) (z := (⟨"com/example/varistat/varistat/stats/SampleMean", "ones", "()J"⟩ : MethodName)) hown (hw _ (List.mem_of_getElem? (i := 37) rfl)) (hw _ (List.mem_of_getElem? (i := 38) rfl)) (notFace_of_selects (args := #[]) (mvT hZ (hw _ (List.mem_of_getElem? (i := 40) rfl)))) (hw _ (List.mem_of_getElem? (i := 40) rfl)) (hw _ (List.mem_of_getElem? (i := 39) rfl)) (by decide) e38 f30_E_b28 (W := 0) (own_rm_get_ones l Z a0 hw b28 (own_on (FP.i2d (own_draw p1)) (0 : Int64)) T30.heap q30_3) (hw _ (List.mem_of_getElem? (i := 41) rfl)) (hw _ (List.mem_of_getElem? (i := 7) rfl)) (by decide) (by decide) (g := (mkF m 77 #[.val (.int p1), .val (.int p2), .val (.int (own_draw p1)), .val (.int (own_draw p2)), .val (.ref b28), .val (.long (own_oa p1)), .second, .val (.int (own_za p1)), .unset, .unset, .unset, .unset, .unset, .unset, .unset, .unset] [(.ref b28)])) rfl (by rw [hml]; rfl) (b := b28) (argsL := []) (rest := []) (lenOf own_pd3 rfl) rfl (by show 2 * 0 + _ ≤ _; exact Nat.le_of_eq rfl) (hb hby at_77) (by decide) (by decide)
  refine oS (u' := T39.setTop (mkF m 80 #[.val (.int p1), .val (.int p2), .val (.int (own_draw p1)), .val (.int (own_draw p2)), .val (.ref b28), .val (.long (own_oa p1)), .second, .val (.int (own_za p1)), .unset, .unset, .unset, .unset, .unset, .unset, .unset, .unset] [(.long (own_on (FP.i2d (own_draw p1)) (0 : Int64)))])) st39 ?_
  refine oS (u' := T39.setTop (mkF m 82 #[.val (.int p1), .val (.int p2), .val (.int (own_draw p1)), .val (.int (own_draw p2)), .val (.ref b28), .val (.long (own_oa p1)), .second, .val (.int (own_za p1)), .unset, .unset, .unset, .unset, .unset, .unset, .unset, .unset] [(.long (own_oa p1)), (.long (own_on (FP.i2d (own_draw p1)) (0 : Int64)))])) (fun _ kst => XS.lload X39.here hx rfl (hb hby at_80) rfl kst) ?_
  refine oS (u' := T39.setTop (mkF m 83 #[.val (.int p1), .val (.int p2), .val (.int (own_draw p1)), .val (.int (own_draw p2)), .val (.ref b28), .val (.long (own_oa p1)), .second, .val (.int (own_za p1)), .unset, .unset, .unset, .unset, .unset, .unset, .unset, .unset] [(.int (Jvm.Free.XT.cmpL (own_on (FP.i2d (own_draw p1)) (0 : Int64)) (own_oa p1)))])) (fun _ kst => XS.lcmp X39.here hx rfl (hb hby at_82) rfl kst) ?_
  refine oS (u' := T39.setTop (mkF m 86 #[.val (.int p1), .val (.int p2), .val (.int (own_draw p1)), .val (.int (own_draw p2)), .val (.ref b28), .val (.long (own_oa p1)), .second, .val (.int (own_za p1)), .unset, .unset, .unset, .unset, .unset, .unset, .unset, .unset] [])) (fun _ kst => XS.ifNo X39.here hx rfl (hb hby at_83) rfl ((if0 _ _).trans (teq (own_cl_eq (own_o1 p1))).2) kst) ?_
  refine oS (u' := T39.setTop (mkF m 88 #[.val (.int p1), .val (.int p2), .val (.int (own_draw p1)), .val (.int (own_draw p2)), .val (.ref b28), .val (.long (own_oa p1)), .second, .val (.int (own_za p1)), .unset, .unset, .unset, .unset, .unset, .unset, .unset, .unset] [(.ref b28)])) (fun _ kst => XS.aload X39.here hx rfl (hb hby at_86) rfl rfl kst) ?_
  obtain ⟨T40, X40, e40, st40⟩ := own_callVP X39 hx hZ (y := (⟨"com/example/varistat/varistat/stats/SampleMean", "isZeroOne", "()Z"⟩ : MethodName)) (z := (⟨"com/example/varistat/varistat/stats/SampleMean", "isZeroOne", "()Z"⟩ : MethodName)) hown (hw _ (List.mem_of_getElem? (i := 44) rfl)) (hw _ (List.mem_of_getElem? (i := 45) rfl)) (notFace_of_selects (args := #[]) (mvT hZ (hw _ (List.mem_of_getElem? (i := 47) rfl)))) (hw _ (List.mem_of_getElem? (i := 47) rfl)) (hw _ (List.mem_of_getElem? (i := 46) rfl)) (by decide) e39 f30_E_b28 (W := 0) (own_rm_get_isZeroOne l Z a0 hw b28 (own_zo (FP.i2d (own_draw p1)) (1 : Int32)) T30.heap q30_4) (hw _ (List.mem_of_getElem? (i := 48) rfl)) (hw _ (List.mem_of_getElem? (i := 7) rfl)) (by decide) (by decide) (g := (mkF m 88 #[.val (.int p1), .val (.int p2), .val (.int (own_draw p1)), .val (.int (own_draw p2)), .val (.ref b28), .val (.long (own_oa p1)), .second, .val (.int (own_za p1)), .unset, .unset, .unset, .unset, .unset, .unset, .unset, .unset] [(.ref b28)])) rfl (by rw [hml]; rfl) (b := b28) (argsL := []) (rest := []) (lenOf own_pd5 rfl) rfl (by show 2 * 0 + _ ≤ _; exact Nat.le_of_eq rfl) (hb hby at_88) (by decide) (by decide)
  refine oS (u' := T40.setTop (mkF m 91 #[.val (.int p1), .val (.int p2), .val (.int (own_draw p1)), .val (.int (own_draw p2)), .val (.ref b28), .val (.long (own_oa p1)), .second, .val (.int (own_za p1)), .unset, .unset, .unset, .unset, .unset, .unset, .unset, .unset] [(.int ((own_zo (FP.i2d (own_draw p1)) (1 : Int32)) &&& 1))])) st40 ?_
  refine oS (u' := T40.setTop (mkF m 93 #[.val (.int p1), .val (.int p2), .val (.int (own_draw p1)), .val (.int (own_draw p2)), .val (.ref b28), .val (.long (own_oa p1)), .second, .val (.int (own_za p1)), .unset, .unset, .unset, .unset, .unset, .unset, .unset, .unset] [(.int (own_za p1)), (.int ((own_zo (FP.i2d (own_draw p1)) (1 : Int32)) &&& 1))])) (fun _ kst => XS.iload X40.here hx rfl (hb hby at_91) rfl kst) ?_
  refine oS (u' := T40.setTop (mkF m 96 #[.val (.int p1), .val (.int p2), .val (.int (own_draw p1)), .val (.int (own_draw p2)), .val (.ref b28), .val (.long (own_oa p1)), .second, .val (.int (own_za p1)), .unset, .unset, .unset, .unset, .unset, .unset, .unset, .unset] [])) (fun _ kst => XS.icmpNo X40.here hx rfl (hb hby at_93) rfl (teq (own_z1 p1)).2 kst) ?_
  refine oS (u' := T40.setTop (mkF m 97 #[.val (.int p1), .val (.int p2), .val (.int (own_draw p1)), .val (.int (own_draw p2)), .val (.ref b28), .val (.long (own_oa p1)), .second, .val (.int (own_za p1)), .unset, .unset, .unset, .unset, .unset, .unset, .unset, .unset] [(.int (1 : Int32))])) (fun _ kst => XS.iconst X40.here hx rfl (hb hby at_96) kst) ?_
  refine oS (u' := T40.setTop (mkF m 101 #[.val (.int p1), .val (.int p2), .val (.int (own_draw p1)), .val (.int (own_draw p2)), .val (.ref b28), .val (.long (own_oa p1)), .second, .val (.int (own_za p1)), .unset, .unset, .unset, .unset, .unset, .unset, .unset, .unset] [(.int (1 : Int32))])) (fun _ kst => XS.goto X40.here hx rfl (pc0 := 97) (pc' := 101) rfl (hb hby at_97) (by decide) (by decide) kst) ?_
  refine oS (u' := T40.setTop (mkF m 103 #[.val (.int p1), .val (.int p2), .val (.int (own_draw p1)), .val (.int (own_draw p2)), .val (.ref b28), .val (.long (own_oa p1)), .second, .val (.int (own_za p1)), .val (.int (1 : Int32)), .unset, .unset, .unset, .unset, .unset, .unset, .unset] [])) (fun _ kst => XS.istore X40.here hx rfl (hb hby at_101) rfl (l' := #[.val (.int p1), .val (.int p2), .val (.int (own_draw p1)), .val (.int (own_draw p2)), .val (.ref b28), .val (.long (own_oa p1)), .second, .val (.int (own_za p1)), .val (.int (1 : Int32)), .unset, .unset, .unset, .unset, .unset, .unset, .unset]) rfl kst) ?_
  refine oS (u' := T40.setTop (mkF m 105 #[.val (.int p1), .val (.int p2), .val (.int (own_draw p1)), .val (.int (own_draw p2)), .val (.ref b28), .val (.long (own_oa p1)), .second, .val (.int (own_za p1)), .val (.int (1 : Int32)), .unset, .unset, .unset, .unset, .unset, .unset, .unset] [(.ref b28)])) (fun _ kst => XS.aload X40.here hx rfl (hb hby at_103) rfl rfl kst) ?_
  refine oS (u' := T40.setTop (mkF m 106 #[.val (.int p1), .val (.int p2), .val (.int (own_draw p1)), .val (.int (own_draw p2)), .val (.ref b28), .val (.long (own_oa p1)), .second, .val (.int (own_za p1)), .val (.int (1 : Int32)), .unset, .unset, .unset, .unset, .unset, .unset, .unset] [(.int (own_draw p2)), (.ref b28)])) (fun _ kst => XS.iloadN X40.here hx rfl (hb hby at_105) rfl kst) ?_
  refine oS (u' := T40.setTop (mkF m 107 #[.val (.int p1), .val (.int p2), .val (.int (own_draw p1)), .val (.int (own_draw p2)), .val (.ref b28), .val (.long (own_oa p1)), .second, .val (.int (own_za p1)), .val (.int (1 : Int32)), .unset, .unset, .unset, .unset, .unset, .unset, .unset] [(.double (FP.i2d (own_draw p2))), (.ref b28)])) (fun _ kst => XS.i2dS X40.here hx rfl (hb hby at_106) rfl rfl kst) ?_
  obtain ⟨v41, T41, L41, X41, hQ41, st41⟩ := own_callV X40 hx hZ (y := (⟨"com/example/varistat/varistat/stats/SampleMean", "add", "(D)V"⟩ : MethodName)) (z := (⟨"com/example/varistat/varistat/stats/SampleMean", "add", "(D)V"⟩ : MethodName)) hown (hw _ (List.mem_of_getElem? (i := 16) rfl)) (hw _ (List.mem_of_getElem? (i := 17) rfl)) (notFace_of_selects (args := #[]) (mvT hZ (hw _ (List.mem_of_getElem? (i := 19) rfl)))) (hw _ (List.mem_of_getElem? (i := 19) rfl)) (hw _ (List.mem_of_getElem? (i := 18) rfl)) (by decide) e40 f30_E_b28 (W := 0) (own_rm_smadd l Z a0 hw b28 (FP.i2d (own_draw p2)) ((0 : Int64) + (1 : Int64)) (own_mu (FP.i2d (own_draw p1)) (0 : Int64) (0 : UInt64)) (own_sd (FP.i2d (own_draw p1)) (0 : Int64) (0 : UInt64) (0 : UInt64)) (own_on (FP.i2d (own_draw p1)) (0 : Int64)) (own_zo (FP.i2d (own_draw p1)) (1 : Int32)) T30.heap n0 Z30 f30_E_b28 q30_0 q30_1 q30_2 q30_3 q30_4 gb_b28 (own_s2 p1 p2).1) (hw _ (List.mem_of_getElem? (i := 20) rfl)) (hw _ (List.mem_of_getElem? (i := 7) rfl)) (by decide) (by decide) (g := (mkF m 107 #[.val (.int p1), .val (.int p2), .val (.int (own_draw p1)), .val (.int (own_draw p2)), .val (.ref b28), .val (.long (own_oa p1)), .second, .val (.int (own_za p1)), .val (.int (1 : Int32)), .unset, .unset, .unset, .unset, .unset, .unset, .unset] [(.double (FP.i2d (own_draw p2))), (.ref b28)])) rfl (by rw [hml]; rfl) (b := b28) (argsL := [(.double (FP.i2d (own_draw p2)))]) (rest := []) (lenOf own_pd2 rfl) rfl (by show 2 * 0 + _ ≤ _; exact Nat.le_of_eq rfl) (hb hby at_107) (by decide) (by decide)
  obtain ⟨rfl, Nq41, Kq41, q41_0, q41_1, q41_2, q41_3, q41_4⟩ := hQ41
  have f41_E_b28 := f30_E_b28.keep Kq41
  have Z41 := Nat.le_trans Z30 Kq41.1
  have N41 := Fr.app N30 Nq41
  refine oS (u' := T41.setTop (mkF m 110 #[.val (.int p1), .val (.int p2), .val (.int (own_draw p1)), .val (.int (own_draw p2)), .val (.ref b28), .val (.long (own_oa p1)), .second, .val (.int (own_za p1)), .val (.int (1 : Int32)), .unset, .unset, .unset, .unset, .unset, .unset, .unset] [])) st41 ?_
  refine oS (u' := T41.setTop (mkF m 112 #[.val (.int p1), .val (.int p2), .val (.int (own_draw p1)), .val (.int (own_draw p2)), .val (.ref b28), .val (.long (own_oa p1)), .second, .val (.int (own_za p1)), .val (.int (1 : Int32)), .unset, .unset, .unset, .unset, .unset, .unset, .unset] [(.long (own_oa p1))])) (fun _ kst => XS.lload X41.here hx rfl (hb hby at_110) rfl kst) ?_
  refine oS (u' := T41.setTop (mkF m 113 #[.val (.int p1), .val (.int p2), .val (.int (own_draw p1)), .val (.int (own_draw p2)), .val (.ref b28), .val (.long (own_oa p1)), .second, .val (.int (own_za p1)), .val (.int (1 : Int32)), .unset, .unset, .unset, .unset, .unset, .unset, .unset] [(.int (own_draw p2)), (.long (own_oa p1))])) (fun _ kst => XS.iloadN X41.here hx rfl (hb hby at_112) rfl kst) ?_
  refine oS (u' := T41.setTop (mkF m 114 #[.val (.int p1), .val (.int p2), .val (.int (own_draw p1)), .val (.int (own_draw p2)), .val (.ref b28), .val (.long (own_oa p1)), .second, .val (.int (own_za p1)), .val (.int (1 : Int32)), .unset, .unset, .unset, .unset, .unset, .unset, .unset] [(.int (1 : Int32)), (.int (own_draw p2)), (.long (own_oa p1))])) (fun _ kst => XS.iconst X41.here hx rfl (hb hby at_113) kst) ?_
  have km43 : ∀ tgt, Steps p.tables e below (T41.setTop (mkF m 122 #[.val (.int p1), .val (.int p2), .val (.int (own_draw p1)), .val (.int (own_draw p2)), .val (.ref b28), .val (.long (own_oa p1)), .second, .val (.int (own_za p1)), .val (.int (1 : Int32)), .unset, .unset, .unset, .unset, .unset, .unset, .unset] [(.long (if (own_draw p2) = (1 : Int32) then (1 : Int64) else (0 : Int64))), (.long (own_oa p1))])) tgt → Steps p.tables e below (T41.setTop (mkF m 114 #[.val (.int p1), .val (.int p2), .val (.int (own_draw p1)), .val (.int (own_draw p2)), .val (.ref b28), .val (.long (own_oa p1)), .second, .val (.int (own_za p1)), .val (.int (1 : Int32)), .unset, .unset, .unset, .unset, .unset, .unset, .unset] [(.int (1 : Int32)), (.int (own_draw p2)), (.long (own_oa p1))])) tgt := by
    intro tgt kst
    by_cases hc42 : (own_draw p2) = (1 : Int32)
    · rw [show (if (own_draw p2) = (1 : Int32) then (1 : Int64) else (0 : Int64)) = (1 : Int64) from if_pos hc42] at kst
      refine XS.icmpNo X41.here hx rfl (hb hby at_114) rfl (teq hc42).2 ?_
      show Steps p.tables e below (T41.setTop (mkF m 117 #[.val (.int p1), .val (.int p2), .val (.int (own_draw p1)), .val (.int (own_draw p2)), .val (.ref b28), .val (.long (own_oa p1)), .second, .val (.int (own_za p1)), .val (.int (1 : Int32)), .unset, .unset, .unset, .unset, .unset, .unset, .unset] [(.long (own_oa p1))])) _
      refine XS.lconst X41.here hx rfl (hb hby at_117) ?_
      show Steps p.tables e below (T41.setTop (mkF m 118 #[.val (.int p1), .val (.int p2), .val (.int (own_draw p1)), .val (.int (own_draw p2)), .val (.ref b28), .val (.long (own_oa p1)), .second, .val (.int (own_za p1)), .val (.int (1 : Int32)), .unset, .unset, .unset, .unset, .unset, .unset, .unset] [(.long (1 : Int64)), (.long (own_oa p1))])) _
      refine XS.goto X41.here hx rfl (pc0 := 118) (pc' := 122) rfl (hb hby at_118) (by decide) (by decide) ?_
      show Steps p.tables e below (T41.setTop (mkF m 122 #[.val (.int p1), .val (.int p2), .val (.int (own_draw p1)), .val (.int (own_draw p2)), .val (.ref b28), .val (.long (own_oa p1)), .second, .val (.int (own_za p1)), .val (.int (1 : Int32)), .unset, .unset, .unset, .unset, .unset, .unset, .unset] [(.long (1 : Int64)), (.long (own_oa p1))])) _
      exact kst
    · rw [show (if (own_draw p2) = (1 : Int32) then (1 : Int64) else (0 : Int64)) = (0 : Int64) from if_neg hc42] at kst
      refine XS.icmpYes X41.here hx rfl (pc0 := 114) (pc' := 121) rfl (hb hby at_114) rfl (feq hc42).2 (by decide) (by decide) ?_
      show Steps p.tables e below (T41.setTop (mkF m 121 #[.val (.int p1), .val (.int p2), .val (.int (own_draw p1)), .val (.int (own_draw p2)), .val (.ref b28), .val (.long (own_oa p1)), .second, .val (.int (own_za p1)), .val (.int (1 : Int32)), .unset, .unset, .unset, .unset, .unset, .unset, .unset] [(.long (own_oa p1))])) _
      refine XS.lconst X41.here hx rfl (hb hby at_121) ?_
      show Steps p.tables e below (T41.setTop (mkF m 122 #[.val (.int p1), .val (.int p2), .val (.int (own_draw p1)), .val (.int (own_draw p2)), .val (.ref b28), .val (.long (own_oa p1)), .second, .val (.int (own_za p1)), .val (.int (1 : Int32)), .unset, .unset, .unset, .unset, .unset, .unset, .unset] [(.long (0 : Int64)), (.long (own_oa p1))])) _
      exact kst
  refine oS (u' := T41.setTop (mkF m 122 #[.val (.int p1), .val (.int p2), .val (.int (own_draw p1)), .val (.int (own_draw p2)), .val (.ref b28), .val (.long (own_oa p1)), .second, .val (.int (own_za p1)), .val (.int (1 : Int32)), .unset, .unset, .unset, .unset, .unset, .unset, .unset] [(.long (own_oa p2)), (.long (own_oa p1))])) km43 ?_
  refine oS (u' := T41.setTop (mkF m 123 #[.val (.int p1), .val (.int p2), .val (.int (own_draw p1)), .val (.int (own_draw p2)), .val (.ref b28), .val (.long (own_oa p1)), .second, .val (.int (own_za p1)), .val (.int (1 : Int32)), .unset, .unset, .unset, .unset, .unset, .unset, .unset] [(.long ((own_oa p1) + (own_oa p2)))])) (fun _ kst => XS.ladd X41.here hx rfl (hb hby at_122) rfl kst) ?_
  refine oS (u' := T41.setTop (mkF m 125 #[.val (.int p1), .val (.int p2), .val (.int (own_draw p1)), .val (.int (own_draw p2)), .val (.ref b28), .val (.long (own_oa p1)), .second, .val (.int (own_za p1)), .val (.int (1 : Int32)), .val (.long ((own_oa p1) + (own_oa p2))), .second, .unset, .unset, .unset, .unset, .unset] [])) (fun _ kst => XS.lstore X41.here hx rfl (hb hby at_123) rfl (l' := #[.val (.int p1), .val (.int p2), .val (.int (own_draw p1)), .val (.int (own_draw p2)), .val (.ref b28), .val (.long (own_oa p1)), .second, .val (.int (own_za p1)), .val (.int (1 : Int32)), .val (.long ((own_oa p1) + (own_oa p2))), .second, .unset, .unset, .unset, .unset, .unset]) rfl kst) ?_
  refine oS (u' := T41.setTop (mkF m 127 #[.val (.int p1), .val (.int p2), .val (.int (own_draw p1)), .val (.int (own_draw p2)), .val (.ref b28), .val (.long (own_oa p1)), .second, .val (.int (own_za p1)), .val (.int (1 : Int32)), .val (.long ((own_oa p1) + (own_oa p2))), .second, .unset, .unset, .unset, .unset, .unset] [(.int (own_za p1))])) (fun _ kst => XS.iload X41.here hx rfl (hb hby at_125) rfl kst) ?_
  have km49 : ∀ tgt, Steps p.tables e below (T41.setTop (mkF m 144 #[.val (.int p1), .val (.int p2), .val (.int (own_draw p1)), .val (.int (own_draw p2)), .val (.ref b28), .val (.long (own_oa p1)), .second, .val (.int (own_za p1)), .val (.int (1 : Int32)), .val (.long ((own_oa p1) + (own_oa p2))), .second, .unset, .unset, .unset, .unset, .unset] [(.int (if (own_za p1) = (0 : Int32) then (0 : Int32) else (if (own_draw p2) = (0 : Int32) then (1 : Int32) else (if (own_draw p2) = (1 : Int32) then (1 : Int32) else (0 : Int32)))))])) tgt → Steps p.tables e below (T41.setTop (mkF m 127 #[.val (.int p1), .val (.int p2), .val (.int (own_draw p1)), .val (.int (own_draw p2)), .val (.ref b28), .val (.long (own_oa p1)), .second, .val (.int (own_za p1)), .val (.int (1 : Int32)), .val (.long ((own_oa p1) + (own_oa p2))), .second, .unset, .unset, .unset, .unset, .unset] [(.int (own_za p1))])) tgt := by
    intro tgt kst
    by_cases hc44 : (own_za p1) = (0 : Int32)
    · rw [show (if (own_za p1) = (0 : Int32) then (0 : Int32) else (if (own_draw p2) = (0 : Int32) then (1 : Int32) else (if (own_draw p2) = (1 : Int32) then (1 : Int32) else (0 : Int32)))) = (0 : Int32) from if_pos hc44] at kst
      refine XS.ifYes X41.here hx rfl (pc0 := 127) (pc' := 143) rfl (hb hby at_127) rfl ((if0 _ _).trans (teq hc44).1) (by decide) (by decide) ?_
      show Steps p.tables e below (T41.setTop (mkF m 143 #[.val (.int p1), .val (.int p2), .val (.int (own_draw p1)), .val (.int (own_draw p2)), .val (.ref b28), .val (.long (own_oa p1)), .second, .val (.int (own_za p1)), .val (.int (1 : Int32)), .val (.long ((own_oa p1) + (own_oa p2))), .second, .unset, .unset, .unset, .unset, .unset] [])) _
      refine XS.iconst X41.here hx rfl (hb hby at_143) ?_
      show Steps p.tables e below (T41.setTop (mkF m 144 #[.val (.int p1), .val (.int p2), .val (.int (own_draw p1)), .val (.int (own_draw p2)), .val (.ref b28), .val (.long (own_oa p1)), .second, .val (.int (own_za p1)), .val (.int (1 : Int32)), .val (.long ((own_oa p1) + (own_oa p2))), .second, .unset, .unset, .unset, .unset, .unset] [(.int (0 : Int32))])) _
      exact kst
    · rw [show (if (own_za p1) = (0 : Int32) then (0 : Int32) else (if (own_draw p2) = (0 : Int32) then (1 : Int32) else (if (own_draw p2) = (1 : Int32) then (1 : Int32) else (0 : Int32)))) = (if (own_draw p2) = (0 : Int32) then (1 : Int32) else (if (own_draw p2) = (1 : Int32) then (1 : Int32) else (0 : Int32))) from if_neg hc44] at kst
      refine XS.ifNo X41.here hx rfl (hb hby at_127) rfl ((if0 _ _).trans (feq hc44).1) ?_
      show Steps p.tables e below (T41.setTop (mkF m 130 #[.val (.int p1), .val (.int p2), .val (.int (own_draw p1)), .val (.int (own_draw p2)), .val (.ref b28), .val (.long (own_oa p1)), .second, .val (.int (own_za p1)), .val (.int (1 : Int32)), .val (.long ((own_oa p1) + (own_oa p2))), .second, .unset, .unset, .unset, .unset, .unset] [])) _
      refine XS.iloadN X41.here hx rfl (hb hby at_130) rfl ?_
      show Steps p.tables e below (T41.setTop (mkF m 131 #[.val (.int p1), .val (.int p2), .val (.int (own_draw p1)), .val (.int (own_draw p2)), .val (.ref b28), .val (.long (own_oa p1)), .second, .val (.int (own_za p1)), .val (.int (1 : Int32)), .val (.long ((own_oa p1) + (own_oa p2))), .second, .unset, .unset, .unset, .unset, .unset] [(.int (own_draw p2))])) _
      have km48 : ∀ tgt, Steps p.tables e below (T41.setTop (mkF m 144 #[.val (.int p1), .val (.int p2), .val (.int (own_draw p1)), .val (.int (own_draw p2)), .val (.ref b28), .val (.long (own_oa p1)), .second, .val (.int (own_za p1)), .val (.int (1 : Int32)), .val (.long ((own_oa p1) + (own_oa p2))), .second, .unset, .unset, .unset, .unset, .unset] [(.int (if (own_draw p2) = (0 : Int32) then (1 : Int32) else (if (own_draw p2) = (1 : Int32) then (1 : Int32) else (0 : Int32))))])) tgt → Steps p.tables e below (T41.setTop (mkF m 131 #[.val (.int p1), .val (.int p2), .val (.int (own_draw p1)), .val (.int (own_draw p2)), .val (.ref b28), .val (.long (own_oa p1)), .second, .val (.int (own_za p1)), .val (.int (1 : Int32)), .val (.long ((own_oa p1) + (own_oa p2))), .second, .unset, .unset, .unset, .unset, .unset] [(.int (own_draw p2))])) tgt := by
        intro tgt kst
        by_cases hc45 : (own_draw p2) = (0 : Int32)
        · rw [show (if (own_draw p2) = (0 : Int32) then (1 : Int32) else (if (own_draw p2) = (1 : Int32) then (1 : Int32) else (0 : Int32))) = (1 : Int32) from if_pos hc45] at kst
          refine XS.ifYes X41.here hx rfl (pc0 := 131) (pc' := 139) rfl (hb hby at_131) rfl ((if0 _ _).trans (teq hc45).1) (by decide) (by decide) ?_
          show Steps p.tables e below (T41.setTop (mkF m 139 #[.val (.int p1), .val (.int p2), .val (.int (own_draw p1)), .val (.int (own_draw p2)), .val (.ref b28), .val (.long (own_oa p1)), .second, .val (.int (own_za p1)), .val (.int (1 : Int32)), .val (.long ((own_oa p1) + (own_oa p2))), .second, .unset, .unset, .unset, .unset, .unset] [])) _
          refine XS.iconst X41.here hx rfl (hb hby at_139) ?_
          show Steps p.tables e below (T41.setTop (mkF m 140 #[.val (.int p1), .val (.int p2), .val (.int (own_draw p1)), .val (.int (own_draw p2)), .val (.ref b28), .val (.long (own_oa p1)), .second, .val (.int (own_za p1)), .val (.int (1 : Int32)), .val (.long ((own_oa p1) + (own_oa p2))), .second, .unset, .unset, .unset, .unset, .unset] [(.int (1 : Int32))])) _
          refine XS.goto X41.here hx rfl (pc0 := 140) (pc' := 144) rfl (hb hby at_140) (by decide) (by decide) ?_
          show Steps p.tables e below (T41.setTop (mkF m 144 #[.val (.int p1), .val (.int p2), .val (.int (own_draw p1)), .val (.int (own_draw p2)), .val (.ref b28), .val (.long (own_oa p1)), .second, .val (.int (own_za p1)), .val (.int (1 : Int32)), .val (.long ((own_oa p1) + (own_oa p2))), .second, .unset, .unset, .unset, .unset, .unset] [(.int (1 : Int32))])) _
          exact kst
        · rw [show (if (own_draw p2) = (0 : Int32) then (1 : Int32) else (if (own_draw p2) = (1 : Int32) then (1 : Int32) else (0 : Int32))) = (if (own_draw p2) = (1 : Int32) then (1 : Int32) else (0 : Int32)) from if_neg hc45] at kst
          refine XS.ifNo X41.here hx rfl (hb hby at_131) rfl ((if0 _ _).trans (feq hc45).1) ?_
          show Steps p.tables e below (T41.setTop (mkF m 134 #[.val (.int p1), .val (.int p2), .val (.int (own_draw p1)), .val (.int (own_draw p2)), .val (.ref b28), .val (.long (own_oa p1)), .second, .val (.int (own_za p1)), .val (.int (1 : Int32)), .val (.long ((own_oa p1) + (own_oa p2))), .second, .unset, .unset, .unset, .unset, .unset] [])) _
          refine XS.iloadN X41.here hx rfl (hb hby at_134) rfl ?_
          show Steps p.tables e below (T41.setTop (mkF m 135 #[.val (.int p1), .val (.int p2), .val (.int (own_draw p1)), .val (.int (own_draw p2)), .val (.ref b28), .val (.long (own_oa p1)), .second, .val (.int (own_za p1)), .val (.int (1 : Int32)), .val (.long ((own_oa p1) + (own_oa p2))), .second, .unset, .unset, .unset, .unset, .unset] [(.int (own_draw p2))])) _
          refine XS.iconst X41.here hx rfl (hb hby at_135) ?_
          show Steps p.tables e below (T41.setTop (mkF m 136 #[.val (.int p1), .val (.int p2), .val (.int (own_draw p1)), .val (.int (own_draw p2)), .val (.ref b28), .val (.long (own_oa p1)), .second, .val (.int (own_za p1)), .val (.int (1 : Int32)), .val (.long ((own_oa p1) + (own_oa p2))), .second, .unset, .unset, .unset, .unset, .unset] [(.int (1 : Int32)), (.int (own_draw p2))])) _
          have km47 : ∀ tgt, Steps p.tables e below (T41.setTop (mkF m 144 #[.val (.int p1), .val (.int p2), .val (.int (own_draw p1)), .val (.int (own_draw p2)), .val (.ref b28), .val (.long (own_oa p1)), .second, .val (.int (own_za p1)), .val (.int (1 : Int32)), .val (.long ((own_oa p1) + (own_oa p2))), .second, .unset, .unset, .unset, .unset, .unset] [(.int (if (own_draw p2) = (1 : Int32) then (1 : Int32) else (0 : Int32)))])) tgt → Steps p.tables e below (T41.setTop (mkF m 136 #[.val (.int p1), .val (.int p2), .val (.int (own_draw p1)), .val (.int (own_draw p2)), .val (.ref b28), .val (.long (own_oa p1)), .second, .val (.int (own_za p1)), .val (.int (1 : Int32)), .val (.long ((own_oa p1) + (own_oa p2))), .second, .unset, .unset, .unset, .unset, .unset] [(.int (1 : Int32)), (.int (own_draw p2))])) tgt := by
            intro tgt kst
            by_cases hc46 : (own_draw p2) = (1 : Int32)
            · rw [show (if (own_draw p2) = (1 : Int32) then (1 : Int32) else (0 : Int32)) = (1 : Int32) from if_pos hc46] at kst
              refine XS.icmpNo X41.here hx rfl (hb hby at_136) rfl (teq hc46).2 ?_
              show Steps p.tables e below (T41.setTop (mkF m 139 #[.val (.int p1), .val (.int p2), .val (.int (own_draw p1)), .val (.int (own_draw p2)), .val (.ref b28), .val (.long (own_oa p1)), .second, .val (.int (own_za p1)), .val (.int (1 : Int32)), .val (.long ((own_oa p1) + (own_oa p2))), .second, .unset, .unset, .unset, .unset, .unset] [])) _
              refine XS.iconst X41.here hx rfl (hb hby at_139) ?_
              show Steps p.tables e below (T41.setTop (mkF m 140 #[.val (.int p1), .val (.int p2), .val (.int (own_draw p1)), .val (.int (own_draw p2)), .val (.ref b28), .val (.long (own_oa p1)), .second, .val (.int (own_za p1)), .val (.int (1 : Int32)), .val (.long ((own_oa p1) + (own_oa p2))), .second, .unset, .unset, .unset, .unset, .unset] [(.int (1 : Int32))])) _
              refine XS.goto X41.here hx rfl (pc0 := 140) (pc' := 144) rfl (hb hby at_140) (by decide) (by decide) ?_
              show Steps p.tables e below (T41.setTop (mkF m 144 #[.val (.int p1), .val (.int p2), .val (.int (own_draw p1)), .val (.int (own_draw p2)), .val (.ref b28), .val (.long (own_oa p1)), .second, .val (.int (own_za p1)), .val (.int (1 : Int32)), .val (.long ((own_oa p1) + (own_oa p2))), .second, .unset, .unset, .unset, .unset, .unset] [(.int (1 : Int32))])) _
              exact kst
            · rw [show (if (own_draw p2) = (1 : Int32) then (1 : Int32) else (0 : Int32)) = (0 : Int32) from if_neg hc46] at kst
              refine XS.icmpYes X41.here hx rfl (pc0 := 136) (pc' := 143) rfl (hb hby at_136) rfl (feq hc46).2 (by decide) (by decide) ?_
              show Steps p.tables e below (T41.setTop (mkF m 143 #[.val (.int p1), .val (.int p2), .val (.int (own_draw p1)), .val (.int (own_draw p2)), .val (.ref b28), .val (.long (own_oa p1)), .second, .val (.int (own_za p1)), .val (.int (1 : Int32)), .val (.long ((own_oa p1) + (own_oa p2))), .second, .unset, .unset, .unset, .unset, .unset] [])) _
              refine XS.iconst X41.here hx rfl (hb hby at_143) ?_
              show Steps p.tables e below (T41.setTop (mkF m 144 #[.val (.int p1), .val (.int p2), .val (.int (own_draw p1)), .val (.int (own_draw p2)), .val (.ref b28), .val (.long (own_oa p1)), .second, .val (.int (own_za p1)), .val (.int (1 : Int32)), .val (.long ((own_oa p1) + (own_oa p2))), .second, .unset, .unset, .unset, .unset, .unset] [(.int (0 : Int32))])) _
              exact kst
          refine km47 _ ?_
          show Steps p.tables e below (T41.setTop (mkF m 144 #[.val (.int p1), .val (.int p2), .val (.int (own_draw p1)), .val (.int (own_draw p2)), .val (.ref b28), .val (.long (own_oa p1)), .second, .val (.int (own_za p1)), .val (.int (1 : Int32)), .val (.long ((own_oa p1) + (own_oa p2))), .second, .unset, .unset, .unset, .unset, .unset] [(.int (if (own_draw p2) = (1 : Int32) then (1 : Int32) else (0 : Int32)))])) _
          exact kst
      refine km48 _ ?_
      show Steps p.tables e below (T41.setTop (mkF m 144 #[.val (.int p1), .val (.int p2), .val (.int (own_draw p1)), .val (.int (own_draw p2)), .val (.ref b28), .val (.long (own_oa p1)), .second, .val (.int (own_za p1)), .val (.int (1 : Int32)), .val (.long ((own_oa p1) + (own_oa p2))), .second, .unset, .unset, .unset, .unset, .unset] [(.int (if (own_draw p2) = (0 : Int32) then (1 : Int32) else (if (own_draw p2) = (1 : Int32) then (1 : Int32) else (0 : Int32))))])) _
      exact kst
  refine oS (u' := T41.setTop (mkF m 144 #[.val (.int p1), .val (.int p2), .val (.int (own_draw p1)), .val (.int (own_draw p2)), .val (.ref b28), .val (.long (own_oa p1)), .second, .val (.int (own_za p1)), .val (.int (1 : Int32)), .val (.long ((own_oa p1) + (own_oa p2))), .second, .unset, .unset, .unset, .unset, .unset] [(.int (own_zb p1 p2))])) km49 ?_
  refine oS (u' := T41.setTop (mkF m 146 #[.val (.int p1), .val (.int p2), .val (.int (own_draw p1)), .val (.int (own_draw p2)), .val (.ref b28), .val (.long (own_oa p1)), .second, .val (.int (own_za p1)), .val (.int (1 : Int32)), .val (.long ((own_oa p1) + (own_oa p2))), .second, .val (.int (own_zb p1 p2)), .unset, .unset, .unset, .unset] [])) (fun _ kst => XS.istore X41.here hx rfl (hb hby at_144) rfl (l' := #[.val (.int p1), .val (.int p2), .val (.int (own_draw p1)), .val (.int (own_draw p2)), .val (.ref b28), .val (.long (own_oa p1)), .second, .val (.int (own_za p1)), .val (.int (1 : Int32)), .val (.long ((own_oa p1) + (own_oa p2))), .second, .val (.int (own_zb p1 p2)), .unset, .unset, .unset, .unset]) rfl kst) ?_
  refine oS (u' := T41.setTop (mkF m 147 #[.val (.int p1), .val (.int p2), .val (.int (own_draw p1)), .val (.int (own_draw p2)), .val (.ref b28), .val (.long (own_oa p1)), .second, .val (.int (own_za p1)), .val (.int (1 : Int32)), .val (.long ((own_oa p1) + (own_oa p2))), .second, .val (.int (own_zb p1 p2)), .unset, .unset, .unset, .unset] [(.int (own_draw p2))])) (fun _ kst => XS.iloadN X41.here hx rfl (hb hby at_146) rfl kst) ?_
  refine oS (u' := T41.setTop (mkF m 148 #[.val (.int p1), .val (.int p2), .val (.int (own_draw p1)), .val (.int (own_draw p2)), .val (.ref b28), .val (.long (own_oa p1)), .second, .val (.int (own_za p1)), .val (.int (1 : Int32)), .val (.long ((own_oa p1) + (own_oa p2))), .second, .val (.int (own_zb p1 p2)), .unset, .unset, .unset, .unset] [(.long (own_draw p2).toInt64)])) (fun _ kst => XS.i2l X41.here hx rfl (hb hby at_147) rfl kst) ?_
  refine oS (u' := T41.setTop (mkF m 149 #[.val (.int p1), .val (.int p2), .val (.int (own_draw p1)), .val (.int (own_draw p2)), .val (.ref b28), .val (.long (own_oa p1)), .second, .val (.int (own_za p1)), .val (.int (1 : Int32)), .val (.long ((own_oa p1) + (own_oa p2))), .second, .val (.int (own_zb p1 p2)), .unset, .unset, .unset, .unset] [(.int (own_draw p1)), (.long (own_draw p2).toInt64)])) (fun _ kst => XS.iloadN X41.here hx rfl (hb hby at_148) rfl kst) ?_
  refine oS (u' := T41.setTop (mkF m 150 #[.val (.int p1), .val (.int p2), .val (.int (own_draw p1)), .val (.int (own_draw p2)), .val (.ref b28), .val (.long (own_oa p1)), .second, .val (.int (own_za p1)), .val (.int (1 : Int32)), .val (.long ((own_oa p1) + (own_oa p2))), .second, .val (.int (own_zb p1 p2)), .unset, .unset, .unset, .unset] [(.long (own_draw p1).toInt64), (.long (own_draw p2).toInt64)])) (fun _ kst => XS.i2l X41.here hx rfl (hb hby at_149) rfl kst) ?_
  refine oS (u' := T41.setTop (mkF m 151 #[.val (.int p1), .val (.int p2), .val (.int (own_draw p1)), .val (.int (own_draw p2)), .val (.ref b28), .val (.long (own_oa p1)), .second, .val (.int (own_za p1)), .val (.int (1 : Int32)), .val (.long ((own_oa p1) + (own_oa p2))), .second, .val (.int (own_zb p1 p2)), .unset, .unset, .unset, .unset] [(.long ((own_draw p2).toInt64 - (own_draw p1).toInt64))])) (fun _ kst => XS.lsub X41.here hx rfl (hb hby at_150) rfl kst) ?_
  refine oS (u' := T41.setTop (mkF m 153 #[.val (.int p1), .val (.int p2), .val (.int (own_draw p1)), .val (.int (own_draw p2)), .val (.ref b28), .val (.long (own_oa p1)), .second, .val (.int (own_za p1)), .val (.int (1 : Int32)), .val (.long ((own_oa p1) + (own_oa p2))), .second, .val (.int (own_zb p1 p2)), .val (.long ((own_draw p2).toInt64 - (own_draw p1).toInt64)), .second, .unset, .unset] [])) (fun _ kst => XS.lstore X41.here hx rfl (hb hby at_151) rfl (l' := #[.val (.int p1), .val (.int p2), .val (.int (own_draw p1)), .val (.int (own_draw p2)), .val (.ref b28), .val (.long (own_oa p1)), .second, .val (.int (own_za p1)), .val (.int (1 : Int32)), .val (.long ((own_oa p1) + (own_oa p2))), .second, .val (.int (own_zb p1 p2)), .val (.long ((own_draw p2).toInt64 - (own_draw p1).toInt64)), .second, .unset, .unset]) rfl kst) ?_
  refine oS (u' := T41.setTop (mkF m 154 #[.val (.int p1), .val (.int p2), .val (.int (own_draw p1)), .val (.int (own_draw p2)), .val (.ref b28), .val (.long (own_oa p1)), .second, .val (.int (own_za p1)), .val (.int (1 : Int32)), .val (.long ((own_oa p1) + (own_oa p2))), .second, .val (.int (own_zb p1 p2)), .val (.long ((own_draw p2).toInt64 - (own_draw p1).toInt64)), .second, .unset, .unset] [(.int (own_draw p1))])) (fun _ kst => XS.iloadN X41.here hx rfl (hb hby at_153) rfl kst) ?_
  refine oS (u' := T41.setTop (mkF m 155 #[.val (.int p1), .val (.int p2), .val (.int (own_draw p1)), .val (.int (own_draw p2)), .val (.ref b28), .val (.long (own_oa p1)), .second, .val (.int (own_za p1)), .val (.int (1 : Int32)), .val (.long ((own_oa p1) + (own_oa p2))), .second, .val (.int (own_zb p1 p2)), .val (.long ((own_draw p2).toInt64 - (own_draw p1).toInt64)), .second, .unset, .unset] [(.long (own_draw p1).toInt64)])) (fun _ kst => XS.i2l X41.here hx rfl (hb hby at_154) rfl kst) ?_
  refine oS (u' := T41.setTop (mkF m 156 #[.val (.int p1), .val (.int p2), .val (.int (own_draw p1)), .val (.int (own_draw p2)), .val (.ref b28), .val (.long (own_oa p1)), .second, .val (.int (own_za p1)), .val (.int (1 : Int32)), .val (.long ((own_oa p1) + (own_oa p2))), .second, .val (.int (own_zb p1 p2)), .val (.long ((own_draw p2).toInt64 - (own_draw p1).toInt64)), .second, .unset, .unset] [(.int (own_draw p2)), (.long (own_draw p1).toInt64)])) (fun _ kst => XS.iloadN X41.here hx rfl (hb hby at_155) rfl kst) ?_
  refine oS (u' := T41.setTop (mkF m 157 #[.val (.int p1), .val (.int p2), .val (.int (own_draw p1)), .val (.int (own_draw p2)), .val (.ref b28), .val (.long (own_oa p1)), .second, .val (.int (own_za p1)), .val (.int (1 : Int32)), .val (.long ((own_oa p1) + (own_oa p2))), .second, .val (.int (own_zb p1 p2)), .val (.long ((own_draw p2).toInt64 - (own_draw p1).toInt64)), .second, .unset, .unset] [(.long (own_draw p2).toInt64), (.long (own_draw p1).toInt64)])) (fun _ kst => XS.i2l X41.here hx rfl (hb hby at_156) rfl kst) ?_
  refine oS (u' := T41.setTop (mkF m 158 #[.val (.int p1), .val (.int p2), .val (.int (own_draw p1)), .val (.int (own_draw p2)), .val (.ref b28), .val (.long (own_oa p1)), .second, .val (.int (own_za p1)), .val (.int (1 : Int32)), .val (.long ((own_oa p1) + (own_oa p2))), .second, .val (.int (own_zb p1 p2)), .val (.long ((own_draw p2).toInt64 - (own_draw p1).toInt64)), .second, .unset, .unset] [(.long ((own_draw p1).toInt64 + (own_draw p2).toInt64))])) (fun _ kst => XS.ladd X41.here hx rfl (hb hby at_157) rfl kst) ?_
  refine oS (u' := T41.setTop (mkF m 160 #[.val (.int p1), .val (.int p2), .val (.int (own_draw p1)), .val (.int (own_draw p2)), .val (.ref b28), .val (.long (own_oa p1)), .second, .val (.int (own_za p1)), .val (.int (1 : Int32)), .val (.long ((own_oa p1) + (own_oa p2))), .second, .val (.int (own_zb p1 p2)), .val (.long ((own_draw p2).toInt64 - (own_draw p1).toInt64)), .second, .val (.long ((own_draw p1).toInt64 + (own_draw p2).toInt64)), .second] [])) (fun _ kst => XS.lstore X41.here hx rfl (hb hby at_158) rfl (l' := #[.val (.int p1), .val (.int p2), .val (.int (own_draw p1)), .val (.int (own_draw p2)), .val (.ref b28), .val (.long (own_oa p1)), .second, .val (.int (own_za p1)), .val (.int (1 : Int32)), .val (.long ((own_oa p1) + (own_oa p2))), .second, .val (.int (own_zb p1 p2)), .val (.long ((own_draw p2).toInt64 - (own_draw p1).toInt64)), .second, .val (.long ((own_draw p1).toInt64 + (own_draw p2).toInt64)), .second]) rfl kst) ?_
  refine oS (u' := T41.setTop (mkF m 162 #[.val (.int p1), .val (.int p2), .val (.int (own_draw p1)), .val (.int (own_draw p2)), .val (.ref b28), .val (.long (own_oa p1)), .second, .val (.int (own_za p1)), .val (.int (1 : Int32)), .val (.long ((own_oa p1) + (own_oa p2))), .second, .val (.int (own_zb p1 p2)), .val (.long ((own_draw p2).toInt64 - (own_draw p1).toInt64)), .second, .val (.long ((own_draw p1).toInt64 + (own_draw p2).toInt64)), .second] [(.int (1 : Int32))])) (fun _ kst => XS.iload X41.here hx rfl (hb hby at_160) rfl kst) ?_
  refine oS (u' := T41.setTop (mkF m 165 #[.val (.int p1), .val (.int p2), .val (.int (own_draw p1)), .val (.int (own_draw p2)), .val (.ref b28), .val (.long (own_oa p1)), .second, .val (.int (own_za p1)), .val (.int (1 : Int32)), .val (.long ((own_oa p1) + (own_oa p2))), .second, .val (.int (own_zb p1 p2)), .val (.long ((own_draw p2).toInt64 - (own_draw p1).toInt64)), .second, .val (.long ((own_draw p1).toInt64 + (own_draw p2).toInt64)), .second] [])) (fun _ kst => XS.ifNo X41.here hx rfl (hb hby at_162) rfl ((if0 _ _).trans (feq (by decide)).1) kst) ?_
  refine oS (u' := T41.setTop (mkF m 167 #[.val (.int p1), .val (.int p2), .val (.int (own_draw p1)), .val (.int (own_draw p2)), .val (.ref b28), .val (.long (own_oa p1)), .second, .val (.int (own_za p1)), .val (.int (1 : Int32)), .val (.long ((own_oa p1) + (own_oa p2))), .second, .val (.int (own_zb p1 p2)), .val (.long ((own_draw p2).toInt64 - (own_draw p1).toInt64)), .second, .val (.long ((own_draw p1).toInt64 + (own_draw p2).toInt64)), .second] [(.ref b28)])) (fun _ kst => XS.aload X41.here hx rfl (hb hby at_165) rfl rfl kst) ?_
  obtain ⟨T50, X50, e50, st50⟩ := own_callVP X41 hx hZ (y := (⟨"com/example/varistat/varistat/stats/SampleMean", "count", "()J"⟩ : MethodName)) (z := (⟨"com/example/varistat/varistat/stats/SampleMean", "count", "()J"⟩ : MethodName)) hown (hw _ (List.mem_of_getElem? (i := 27) rfl)) (hw _ (List.mem_of_getElem? (i := 28) rfl)) (notFace_of_selects (args := #[]) (mvT hZ (hw _ (List.mem_of_getElem? (i := 30) rfl)))) (hw _ (List.mem_of_getElem? (i := 30) rfl)) (hw _ (List.mem_of_getElem? (i := 29) rfl)) (by decide) rfl f41_E_b28 (W := 0) (own_rm_get_count l Z a0 hw b28 (((0 : Int64) + (1 : Int64)) + (1 : Int64)) T41.heap q41_0) (hw _ (List.mem_of_getElem? (i := 31) rfl)) (hw _ (List.mem_of_getElem? (i := 7) rfl)) (by decide) (by decide) (g := (mkF m 167 #[.val (.int p1), .val (.int p2), .val (.int (own_draw p1)), .val (.int (own_draw p2)), .val (.ref b28), .val (.long (own_oa p1)), .second, .val (.int (own_za p1)), .val (.int (1 : Int32)), .val (.long ((own_oa p1) + (own_oa p2))), .second, .val (.int (own_zb p1 p2)), .val (.long ((own_draw p2).toInt64 - (own_draw p1).toInt64)), .second, .val (.long ((own_draw p1).toInt64 + (own_draw p2).toInt64)), .second] [(.ref b28)])) rfl (by rw [hml]; rfl) (b := b28) (argsL := []) (rest := []) (lenOf own_pd3 rfl) rfl (by show 2 * 0 + _ ≤ _; exact Nat.le_of_eq rfl) (hb hby at_167) (by decide) (by decide)
  refine oS (u' := T50.setTop (mkF m 170 #[.val (.int p1), .val (.int p2), .val (.int (own_draw p1)), .val (.int (own_draw p2)), .val (.ref b28), .val (.long (own_oa p1)), .second, .val (.int (own_za p1)), .val (.int (1 : Int32)), .val (.long ((own_oa p1) + (own_oa p2))), .second, .val (.int (own_zb p1 p2)), .val (.long ((own_draw p2).toInt64 - (own_draw p1).toInt64)), .second, .val (.long ((own_draw p1).toInt64 + (own_draw p2).toInt64)), .second] [(.long (((0 : Int64) + (1 : Int64)) + (1 : Int64)))])) st50 ?_
  refine oS (u' := T50.setTop (mkF m 173 #[.val (.int p1), .val (.int p2), .val (.int (own_draw p1)), .val (.int (own_draw p2)), .val (.ref b28), .val (.long (own_oa p1)), .second, .val (.int (own_za p1)), .val (.int (1 : Int32)), .val (.long ((own_oa p1) + (own_oa p2))), .second, .val (.int (own_zb p1 p2)), .val (.long ((own_draw p2).toInt64 - (own_draw p1).toInt64)), .second, .val (.long ((own_draw p1).toInt64 + (own_draw p2).toInt64)), .second] [(.long (2 : Int64)), (.long (((0 : Int64) + (1 : Int64)) + (1 : Int64)))])) (fun _ kst => X50.ldc2Long hx hown (mvT hZ (hw _ (List.mem_of_getElem? (i := 49) rfl))) (g := (mkF m 170 #[.val (.int p1), .val (.int p2), .val (.int (own_draw p1)), .val (.int (own_draw p2)), .val (.ref b28), .val (.long (own_oa p1)), .second, .val (.int (own_za p1)), .val (.int (1 : Int32)), .val (.long ((own_oa p1) + (own_oa p2))), .second, .val (.int (own_zb p1 p2)), .val (.long ((own_draw p2).toInt64 - (own_draw p1).toInt64)), .second, .val (.long ((own_draw p1).toInt64 + (own_draw p2).toInt64)), .second] [(.long (((0 : Int64) + (1 : Int64)) + (1 : Int64)))])) rfl (hb hby at_170) _ kst) ?_
  refine oS (u' := T50.setTop (mkF m 174 #[.val (.int p1), .val (.int p2), .val (.int (own_draw p1)), .val (.int (own_draw p2)), .val (.ref b28), .val (.long (own_oa p1)), .second, .val (.int (own_za p1)), .val (.int (1 : Int32)), .val (.long ((own_oa p1) + (own_oa p2))), .second, .val (.int (own_zb p1 p2)), .val (.long ((own_draw p2).toInt64 - (own_draw p1).toInt64)), .second, .val (.long ((own_draw p1).toInt64 + (own_draw p2).toInt64)), .second] [(.int (Jvm.Free.XT.cmpL (((0 : Int64) + (1 : Int64)) + (1 : Int64)) (2 : Int64)))])) (fun _ kst => XS.lcmp X50.here hx rfl (hb hby at_173) rfl kst) ?_
  refine oS (u' := T50.setTop (mkF m 177 #[.val (.int p1), .val (.int p2), .val (.int (own_draw p1)), .val (.int (own_draw p2)), .val (.ref b28), .val (.long (own_oa p1)), .second, .val (.int (own_za p1)), .val (.int (1 : Int32)), .val (.long ((own_oa p1) + (own_oa p2))), .second, .val (.int (own_zb p1 p2)), .val (.long ((own_draw p2).toInt64 - (own_draw p1).toInt64)), .second, .val (.long ((own_draw p1).toInt64 + (own_draw p2).toInt64)), .second] [])) (fun _ kst => XS.ifNo X50.here hx rfl (hb hby at_174) rfl ((if0 _ _).trans (teq (own_cl_eq (by decide))).2) kst) ?_
  refine oS (u' := T50.setTop (mkF m 179 #[.val (.int p1), .val (.int p2), .val (.int (own_draw p1)), .val (.int (own_draw p2)), .val (.ref b28), .val (.long (own_oa p1)), .second, .val (.int (own_za p1)), .val (.int (1 : Int32)), .val (.long ((own_oa p1) + (own_oa p2))), .second, .val (.int (own_zb p1 p2)), .val (.long ((own_draw p2).toInt64 - (own_draw p1).toInt64)), .second, .val (.long ((own_draw p1).toInt64 + (own_draw p2).toInt64)), .second] [(.ref b28)])) (fun _ kst => XS.aload X50.here hx rfl (hb hby at_177) rfl rfl kst) ?_
  obtain ⟨T51, X51, e51, st51⟩ := own_callVP X50 hx hZ (y := (⟨"com/example/varistat/varistat/stats/SampleMean", "mean", "()D"⟩ : MethodName)) (z := (⟨"com/example/varistat/varistat/stats/SampleMean", "mean", "()D"⟩ : MethodName)) hown (hw _ (List.mem_of_getElem? (i := 32) rfl)) (hw _ (List.mem_of_getElem? (i := 33) rfl)) (notFace_of_selects (args := #[]) (mvT hZ (hw _ (List.mem_of_getElem? (i := 35) rfl)))) (hw _ (List.mem_of_getElem? (i := 35) rfl)) (hw _ (List.mem_of_getElem? (i := 34) rfl)) (by decide) e50 f41_E_b28 (W := 0) (own_rm_get_mean l Z a0 hw b28 (own_mu (FP.i2d (own_draw p2)) ((0 : Int64) + (1 : Int64)) (own_mu (FP.i2d (own_draw p1)) (0 : Int64) (0 : UInt64))) T41.heap q41_1) (hw _ (List.mem_of_getElem? (i := 36) rfl)) (hw _ (List.mem_of_getElem? (i := 7) rfl)) (by decide) (by decide) (g := (mkF m 179 #[.val (.int p1), .val (.int p2), .val (.int (own_draw p1)), .val (.int (own_draw p2)), .val (.ref b28), .val (.long (own_oa p1)), .second, .val (.int (own_za p1)), .val (.int (1 : Int32)), .val (.long ((own_oa p1) + (own_oa p2))), .second, .val (.int (own_zb p1 p2)), .val (.long ((own_draw p2).toInt64 - (own_draw p1).toInt64)), .second, .val (.long ((own_draw p1).toInt64 + (own_draw p2).toInt64)), .second] [(.ref b28)])) rfl (by rw [hml]; rfl) (b := b28) (argsL := []) (rest := []) (lenOf own_pd4 rfl) rfl (by show 2 * 0 + _ ≤ _; exact Nat.le_of_eq rfl) (hb hby at_179) (by decide) (by decide)
  refine oS (u' := T51.setTop (mkF m 182 #[.val (.int p1), .val (.int p2), .val (.int (own_draw p1)), .val (.int (own_draw p2)), .val (.ref b28), .val (.long (own_oa p1)), .second, .val (.int (own_za p1)), .val (.int (1 : Int32)), .val (.long ((own_oa p1) + (own_oa p2))), .second, .val (.int (own_zb p1 p2)), .val (.long ((own_draw p2).toInt64 - (own_draw p1).toInt64)), .second, .val (.long ((own_draw p1).toInt64 + (own_draw p2).toInt64)), .second] [(.double (own_mu (FP.i2d (own_draw p2)) ((0 : Int64) + (1 : Int64)) (own_mu (FP.i2d (own_draw p1)) (0 : Int64) (0 : UInt64))))])) st51 ?_
  refine oS (u' := T51.setTop (mkF m 185 #[.val (.int p1), .val (.int p2), .val (.int (own_draw p1)), .val (.int (own_draw p2)), .val (.ref b28), .val (.long (own_oa p1)), .second, .val (.int (own_za p1)), .val (.int (1 : Int32)), .val (.long ((own_oa p1) + (own_oa p2))), .second, .val (.int (own_zb p1 p2)), .val (.long ((own_draw p2).toInt64 - (own_draw p1).toInt64)), .second, .val (.long ((own_draw p1).toInt64 + (own_draw p2).toInt64)), .second] [(.double (4611686018427387904 : UInt64)), (.double (own_mu (FP.i2d (own_draw p2)) ((0 : Int64) + (1 : Int64)) (own_mu (FP.i2d (own_draw p1)) (0 : Int64) (0 : UInt64))))])) (fun _ kst => X51.ldc2DoubleC hx hown (mvT hZ (hw _ (List.mem_of_getElem? (i := 50) rfl))) (g := (mkF m 182 #[.val (.int p1), .val (.int p2), .val (.int (own_draw p1)), .val (.int (own_draw p2)), .val (.ref b28), .val (.long (own_oa p1)), .second, .val (.int (own_za p1)), .val (.int (1 : Int32)), .val (.long ((own_oa p1) + (own_oa p2))), .second, .val (.int (own_zb p1 p2)), .val (.long ((own_draw p2).toInt64 - (own_draw p1).toInt64)), .second, .val (.long ((own_draw p1).toInt64 + (own_draw p2).toInt64)), .second] [(.double (own_mu (FP.i2d (own_draw p2)) ((0 : Int64) + (1 : Int64)) (own_mu (FP.i2d (own_draw p1)) (0 : Int64) (0 : UInt64))))])) rfl (hb hby at_182) _ kst) ?_
  refine oS (u' := T51.setTop (mkF m 186 #[.val (.int p1), .val (.int p2), .val (.int (own_draw p1)), .val (.int (own_draw p2)), .val (.ref b28), .val (.long (own_oa p1)), .second, .val (.int (own_za p1)), .val (.int (1 : Int32)), .val (.long ((own_oa p1) + (own_oa p2))), .second, .val (.int (own_zb p1 p2)), .val (.long ((own_draw p2).toInt64 - (own_draw p1).toInt64)), .second, .val (.long ((own_draw p1).toInt64 + (own_draw p2).toInt64)), .second] [(.double (FP.dmul (own_mu (FP.i2d (own_draw p2)) ((0 : Int64) + (1 : Int64)) (own_mu (FP.i2d (own_draw p1)) (0 : Int64) (0 : UInt64))) (4611686018427387904 : UInt64)))])) (fun _ kst => XS.dmulS X51.here hx rfl (hb hby at_185) rfl (own_V_no (own_s3 p1 p2)) rfl kst) ?_
  refine oS (u' := T51.setTop (mkF m 188 #[.val (.int p1), .val (.int p2), .val (.int (own_draw p1)), .val (.int (own_draw p2)), .val (.ref b28), .val (.long (own_oa p1)), .second, .val (.int (own_za p1)), .val (.int (1 : Int32)), .val (.long ((own_oa p1) + (own_oa p2))), .second, .val (.int (own_zb p1 p2)), .val (.long ((own_draw p2).toInt64 - (own_draw p1).toInt64)), .second, .val (.long ((own_draw p1).toInt64 + (own_draw p2).toInt64)), .second] [(.long ((own_draw p1).toInt64 + (own_draw p2).toInt64)), (.double (FP.dmul (own_mu (FP.i2d (own_draw p2)) ((0 : Int64) + (1 : Int64)) (own_mu (FP.i2d (own_draw p1)) (0 : Int64) (0 : UInt64))) (4611686018427387904 : UInt64)))])) (fun _ kst => XS.lload X51.here hx rfl (hb hby at_186) rfl kst) ?_
  refine oS (u' := T51.setTop (mkF m 189 #[.val (.int p1), .val (.int p2), .val (.int (own_draw p1)), .val (.int (own_draw p2)), .val (.ref b28), .val (.long (own_oa p1)), .second, .val (.int (own_za p1)), .val (.int (1 : Int32)), .val (.long ((own_oa p1) + (own_oa p2))), .second, .val (.int (own_zb p1 p2)), .val (.long ((own_draw p2).toInt64 - (own_draw p1).toInt64)), .second, .val (.long ((own_draw p1).toInt64 + (own_draw p2).toInt64)), .second] [(.double (FP.l2d ((own_draw p1).toInt64 + (own_draw p2).toInt64))), (.double (FP.dmul (own_mu (FP.i2d (own_draw p2)) ((0 : Int64) + (1 : Int64)) (own_mu (FP.i2d (own_draw p1)) (0 : Int64) (0 : UInt64))) (4611686018427387904 : UInt64)))])) (fun _ kst => XS.l2dS X51.here hx rfl (hb hby at_188) rfl rfl kst) ?_
  refine oS (u' := T51.setTop (mkF m 190 #[.val (.int p1), .val (.int p2), .val (.int (own_draw p1)), .val (.int (own_draw p2)), .val (.ref b28), .val (.long (own_oa p1)), .second, .val (.int (own_za p1)), .val (.int (1 : Int32)), .val (.long ((own_oa p1) + (own_oa p2))), .second, .val (.int (own_zb p1 p2)), .val (.long ((own_draw p2).toInt64 - (own_draw p1).toInt64)), .second, .val (.long ((own_draw p1).toInt64 + (own_draw p2).toInt64)), .second] [(.int (0 : Int32))])) (fun _ kst => XS.dcmpS X51.here hx rfl (hb hby at_189) rfl (own_c2 p1 p2) kst) ?_
  refine oS (u' := T51.setTop (mkF m 193 #[.val (.int p1), .val (.int p2), .val (.int (own_draw p1)), .val (.int (own_draw p2)), .val (.ref b28), .val (.long (own_oa p1)), .second, .val (.int (own_za p1)), .val (.int (1 : Int32)), .val (.long ((own_oa p1) + (own_oa p2))), .second, .val (.int (own_zb p1 p2)), .val (.long ((own_draw p2).toInt64 - (own_draw p1).toInt64)), .second, .val (.long ((own_draw p1).toInt64 + (own_draw p2).toInt64)), .second] [])) (fun _ kst => XS.ifNo X51.here hx rfl (hb hby at_190) rfl ((if0 _ _).trans (teq rfl).2) kst) ?_
  refine oS (u' := T51.setTop (mkF m 195 #[.val (.int p1), .val (.int p2), .val (.int (own_draw p1)), .val (.int (own_draw p2)), .val (.ref b28), .val (.long (own_oa p1)), .second, .val (.int (own_za p1)), .val (.int (1 : Int32)), .val (.long ((own_oa p1) + (own_oa p2))), .second, .val (.int (own_zb p1 p2)), .val (.long ((own_draw p2).toInt64 - (own_draw p1).toInt64)), .second, .val (.long ((own_draw p1).toInt64 + (own_draw p2).toInt64)), .second] [(.ref b28)])) (fun _ kst => XS.aload X51.here hx rfl (hb hby at_193) rfl rfl kst) ?_
  obtain ⟨T52, X52, e52, st52⟩ := own_callVP X51 hx hZ (y := (⟨"com/example/varistat/varistat/stats/SampleMean", "variance", "()D"⟩ : MethodName)) (z := (⟨"com/example/varistat/varistat/stats/SampleMean", "variance", "()D"⟩ : MethodName)) hown (hw _ (List.mem_of_getElem? (i := 51) rfl)) (hw _ (List.mem_of_getElem? (i := 52) rfl)) (notFace_of_selects (args := #[]) (mvT hZ (hw _ (List.mem_of_getElem? (i := 54) rfl)))) (hw _ (List.mem_of_getElem? (i := 54) rfl)) (hw _ (List.mem_of_getElem? (i := 53) rfl)) (by decide) e51 f41_E_b28 (W := 0) (own_rm_var l Z a0 hw b28 (((0 : Int64) + (1 : Int64)) + (1 : Int64)) (own_sd (FP.i2d (own_draw p2)) ((0 : Int64) + (1 : Int64)) (own_mu (FP.i2d (own_draw p1)) (0 : Int64) (0 : UInt64)) (own_sd (FP.i2d (own_draw p1)) (0 : Int64) (0 : UInt64) (0 : UInt64))) T41.heap q41_0 q41_2 (fun _ => own_V_no (own_s4 p1 p2))) (hw _ (List.mem_of_getElem? (i := 55) rfl)) (hw _ (List.mem_of_getElem? (i := 7) rfl)) (by decide) (by decide) (g := (mkF m 195 #[.val (.int p1), .val (.int p2), .val (.int (own_draw p1)), .val (.int (own_draw p2)), .val (.ref b28), .val (.long (own_oa p1)), .second, .val (.int (own_za p1)), .val (.int (1 : Int32)), .val (.long ((own_oa p1) + (own_oa p2))), .second, .val (.int (own_zb p1 p2)), .val (.long ((own_draw p2).toInt64 - (own_draw p1).toInt64)), .second, .val (.long ((own_draw p1).toInt64 + (own_draw p2).toInt64)), .second] [(.ref b28)])) rfl (by rw [hml]; rfl) (b := b28) (argsL := []) (rest := []) (lenOf own_pd4 rfl) rfl (by show 2 * 0 + _ ≤ _; exact Nat.le_of_eq rfl) (hb hby at_195) (by decide) (by decide)
  refine oS (u' := T52.setTop (mkF m 198 #[.val (.int p1), .val (.int p2), .val (.int (own_draw p1)), .val (.int (own_draw p2)), .val (.ref b28), .val (.long (own_oa p1)), .second, .val (.int (own_za p1)), .val (.int (1 : Int32)), .val (.long ((own_oa p1) + (own_oa p2))), .second, .val (.int (own_zb p1 p2)), .val (.long ((own_draw p2).toInt64 - (own_draw p1).toInt64)), .second, .val (.long ((own_draw p1).toInt64 + (own_draw p2).toInt64)), .second] [(.double (own_var b28 (((0 : Int64) + (1 : Int64)) + (1 : Int64)) (own_sd (FP.i2d (own_draw p2)) ((0 : Int64) + (1 : Int64)) (own_mu (FP.i2d (own_draw p1)) (0 : Int64) (0 : UInt64)) (own_sd (FP.i2d (own_draw p1)) (0 : Int64) (0 : UInt64) (0 : UInt64)))))])) st52 ?_
  refine oS (u' := T52.setTop (mkF m 201 #[.val (.int p1), .val (.int p2), .val (.int (own_draw p1)), .val (.int (own_draw p2)), .val (.ref b28), .val (.long (own_oa p1)), .second, .val (.int (own_za p1)), .val (.int (1 : Int32)), .val (.long ((own_oa p1) + (own_oa p2))), .second, .val (.int (own_zb p1 p2)), .val (.long ((own_draw p2).toInt64 - (own_draw p1).toInt64)), .second, .val (.long ((own_draw p1).toInt64 + (own_draw p2).toInt64)), .second] [(.double (4611686018427387904 : UInt64)), (.double (own_var b28 (((0 : Int64) + (1 : Int64)) + (1 : Int64)) (own_sd (FP.i2d (own_draw p2)) ((0 : Int64) + (1 : Int64)) (own_mu (FP.i2d (own_draw p1)) (0 : Int64) (0 : UInt64)) (own_sd (FP.i2d (own_draw p1)) (0 : Int64) (0 : UInt64) (0 : UInt64)))))])) (fun _ kst => X52.ldc2DoubleC hx hown (mvT hZ (hw _ (List.mem_of_getElem? (i := 50) rfl))) (g := (mkF m 198 #[.val (.int p1), .val (.int p2), .val (.int (own_draw p1)), .val (.int (own_draw p2)), .val (.ref b28), .val (.long (own_oa p1)), .second, .val (.int (own_za p1)), .val (.int (1 : Int32)), .val (.long ((own_oa p1) + (own_oa p2))), .second, .val (.int (own_zb p1 p2)), .val (.long ((own_draw p2).toInt64 - (own_draw p1).toInt64)), .second, .val (.long ((own_draw p1).toInt64 + (own_draw p2).toInt64)), .second] [(.double (own_var b28 (((0 : Int64) + (1 : Int64)) + (1 : Int64)) (own_sd (FP.i2d (own_draw p2)) ((0 : Int64) + (1 : Int64)) (own_mu (FP.i2d (own_draw p1)) (0 : Int64) (0 : UInt64)) (own_sd (FP.i2d (own_draw p1)) (0 : Int64) (0 : UInt64) (0 : UInt64)))))])) rfl (hb hby at_198) _ kst) ?_
  refine oS (u' := T52.setTop (mkF m 202 #[.val (.int p1), .val (.int p2), .val (.int (own_draw p1)), .val (.int (own_draw p2)), .val (.ref b28), .val (.long (own_oa p1)), .second, .val (.int (own_za p1)), .val (.int (1 : Int32)), .val (.long ((own_oa p1) + (own_oa p2))), .second, .val (.int (own_zb p1 p2)), .val (.long ((own_draw p2).toInt64 - (own_draw p1).toInt64)), .second, .val (.long ((own_draw p1).toInt64 + (own_draw p2).toInt64)), .second] [(.double (FP.dmul (own_var b28 (((0 : Int64) + (1 : Int64)) + (1 : Int64)) (own_sd (FP.i2d (own_draw p2)) ((0 : Int64) + (1 : Int64)) (own_mu (FP.i2d (own_draw p1)) (0 : Int64) (0 : UInt64)) (own_sd (FP.i2d (own_draw p1)) (0 : Int64) (0 : UInt64) (0 : UInt64)))) (4611686018427387904 : UInt64)))])) (fun _ kst => XS.dmulS X52.here hx rfl (hb hby at_201) rfl (own_V_no (own_s5 _ p1 p2)) rfl kst) ?_
  refine oS (u' := T52.setTop (mkF m 204 #[.val (.int p1), .val (.int p2), .val (.int (own_draw p1)), .val (.int (own_draw p2)), .val (.ref b28), .val (.long (own_oa p1)), .second, .val (.int (own_za p1)), .val (.int (1 : Int32)), .val (.long ((own_oa p1) + (own_oa p2))), .second, .val (.int (own_zb p1 p2)), .val (.long ((own_draw p2).toInt64 - (own_draw p1).toInt64)), .second, .val (.long ((own_draw p1).toInt64 + (own_draw p2).toInt64)), .second] [(.long ((own_draw p2).toInt64 - (own_draw p1).toInt64)), (.double (FP.dmul (own_var b28 (((0 : Int64) + (1 : Int64)) + (1 : Int64)) (own_sd (FP.i2d (own_draw p2)) ((0 : Int64) + (1 : Int64)) (own_mu (FP.i2d (own_draw p1)) (0 : Int64) (0 : UInt64)) (own_sd (FP.i2d (own_draw p1)) (0 : Int64) (0 : UInt64) (0 : UInt64)))) (4611686018427387904 : UInt64)))])) (fun _ kst => XS.lload X52.here hx rfl (hb hby at_202) rfl kst) ?_
  refine oS (u' := T52.setTop (mkF m 206 #[.val (.int p1), .val (.int p2), .val (.int (own_draw p1)), .val (.int (own_draw p2)), .val (.ref b28), .val (.long (own_oa p1)), .second, .val (.int (own_za p1)), .val (.int (1 : Int32)), .val (.long ((own_oa p1) + (own_oa p2))), .second, .val (.int (own_zb p1 p2)), .val (.long ((own_draw p2).toInt64 - (own_draw p1).toInt64)), .second, .val (.long ((own_draw p1).toInt64 + (own_draw p2).toInt64)), .second] [(.long ((own_draw p2).toInt64 - (own_draw p1).toInt64)), (.long ((own_draw p2).toInt64 - (own_draw p1).toInt64)), (.double (FP.dmul (own_var b28 (((0 : Int64) + (1 : Int64)) + (1 : Int64)) (own_sd (FP.i2d (own_draw p2)) ((0 : Int64) + (1 : Int64)) (own_mu (FP.i2d (own_draw p1)) (0 : Int64) (0 : UInt64)) (own_sd (FP.i2d (own_draw p1)) (0 : Int64) (0 : UInt64) (0 : UInt64)))) (4611686018427387904 : UInt64)))])) (fun _ kst => XS.lload X52.here hx rfl (hb hby at_204) rfl kst) ?_
  refine oS (u' := T52.setTop (mkF m 207 #[.val (.int p1), .val (.int p2), .val (.int (own_draw p1)), .val (.int (own_draw p2)), .val (.ref b28), .val (.long (own_oa p1)), .second, .val (.int (own_za p1)), .val (.int (1 : Int32)), .val (.long ((own_oa p1) + (own_oa p2))), .second, .val (.int (own_zb p1 p2)), .val (.long ((own_draw p2).toInt64 - (own_draw p1).toInt64)), .second, .val (.long ((own_draw p1).toInt64 + (own_draw p2).toInt64)), .second] [(.long (((own_draw p2).toInt64 - (own_draw p1).toInt64) * ((own_draw p2).toInt64 - (own_draw p1).toInt64))), (.double (FP.dmul (own_var b28 (((0 : Int64) + (1 : Int64)) + (1 : Int64)) (own_sd (FP.i2d (own_draw p2)) ((0 : Int64) + (1 : Int64)) (own_mu (FP.i2d (own_draw p1)) (0 : Int64) (0 : UInt64)) (own_sd (FP.i2d (own_draw p1)) (0 : Int64) (0 : UInt64) (0 : UInt64)))) (4611686018427387904 : UInt64)))])) (fun _ kst => XS.lmul X52.here hx rfl (hb hby at_206) rfl kst) ?_
  refine oS (u' := T52.setTop (mkF m 208 #[.val (.int p1), .val (.int p2), .val (.int (own_draw p1)), .val (.int (own_draw p2)), .val (.ref b28), .val (.long (own_oa p1)), .second, .val (.int (own_za p1)), .val (.int (1 : Int32)), .val (.long ((own_oa p1) + (own_oa p2))), .second, .val (.int (own_zb p1 p2)), .val (.long ((own_draw p2).toInt64 - (own_draw p1).toInt64)), .second, .val (.long ((own_draw p1).toInt64 + (own_draw p2).toInt64)), .second] [(.double (FP.l2d (((own_draw p2).toInt64 - (own_draw p1).toInt64) * ((own_draw p2).toInt64 - (own_draw p1).toInt64)))), (.double (FP.dmul (own_var b28 (((0 : Int64) + (1 : Int64)) + (1 : Int64)) (own_sd (FP.i2d (own_draw p2)) ((0 : Int64) + (1 : Int64)) (own_mu (FP.i2d (own_draw p1)) (0 : Int64) (0 : UInt64)) (own_sd (FP.i2d (own_draw p1)) (0 : Int64) (0 : UInt64) (0 : UInt64)))) (4611686018427387904 : UInt64)))])) (fun _ kst => XS.l2dS X52.here hx rfl (hb hby at_207) rfl rfl kst) ?_
  refine oS (u' := T52.setTop (mkF m 209 #[.val (.int p1), .val (.int p2), .val (.int (own_draw p1)), .val (.int (own_draw p2)), .val (.ref b28), .val (.long (own_oa p1)), .second, .val (.int (own_za p1)), .val (.int (1 : Int32)), .val (.long ((own_oa p1) + (own_oa p2))), .second, .val (.int (own_zb p1 p2)), .val (.long ((own_draw p2).toInt64 - (own_draw p1).toInt64)), .second, .val (.long ((own_draw p1).toInt64 + (own_draw p2).toInt64)), .second] [(.int (0 : Int32))])) (fun _ kst => XS.dcmpS X52.here hx rfl (hb hby at_208) rfl (own_c3 _ p1 p2) kst) ?_
  refine oS (u' := T52.setTop (mkF m 212 #[.val (.int p1), .val (.int p2), .val (.int (own_draw p1)), .val (.int (own_draw p2)), .val (.ref b28), .val (.long (own_oa p1)), .second, .val (.int (own_za p1)), .val (.int (1 : Int32)), .val (.long ((own_oa p1) + (own_oa p2))), .second, .val (.int (own_zb p1 p2)), .val (.long ((own_draw p2).toInt64 - (own_draw p1).toInt64)), .second, .val (.long ((own_draw p1).toInt64 + (own_draw p2).toInt64)), .second] [])) (fun _ kst => XS.ifNo X52.here hx rfl (hb hby at_209) rfl ((if0 _ _).trans (teq rfl).2) kst) ?_
  refine oS (u' := T52.setTop (mkF m 214 #[.val (.int p1), .val (.int p2), .val (.int (own_draw p1)), .val (.int (own_draw p2)), .val (.ref b28), .val (.long (own_oa p1)), .second, .val (.int (own_za p1)), .val (.int (1 : Int32)), .val (.long ((own_oa p1) + (own_oa p2))), .second, .val (.int (own_zb p1 p2)), .val (.long ((own_draw p2).toInt64 - (own_draw p1).toInt64)), .second, .val (.long ((own_draw p1).toInt64 + (own_draw p2).toInt64)), .second] [(.ref b28)])) (fun _ kst => XS.aload X52.here hx rfl (hb hby at_212) rfl rfl kst) ?_
  obtain ⟨T53, X53, e53, st53⟩ := own_callVP X52 hx hZ (y := (⟨"com/example/varistat/varistat/stats/SampleMean", "ones", "()J"⟩ : MethodName)) (z := (⟨"com/example/varistat/varistat/stats/SampleMean", "ones", "()J"⟩ : MethodName)) hown (hw _ (List.mem_of_getElem? (i := 37) rfl)) (hw _ (List.mem_of_getElem? (i := 38) rfl)) (notFace_of_selects (args := #[]) (mvT hZ (hw _ (List.mem_of_getElem? (i := 40) rfl)))) (hw _ (List.mem_of_getElem? (i := 40) rfl)) (hw _ (List.mem_of_getElem? (i := 39) rfl)) (by decide) e52 f41_E_b28 (W := 0) (own_rm_get_ones l Z a0 hw b28 (own_on (FP.i2d (own_draw p2)) (own_on (FP.i2d (own_draw p1)) (0 : Int64))) T41.heap q41_3) (hw _ (List.mem_of_getElem? (i := 41) rfl)) (hw _ (List.mem_of_getElem? (i := 7) rfl)) (by decide) (by decide) (g := (mkF m 214 #[.val (.int p1), .val (.int p2), .val (.int (own_draw p1)), .val (.int (own_draw p2)), .val (.ref b28), .val (.long (own_oa p1)), .second, .val (.int (own_za p1)), .val (.int (1 : Int32)), .val (.long ((own_oa p1) + (own_oa p2))), .second, .val (.int (own_zb p1 p2)), .val (.long ((own_draw p2).toInt64 - (own_draw p1).toInt64)), .second, .val (.long ((own_draw p1).toInt64 + (own_draw p2).toInt64)), .second] [(.ref b28)])) rfl (by rw [hml]; rfl) (b := b28) (argsL := []) (rest := []) (lenOf own_pd3 rfl) rfl (by show 2 * 0 + _ ≤ _; exact Nat.le_of_eq rfl) (hb hby at_214) (by decide) (by decide)
  refine oS (u' := T53.setTop (mkF m 217 #[.val (.int p1), .val (.int p2), .val (.int (own_draw p1)), .val (.int (own_draw p2)), .val (.ref b28), .val (.long (own_oa p1)), .second, .val (.int (own_za p1)), .val (.int (1 : Int32)), .val (.long ((own_oa p1) + (own_oa p2))), .second, .val (.int (own_zb p1 p2)), .val (.long ((own_draw p2).toInt64 - (own_draw p1).toInt64)), .second, .val (.long ((own_draw p1).toInt64 + (own_draw p2).toInt64)), .second] [(.long (own_on (FP.i2d (own_draw p2)) (own_on (FP.i2d (own_draw p1)) (0 : Int64))))])) st53 ?_
  refine oS (u' := T53.setTop (mkF m 219 #[.val (.int p1), .val (.int p2), .val (.int (own_draw p1)), .val (.int (own_draw p2)), .val (.ref b28), .val (.long (own_oa p1)), .second, .val (.int (own_za p1)), .val (.int (1 : Int32)), .val (.long ((own_oa p1) + (own_oa p2))), .second, .val (.int (own_zb p1 p2)), .val (.long ((own_draw p2).toInt64 - (own_draw p1).toInt64)), .second, .val (.long ((own_draw p1).toInt64 + (own_draw p2).toInt64)), .second] [(.long ((own_oa p1) + (own_oa p2))), (.long (own_on (FP.i2d (own_draw p2)) (own_on (FP.i2d (own_draw p1)) (0 : Int64))))])) (fun _ kst => XS.lload X53.here hx rfl (hb hby at_217) rfl kst) ?_
  refine oS (u' := T53.setTop (mkF m 220 #[.val (.int p1), .val (.int p2), .val (.int (own_draw p1)), .val (.int (own_draw p2)), .val (.ref b28), .val (.long (own_oa p1)), .second, .val (.int (own_za p1)), .val (.int (1 : Int32)), .val (.long ((own_oa p1) + (own_oa p2))), .second, .val (.int (own_zb p1 p2)), .val (.long ((own_draw p2).toInt64 - (own_draw p1).toInt64)), .second, .val (.long ((own_draw p1).toInt64 + (own_draw p2).toInt64)), .second] [(.int (Jvm.Free.XT.cmpL (own_on (FP.i2d (own_draw p2)) (own_on (FP.i2d (own_draw p1)) (0 : Int64))) ((own_oa p1) + (own_oa p2))))])) (fun _ kst => XS.lcmp X53.here hx rfl (hb hby at_219) rfl kst) ?_
  refine oS (u' := T53.setTop (mkF m 223 #[.val (.int p1), .val (.int p2), .val (.int (own_draw p1)), .val (.int (own_draw p2)), .val (.ref b28), .val (.long (own_oa p1)), .second, .val (.int (own_za p1)), .val (.int (1 : Int32)), .val (.long ((own_oa p1) + (own_oa p2))), .second, .val (.int (own_zb p1 p2)), .val (.long ((own_draw p2).toInt64 - (own_draw p1).toInt64)), .second, .val (.long ((own_draw p1).toInt64 + (own_draw p2).toInt64)), .second] [])) (fun _ kst => XS.ifNo X53.here hx rfl (hb hby at_220) rfl ((if0 _ _).trans (teq (own_cl_eq (own_o2 p1 p2))).2) kst) ?_
  refine oS (u' := T53.setTop (mkF m 225 #[.val (.int p1), .val (.int p2), .val (.int (own_draw p1)), .val (.int (own_draw p2)), .val (.ref b28), .val (.long (own_oa p1)), .second, .val (.int (own_za p1)), .val (.int (1 : Int32)), .val (.long ((own_oa p1) + (own_oa p2))), .second, .val (.int (own_zb p1 p2)), .val (.long ((own_draw p2).toInt64 - (own_draw p1).toInt64)), .second, .val (.long ((own_draw p1).toInt64 + (own_draw p2).toInt64)), .second] [(.ref b28)])) (fun _ kst => XS.aload X53.here hx rfl (hb hby at_223) rfl rfl kst) ?_
  obtain ⟨T54, X54, e54, st54⟩ := own_callVP X53 hx hZ (y := (⟨"com/example/varistat/varistat/stats/SampleMean", "isZeroOne", "()Z"⟩ : MethodName)) (z := (⟨"com/example/varistat/varistat/stats/SampleMean", "isZeroOne", "()Z"⟩ : MethodName)) hown (hw _ (List.mem_of_getElem? (i := 44) rfl)) (hw _ (List.mem_of_getElem? (i := 45) rfl)) (notFace_of_selects (args := #[]) (mvT hZ (hw _ (List.mem_of_getElem? (i := 47) rfl)))) (hw _ (List.mem_of_getElem? (i := 47) rfl)) (hw _ (List.mem_of_getElem? (i := 46) rfl)) (by decide) e53 f41_E_b28 (W := 0) (own_rm_get_isZeroOne l Z a0 hw b28 (own_zo (FP.i2d (own_draw p2)) (own_zo (FP.i2d (own_draw p1)) (1 : Int32))) T41.heap q41_4) (hw _ (List.mem_of_getElem? (i := 48) rfl)) (hw _ (List.mem_of_getElem? (i := 7) rfl)) (by decide) (by decide) (g := (mkF m 225 #[.val (.int p1), .val (.int p2), .val (.int (own_draw p1)), .val (.int (own_draw p2)), .val (.ref b28), .val (.long (own_oa p1)), .second, .val (.int (own_za p1)), .val (.int (1 : Int32)), .val (.long ((own_oa p1) + (own_oa p2))), .second, .val (.int (own_zb p1 p2)), .val (.long ((own_draw p2).toInt64 - (own_draw p1).toInt64)), .second, .val (.long ((own_draw p1).toInt64 + (own_draw p2).toInt64)), .second] [(.ref b28)])) rfl (by rw [hml]; rfl) (b := b28) (argsL := []) (rest := []) (lenOf own_pd5 rfl) rfl (by show 2 * 0 + _ ≤ _; exact Nat.le_of_eq rfl) (hb hby at_225) (by decide) (by decide)
  refine oS (u' := T54.setTop (mkF m 228 #[.val (.int p1), .val (.int p2), .val (.int (own_draw p1)), .val (.int (own_draw p2)), .val (.ref b28), .val (.long (own_oa p1)), .second, .val (.int (own_za p1)), .val (.int (1 : Int32)), .val (.long ((own_oa p1) + (own_oa p2))), .second, .val (.int (own_zb p1 p2)), .val (.long ((own_draw p2).toInt64 - (own_draw p1).toInt64)), .second, .val (.long ((own_draw p1).toInt64 + (own_draw p2).toInt64)), .second] [(.int ((own_zo (FP.i2d (own_draw p2)) (own_zo (FP.i2d (own_draw p1)) (1 : Int32))) &&& 1))])) st54 ?_
  refine oS (u' := T54.setTop (mkF m 230 #[.val (.int p1), .val (.int p2), .val (.int (own_draw p1)), .val (.int (own_draw p2)), .val (.ref b28), .val (.long (own_oa p1)), .second, .val (.int (own_za p1)), .val (.int (1 : Int32)), .val (.long ((own_oa p1) + (own_oa p2))), .second, .val (.int (own_zb p1 p2)), .val (.long ((own_draw p2).toInt64 - (own_draw p1).toInt64)), .second, .val (.long ((own_draw p1).toInt64 + (own_draw p2).toInt64)), .second] [(.int (own_zb p1 p2)), (.int ((own_zo (FP.i2d (own_draw p2)) (own_zo (FP.i2d (own_draw p1)) (1 : Int32))) &&& 1))])) (fun _ kst => XS.iload X54.here hx rfl (hb hby at_228) rfl kst) ?_
  refine oS (u' := T54.setTop (mkF m 233 #[.val (.int p1), .val (.int p2), .val (.int (own_draw p1)), .val (.int (own_draw p2)), .val (.ref b28), .val (.long (own_oa p1)), .second, .val (.int (own_za p1)), .val (.int (1 : Int32)), .val (.long ((own_oa p1) + (own_oa p2))), .second, .val (.int (own_zb p1 p2)), .val (.long ((own_draw p2).toInt64 - (own_draw p1).toInt64)), .second, .val (.long ((own_draw p1).toInt64 + (own_draw p2).toInt64)), .second] [])) (fun _ kst => XS.icmpNo X54.here hx rfl (hb hby at_230) rfl (teq (own_z2 p1 p2)).2 kst) ?_
  refine oS (u' := T54.setTop (mkF m 234 #[.val (.int p1), .val (.int p2), .val (.int (own_draw p1)), .val (.int (own_draw p2)), .val (.ref b28), .val (.long (own_oa p1)), .second, .val (.int (own_za p1)), .val (.int (1 : Int32)), .val (.long ((own_oa p1) + (own_oa p2))), .second, .val (.int (own_zb p1 p2)), .val (.long ((own_draw p2).toInt64 - (own_draw p1).toInt64)), .second, .val (.long ((own_draw p1).toInt64 + (own_draw p2).toInt64)), .second] [(.int (1 : Int32))])) (fun _ kst => XS.iconst X54.here hx rfl (hb hby at_233) kst) ?_
  refine oS (u' := T54.setTop (mkF m 238 #[.val (.int p1), .val (.int p2), .val (.int (own_draw p1)), .val (.int (own_draw p2)), .val (.ref b28), .val (.long (own_oa p1)), .second, .val (.int (own_za p1)), .val (.int (1 : Int32)), .val (.long ((own_oa p1) + (own_oa p2))), .second, .val (.int (own_zb p1 p2)), .val (.long ((own_draw p2).toInt64 - (own_draw p1).toInt64)), .second, .val (.long ((own_draw p1).toInt64 + (own_draw p2).toInt64)), .second] [(.int (1 : Int32))])) (fun _ kst => XS.goto X54.here hx rfl (pc0 := 234) (pc' := 238) rfl (hb hby at_234) (by decide) (by decide) kst) ?_
  refine oS (u' := T54.setTop (mkF m 240 #[.val (.int p1), .val (.int p2), .val (.int (own_draw p1)), .val (.int (own_draw p2)), .val (.ref b28), .val (.long (own_oa p1)), .second, .val (.int (own_za p1)), .val (.int (1 : Int32)), .val (.long ((own_oa p1) + (own_oa p2))), .second, .val (.int (own_zb p1 p2)), .val (.long ((own_draw p2).toInt64 - (own_draw p1).toInt64)), .second, .val (.long ((own_draw p1).toInt64 + (own_draw p2).toInt64)), .second] [])) (fun _ kst => XS.istore X54.here hx rfl (hb hby at_238) rfl (l' := #[.val (.int p1), .val (.int p2), .val (.int (own_draw p1)), .val (.int (own_draw p2)), .val (.ref b28), .val (.long (own_oa p1)), .second, .val (.int (own_za p1)), .val (.int (1 : Int32)), .val (.long ((own_oa p1) + (own_oa p2))), .second, .val (.int (own_zb p1 p2)), .val (.long ((own_draw p2).toInt64 - (own_draw p1).toInt64)), .second, .val (.long ((own_draw p1).toInt64 + (own_draw p2).toInt64)), .second]) rfl kst) ?_
  refine oS (u' := T54.setTop (mkF m 242 #[.val (.int p1), .val (.int p2), .val (.int (own_draw p1)), .val (.int (own_draw p2)), .val (.ref b28), .val (.long (own_oa p1)), .second, .val (.int (own_za p1)), .val (.int (1 : Int32)), .val (.long ((own_oa p1) + (own_oa p2))), .second, .val (.int (own_zb p1 p2)), .val (.long ((own_draw p2).toInt64 - (own_draw p1).toInt64)), .second, .val (.long ((own_draw p1).toInt64 + (own_draw p2).toInt64)), .second] [(.int (1 : Int32))])) (fun _ kst => XS.iload X54.here hx rfl (hb hby at_240) rfl kst) ?_
  refine own_retN X54 hx hlk (t := .boolean) hret (by simp) (hb hby at_242) ?_ (by decide) (by decide)
  exact ⟨rfl, N41⟩
set_option maxRecDepth 65536 in
set_option maxHeartbeats 40000000 in
theorem comes_1 {Post : Tables → Env → Array Value → State → Outcome → State → Prop} (hpost : ∀ tb e args s v u, (limb_1_1.after args s (.returned v) u = true ∧ limb_1_2.after args s (.returned v) u = true ∧ True) → FrameEnd s (.returned v) u (Jvm.fieldLocs frame_1_writes args s ++ Jvm.arrayLocs frame_1_arrays args s ++ Jvm.staticLocs frame_1_statics s) 16 128 → Post tb e args s (.returned v) u) :
    ArmFor flags0 classFile x code maxLocals ret World_1 tables_1 room_1 Calls_1 rest_1 Pre_1 Post := by
  intro l hfl _ _ p e ha hc hk s m args below hf hA hF happ hP
  obtain ⟨hcalls, hrest, hpre⟩ := hP
  obtain ⟨-, -, -, hnamed, -, -, -, hat⟩ := (Spec.applies_iff hf).mp happ
  obtain ⟨hg, hn⟩ := and_e (Cond.before_iff.mp (show (Jvm.Cond.and given_1 narrow_1).before args s = true from hpre))
  obtain ⟨g0, gg0⟩ := and_e hg
  obtain ⟨g1, gg1⟩ := and_e gg0
  obtain ⟨w0, w1, rfl⟩ : ∃ w0 w1 : Value, args = #[w0, w1] := by
    have hs : args.size = 2 := by simpa [Cond.value, given_1] using g0
    obtain ⟨L⟩ := args
    match L, hs with
    | [w0, w1], _ => exact ⟨w0, w1, rfl⟩
  have hw := fun d (hd : d ∈ tables_1) => atoms_spec (ws := Jvm.Cond.code x code maxLocals ret :: tables_1) hat d (List.mem_cons_of_mem _ hd)
  have hfit : Fit s := fun {y c} hc i hi => by
    obtain ⟨ha, rfl⟩ := Array.getElem?_eq_some_iff.mp hc
    have q := List.all_eq_true.mp ((Array.all_eq_true_iff_forall_mem.mp hF) _ (Array.getElem_mem ha)) i (List.mem_range.mpr hi)
    simpa [Array.getElem?_eq_getElem hi] using q
  obtain ⟨i0, ei0⟩ := is_v g1
  obtain rfl : w0 = (.int i0) := Option.some.inj ei0
  obtain ⟨i1, ei1⟩ := is_v gg1
  obtain rfl : w1 = (.int i1) := Option.some.inj ei1
  obtain ⟨n, o, h1, h2, h3, _, L, rfl, ⟨rfl, N⟩, hq⟩ := own_law l s _ hw i0 i1 s.heap s.heap.size (Nat.le_refl _) p e ha hc hk s m _ below hf ((Spec.applies_iff_loose hf).mp happ).1 ⟨rfl, State.Warmed39.refl s, rfl⟩ trivial
  refine ⟨n, _, h1, h2, h3, hpost _ _ _ _ _ _ ⟨Cond.after_iff.mpr rfl, Cond.after_iff.mpr (eq_i res_at (Term.int_eval (1)) rfl), trivial⟩ ⟨hq.1, hq.2.1, (hq.2.2.sift fun y hy => Or.inr (N y hy)).mono (by decide) (by decide)⟩⟩
theorem main_1_1 : Claimed_1_1 := comes_1 fun _ _ _ _ _ _ h hF => ⟨h.1, hF⟩
theorem main_1_2 : Claimed_1_2 := comes_1 fun _ _ _ _ _ _ h hF => ⟨h.2.1, hF⟩
end Jvm.Pilot.@@N@@
namespace Jvm.Pilot.@@N@@
open Jvm Jvm.ClassFile Sem Op Lib Jvm.Free Jvm.Stand Jvm.Pilot.@@N@@.Jvm.D
/-! MADE BY PROGRAM (witnessworld.py) out of the Statement's table words and the real class files: 9 classes; the members and pool entries that the words name. The judged class is class 1, her method 2. -/
namespace start1
open Jvm.ClassFile
def u (s : String) : CpInfo := .utf8 (stringToUtf16 s)
/-- a pool by its gaps: so many unusable entries, then the entry; so many at the end -/
def gap : Nat → List CpInfo → List CpInfo
  | 0, r => r
  | n + 1, r => .unusable :: gap n r
def poolList (es : List (Nat × CpInfo)) (last : Nat) : List CpInfo := es.foldr (fun e r => gap e.1 (e.2 :: r)) (gap last [])
def pool (es : List (Nat × CpInfo)) (last : Nat) : Array CpInfo := ⟨poolList es last⟩
def fileOf (pool : Array CpInfo) (this : Nat) (attrs : Array Attribute := #[]) (ms : Array MethodInfo := #[]) (fl : Nat := 33) (sup : Nat := 0) (ifs : Array Nat := #[]) (fds : Array FieldInfo := #[]) : ClassFile where
  minorVersion := 0
  majorVersion := 65
  constantPool := pool
  accessFlags := fl
  thisClass := this
  superClass := sup
  interfaces := ifs
  fields := fds
  methods := ms
  attributes := attrs
def plain (name : String) (sup : Option ClassId) : Class where
  name := name
  kind := .ordinary
  loader := none
  accessFlags := 33
  super := sup
  interfaces := #[]
  cf := none
  fields := #[]
  methods := #[]
  instanceTypes := #[]
  staticTypes := #[]
  resolved := #[]
  callSites := []
  init := .initialized
  statics := none
  mirror := none

def pool0 : Array CpInfo := pool [(5, u "<init>"), (0, u "()V"), (1, .class_ 10), (1, u "java/lang/Object")] 113

def k0c0 : Code := { maxStack := 0, maxLocals := 1, code := object_method_1_code, exceptionTable := #[], attributes := #[] }
def k0m0 : Method := { name := "<init>", desc := "()V", sig := { parameters := [], returnType := none }, accessFlags := 1, code := some k0c0 }
/-- java/lang/Object -/
def k0 : Class := { plain "java/lang/Object" none with
  accessFlags := 33
  interfaces := #[]
  cf := some (fileOf pool0 8 #[] #[{ accessFlags := 1, nameIndex := 5, descriptorIndex := 6, attributes := #[] }] 33 0 #[] #[])
  fields := #[]
  methods := #[k0m0]
  instanceTypes := #[]
  staticTypes := #[]
  resolved := Array.replicate 124 none
  statics := none }

def pool1 : Array CpInfo := pool [(2, .class_ 4), (0, .nameAndType 5 6), (0, u "java/lang/Object"), (0, u "<init>"), (0, u "()V"), (0, .integer 1048576), (0, .methodref 9 10), (0, .class_ 11), (0, .nameAndType 12 13), (0, u "com/example/varistat/varistat/stats/SampleMeanAddPinLaw"), (0, u "draw"), (0, u "(I)I"), (0, .class_ 15), (0, u "com/example/varistat/varistat/stats/SampleMean"), (0, .methodref 14 3), (0, .methodref 14 18), (0, .nameAndType 19 20), (0, u "add"), (0, u "(D)V"), (0, .methodref 14 22), (0, .nameAndType 23 24), (0, u "count"), (0, u "()J"), (0, .methodref 14 26), (0, .nameAndType 27 28), (0, u "mean"), (0, u "()D"), (0, .methodref 14 30), (0, .nameAndType 31 24), (0, u "ones"), (0, .methodref 14 33), (0, .nameAndType 34 35), (0, u "isZeroOne"), (0, u "()Z"), (0, .long 2), (1, .double 4611686018427387904), (1, .methodref 14 41), (0, .nameAndType 42 28), (0, u "variance"), (3, u "law"), (0, u "(II)Z")] 2

def k1m0 : Method := { name := "<init>", desc := "()V", sig := { parameters := [], returnType := none }, accessFlags := 1, code := none }
def k1c1 : Code := { maxStack := 2, maxLocals := 2, code := method_2_code, exceptionTable := #[], attributes := #[] }
def k1m1 : Method := { name := "draw", desc := "(I)I", sig := { parameters := [.int], returnType := some .int }, accessFlags := 10, code := some k1c1 }
def k1c2 : Code := { maxStack := 6, maxLocals := 16, code := code, exceptionTable := #[], attributes := #[] }
def k1m2 : Method := { name := "law", desc := "(II)Z", sig := { parameters := [.int, .int], returnType := some .boolean }, accessFlags := 9, code := some k1c2 }
/-- com/example/varistat/varistat/stats/SampleMeanAddPinLaw -/
def k1 : Class := { plain "com/example/varistat/varistat/stats/SampleMeanAddPinLaw" (some 0) with
  accessFlags := 49
  interfaces := #[]
  cf := some (fileOf pool1 9 #[] #[{ accessFlags := 1, nameIndex := 5, descriptorIndex := 6, attributes := #[] }, { accessFlags := 10, nameIndex := 12, descriptorIndex := 13, attributes := #[] }, { accessFlags := 9, nameIndex := 46, descriptorIndex := 47, attributes := #[] }] 49 2 #[] #[])
  fields := #[]
  methods := #[k1m0, k1m1, k1m2]
  instanceTypes := #[]
  staticTypes := #[]
  resolved := Array.replicate 50 none
  statics := none }

def pool2 : Array CpInfo := pool [(1, .methodref 2 3), (0, .class_ 4), (0, .nameAndType 5 6), (0, u "java/lang/Object"), (0, u "<init>"), (0, u "()V"), (0, .fieldref 8 9), (0, .class_ 10), (0, .nameAndType 11 12), (0, u "com/example/varistat/varistat/stats/SampleMean"), (0, u "zeroOne"), (0, u "Z"), (0, .fieldref 8 14), (0, .nameAndType 15 16), (0, u "count"), (0, u "J"), (0, .fieldref 8 18), (0, .nameAndType 19 20), (0, u "mean"), (0, u "D"), (0, .fieldref 8 22), (0, .nameAndType 23 20), (0, u "squaredDeviations"), (0, .fieldref 8 25), (0, .nameAndType 26 16), (0, u "ones"), (0, .long 2), (3, .double 9221120237041090560), (3, u "add"), (0, u "(D)V"), (1, u "()J"), (0, u "()D"), (0, u "variance"), (0, u "isZeroOne"), (0, u "()Z")] 2

def k2c0 : Code := { maxStack := 2, maxLocals := 1, code := prog_124_method_1_code, exceptionTable := #[], attributes := #[] }
def k2m0 : Method := { name := "<init>", desc := "()V", sig := { parameters := [], returnType := none }, accessFlags := 1, code := some k2c0 }
def k2c1 : Code := { maxStack := 9, maxLocals := 5, code := prog_124_method_2_code, exceptionTable := #[], attributes := #[] }
def k2m1 : Method := { name := "add", desc := "(D)V", sig := { parameters := [.double], returnType := none }, accessFlags := 1, code := some k2c1 }
def k2c2 : Code := { maxStack := 2, maxLocals := 1, code := prog_124_method_3_code, exceptionTable := #[], attributes := #[] }
def k2m2 : Method := { name := "count", desc := "()J", sig := { parameters := [], returnType := some .long }, accessFlags := 1, code := some k2c2 }
def k2c3 : Code := { maxStack := 2, maxLocals := 1, code := prog_124_method_4_code, exceptionTable := #[], attributes := #[] }
def k2m3 : Method := { name := "mean", desc := "()D", sig := { parameters := [], returnType := some .double }, accessFlags := 1, code := some k2c3 }
def k2c4 : Code := { maxStack := 6, maxLocals := 1, code := prog_124_method_5_code, exceptionTable := #[], attributes := #[] }
def k2m4 : Method := { name := "variance", desc := "()D", sig := { parameters := [], returnType := some .double }, accessFlags := 1, code := some k2c4 }
def k2c5 : Code := { maxStack := 1, maxLocals := 1, code := prog_124_method_6_code, exceptionTable := #[], attributes := #[] }
def k2m5 : Method := { name := "isZeroOne", desc := "()Z", sig := { parameters := [], returnType := some .boolean }, accessFlags := 1, code := some k2c5 }
def k2c6 : Code := { maxStack := 2, maxLocals := 1, code := prog_124_method_7_code, exceptionTable := #[], attributes := #[] }
def k2m6 : Method := { name := "ones", desc := "()J", sig := { parameters := [], returnType := some .long }, accessFlags := 1, code := some k2c6 }
/-- com/example/varistat/varistat/stats/SampleMean -/
def k2 : Class := { plain "com/example/varistat/varistat/stats/SampleMean" (some 0) with
  accessFlags := 49
  interfaces := #[]
  cf := some (fileOf pool2 8 #[] #[{ accessFlags := 1, nameIndex := 5, descriptorIndex := 6, attributes := #[] }, { accessFlags := 1, nameIndex := 35, descriptorIndex := 36, attributes := #[] }, { accessFlags := 1, nameIndex := 15, descriptorIndex := 38, attributes := #[] }, { accessFlags := 1, nameIndex := 19, descriptorIndex := 39, attributes := #[] }, { accessFlags := 1, nameIndex := 40, descriptorIndex := 39, attributes := #[] }, { accessFlags := 1, nameIndex := 41, descriptorIndex := 42, attributes := #[] }, { accessFlags := 1, nameIndex := 26, descriptorIndex := 38, attributes := #[] }] 49 2 #[] #[{ accessFlags := 2, nameIndex := 15, descriptorIndex := 16, attributes := #[] }, { accessFlags := 2, nameIndex := 19, descriptorIndex := 20, attributes := #[] }, { accessFlags := 2, nameIndex := 23, descriptorIndex := 20, attributes := #[] }, { accessFlags := 2, nameIndex := 26, descriptorIndex := 16, attributes := #[] }, { accessFlags := 2, nameIndex := 11, descriptorIndex := 12, attributes := #[] }])
  fields := #[{ name := "count", type := .long, accessFlags := 2, slot := 0, constantValue := 0 }, { name := "mean", type := .double, accessFlags := 2, slot := 1, constantValue := 0 }, { name := "squaredDeviations", type := .double, accessFlags := 2, slot := 2, constantValue := 0 }, { name := "ones", type := .long, accessFlags := 2, slot := 3, constantValue := 0 }, { name := "zeroOne", type := .boolean, accessFlags := 2, slot := 4, constantValue := 0 }]
  methods := #[k2m0, k2m1, k2m2, k2m3, k2m4, k2m5, k2m6]
  instanceTypes := #[.long, .double, .double, .long, .boolean]
  staticTypes := #[]
  resolved := Array.replicate 45 none
  statics := none }

def pool3 : Array CpInfo := pool [(1, u "java/lang/Cloneable"), (0, .class_ 1), (0, u "java/lang/Object"), (0, .class_ 3)] 3

/-- java/lang/Cloneable -/
def k3 : Class := { plain "java/lang/Cloneable" (some 0) with
  accessFlags := 1537
  interfaces := #[]
  cf := some (fileOf pool3 2 #[] #[] 1537 4 #[] #[])
  fields := #[]
  methods := #[]
  instanceTypes := #[]
  staticTypes := #[]
  resolved := Array.replicate 8 none
  statics := none }

def pool4 : Array CpInfo := pool [(1, u "java/io/Serializable"), (0, .class_ 1), (0, u "java/lang/Object"), (0, .class_ 3)] 3

/-- java/io/Serializable -/
def k4 : Class := { plain "java/io/Serializable" (some 0) with
  accessFlags := 1537
  interfaces := #[]
  cf := some (fileOf pool4 2 #[] #[] 1537 4 #[] #[])
  fields := #[]
  methods := #[]
  instanceTypes := #[]
  staticTypes := #[]
  resolved := Array.replicate 8 none
  statics := none }

/-- the primitive byte -/
def k5 : Class := { plain "byte" none with kind := .primitive 'B', accessFlags := 0x411 }
/-- [B -/
def k6 : Class := { plain "[B" (some 0) with kind := .array 5 .byte, interfaces := #[3, 4], accessFlags := 1041 }

/-- the primitive int -/
def k7 : Class := { plain "int" none with kind := .primitive 'I', accessFlags := 0x411 }
/-- [I -/
def k8 : Class := { plain "[I" (some 0) with kind := .array 7 .int, interfaces := #[3, 4], accessFlags := 1041 }

def heap : Heap := #[]
def classes : Array Class := #[k0, k1, k2, k3, k4, k5, k6, k7, k8]
def interned : List (Array UInt16 × Addr) := []
def slotsUsed : Nat := 0
def theMethod : MethodId := ⟨1, 2⟩
def args0 : Array Value := #[.int 5, .int 6]
def aboutOver (below : List Frame) : State where
  vm := { classes := classes, interned := interned.toArray }
  heap := heap
  slotsUsed := slotsUsed
  threads := #[{ frames := .invoking theMethod args0 :: below }]
def below0 : List Frame := [.native { method := ⟨0, 0⟩, args := #[] }]
def about1 : State := aboutOver below0
def p0 : Program := .bare "" "" ""
def e0 : Env := launch0.env 0 0 0
theorem w_frames : about1.frames = Frame.invoking theMethod args0 :: below0 := rfl
set_option maxRecDepth 65536 in
theorem w_args : argsFit about1.vm theMethod args0 = true := by decide +kernel
set_option maxRecDepth 65536 in
theorem w_heap : heapFits about1 = true := by decide +kernel
set_option maxRecDepth 65536 in
theorem w_runnable : about1.curStatus? = some .runnable := by decide +kernel
set_option maxRecDepth 65536 in
theorem w_alone : about1.alone = true := by decide +kernel
set_option maxRecDepth 65536 in
theorem w_named : about1.methodNamed? x = some theMethod := by decide +kernel
set_option maxRecDepth 65536 in
theorem w_hears : about1.hears theMethod below0 = true := by decide +kernel
set_option maxRecDepth 65536 in
theorem w_ripe : about1.ripe theMethod args0 below0 = true := by decide +kernel
theorem w_running : about1.status = .running := rfl
set_option maxRecDepth 65536 in
theorem w_room : about1.hasRoom e0.platform room_1 = true :=
  launch0.hasRoom_least _ room_1 (by decide +kernel) (by decide +kernel) (by decide +kernel) (by decide +kernel) (by decide +kernel) (by decide +kernel)
theorem allAtoms_all (ts : List Jvm.Cond) (a : Array Jvm.Value) (st : Jvm.State) : (allAtoms ts).before a st = ts.all (fun c => c.before a st) := by
  induction ts with
  | nil => rfl
  | cons c t ih =>
    show (Jvm.Cond.and c (allAtoms t)).before a st = _
    rw [Jvm.Cond.before_and, ih, List.all_cons]
def words1 : List Jvm.Cond := Jvm.Cond.code x code maxLocals ret :: tables_1
/-- a 'code' word, met by the world's own term for the bytes: nothing is compared byte by byte -/
theorem code_word {y : MethodName} {bytes : ByteArray} {mx : Nat} {rt : Option FieldType} {a : Array Value} {s : State} {m : MethodId} {meth : Method} {c : Code} (h1 : s.methodNamed? y = some m) (h2 : s.vm.method? m = some meth) (h3 : meth.code = some c) (h4 : c.code = bytes)
    (h5 : (c.maxLocals == mx && c.exceptionTable.isEmpty && decide (c.maxStack ≤ mostOperands) && decide (meth.sig.returnType = rt) && !meth.locks && decide (parseMethodDescriptor y.desc = some meth.sig)) = true) : (Jvm.Cond.code y bytes mx rt).before a s = true := by
  simp only [Bool.and_eq_true, beq_iff_eq, Bool.not_eq_true', decide_eq_true_eq] at h5
  obtain ⟨⟨⟨⟨⟨g1, g2⟩, g3⟩, g4⟩, g5⟩, g6⟩ := h5
  simp [Cond.before, Cond.holds, Cond.value, h1, h2, h3, h4, g1, g2, g3, g4, g5, g6]
def isCode : Jvm.Cond → Bool
  | .code _ _ _ _ => true
  | _ => false
theorem all_split {L : List Jvm.Cond} {P : Jvm.Cond → Bool} (h1 : L.all (fun c => isCode c || P c) = true) (h2 : ∀ c ∈ L.filter isCode, P c = true) : L.all P = true := by
  refine List.all_eq_true.mpr fun c hc => ?_
  have h := List.all_eq_true.mp h1 c hc
  rcases Bool.eq_false_or_eq_true (isCode c) with hi | hi
  · exact h2 c (List.mem_filter.mpr ⟨hc, hi⟩)
  · simpa [hi] using h
set_option maxRecDepth 65536 in
theorem w_c0 : (Jvm.Cond.code x code maxLocals ret).before args0 about1 = true := code_word (m := ⟨1, 2⟩) (meth := k1m2) (c := k1c2) (by decide +kernel) rfl rfl rfl (by decide +kernel)
set_option maxRecDepth 65536 in
theorem w_c1 : (Jvm.Cond.code ({ cls := "com/example/varistat/varistat/stats/SampleMeanAddPinLaw", name := "draw", desc := "(I)I" } : Jvm.MethodName) method_2_code (2 : Nat) (Option.some Jvm.ClassFile.FieldType.int)).before args0 about1 = true := code_word (m := ⟨1, 1⟩) (meth := k1m1) (c := k1c1) (by decide +kernel) rfl rfl rfl (by decide +kernel)
set_option maxRecDepth 65536 in
theorem w_c2 : (Jvm.Cond.code ({ cls := "com/example/varistat/varistat/stats/SampleMean", name := "<init>", desc := "()V" } : Jvm.MethodName) prog_124_method_1_code (1 : Nat) (Option.none : Option Jvm.ClassFile.FieldType)).before args0 about1 = true := code_word (m := ⟨2, 0⟩) (meth := k2m0) (c := k2c0) (by decide +kernel) rfl rfl rfl (by decide +kernel)
set_option maxRecDepth 65536 in
theorem w_c3 : (Jvm.Cond.code ({ cls := "java/lang/Object", name := "<init>", desc := "()V" } : Jvm.MethodName) object_method_1_code (1 : Nat) (Option.none : Option Jvm.ClassFile.FieldType)).before args0 about1 = true := code_word (m := ⟨0, 0⟩) (meth := k0m0) (c := k0c0) (by decide +kernel) rfl rfl rfl (by decide +kernel)
set_option maxRecDepth 65536 in
theorem w_c4 : (Jvm.Cond.code ({ cls := "com/example/varistat/varistat/stats/SampleMean", name := "add", desc := "(D)V" } : Jvm.MethodName) prog_124_method_2_code (5 : Nat) (Option.none : Option Jvm.ClassFile.FieldType)).before args0 about1 = true := code_word (m := ⟨2, 1⟩) (meth := k2m1) (c := k2c1) (by decide +kernel) rfl rfl rfl (by decide +kernel)
set_option maxRecDepth 65536 in
theorem w_c5 : (Jvm.Cond.code ({ cls := "com/example/varistat/varistat/stats/SampleMean", name := "count", desc := "()J" } : Jvm.MethodName) prog_124_method_3_code (1 : Nat) (Option.some Jvm.ClassFile.FieldType.long)).before args0 about1 = true := code_word (m := ⟨2, 2⟩) (meth := k2m2) (c := k2c2) (by decide +kernel) rfl rfl rfl (by decide +kernel)
set_option maxRecDepth 65536 in
theorem w_c6 : (Jvm.Cond.code ({ cls := "com/example/varistat/varistat/stats/SampleMean", name := "mean", desc := "()D" } : Jvm.MethodName) prog_124_method_4_code (1 : Nat) (Option.some Jvm.ClassFile.FieldType.double)).before args0 about1 = true := code_word (m := ⟨2, 3⟩) (meth := k2m3) (c := k2c3) (by decide +kernel) rfl rfl rfl (by decide +kernel)
set_option maxRecDepth 65536 in
theorem w_c7 : (Jvm.Cond.code ({ cls := "com/example/varistat/varistat/stats/SampleMean", name := "ones", desc := "()J" } : Jvm.MethodName) prog_124_method_7_code (1 : Nat) (Option.some Jvm.ClassFile.FieldType.long)).before args0 about1 = true := code_word (m := ⟨2, 6⟩) (meth := k2m6) (c := k2c6) (by decide +kernel) rfl rfl rfl (by decide +kernel)
set_option maxRecDepth 65536 in
theorem w_c8 : (Jvm.Cond.code ({ cls := "com/example/varistat/varistat/stats/SampleMean", name := "isZeroOne", desc := "()Z" } : Jvm.MethodName) prog_124_method_6_code (1 : Nat) (Option.some Jvm.ClassFile.FieldType.boolean)).before args0 about1 = true := code_word (m := ⟨2, 5⟩) (meth := k2m5) (c := k2c5) (by decide +kernel) rfl rfl rfl (by decide +kernel)
set_option maxRecDepth 65536 in
theorem w_c9 : (Jvm.Cond.code ({ cls := "com/example/varistat/varistat/stats/SampleMean", name := "variance", desc := "()D" } : Jvm.MethodName) prog_124_method_5_code (1 : Nat) (Option.some Jvm.ClassFile.FieldType.double)).before args0 about1 = true := code_word (m := ⟨2, 4⟩) (meth := k2m4) (c := k2c4) (by decide +kernel) rfl rfl rfl (by decide +kernel)
def codes1 : List Jvm.Cond := [Jvm.Cond.code x code maxLocals ret, Jvm.Cond.code ({ cls := "com/example/varistat/varistat/stats/SampleMeanAddPinLaw", name := "draw", desc := "(I)I" } : Jvm.MethodName) method_2_code (2 : Nat) (Option.some Jvm.ClassFile.FieldType.int), Jvm.Cond.code ({ cls := "com/example/varistat/varistat/stats/SampleMean", name := "<init>", desc := "()V" } : Jvm.MethodName) prog_124_method_1_code (1 : Nat) (Option.none : Option Jvm.ClassFile.FieldType), Jvm.Cond.code ({ cls := "java/lang/Object", name := "<init>", desc := "()V" } : Jvm.MethodName) object_method_1_code (1 : Nat) (Option.none : Option Jvm.ClassFile.FieldType), Jvm.Cond.code ({ cls := "com/example/varistat/varistat/stats/SampleMean", name := "add", desc := "(D)V" } : Jvm.MethodName) prog_124_method_2_code (5 : Nat) (Option.none : Option Jvm.ClassFile.FieldType), Jvm.Cond.code ({ cls := "com/example/varistat/varistat/stats/SampleMean", name := "count", desc := "()J" } : Jvm.MethodName) prog_124_method_3_code (1 : Nat) (Option.some Jvm.ClassFile.FieldType.long), Jvm.Cond.code ({ cls := "com/example/varistat/varistat/stats/SampleMean", name := "mean", desc := "()D" } : Jvm.MethodName) prog_124_method_4_code (1 : Nat) (Option.some Jvm.ClassFile.FieldType.double), Jvm.Cond.code ({ cls := "com/example/varistat/varistat/stats/SampleMean", name := "ones", desc := "()J" } : Jvm.MethodName) prog_124_method_7_code (1 : Nat) (Option.some Jvm.ClassFile.FieldType.long), Jvm.Cond.code ({ cls := "com/example/varistat/varistat/stats/SampleMean", name := "isZeroOne", desc := "()Z" } : Jvm.MethodName) prog_124_method_6_code (1 : Nat) (Option.some Jvm.ClassFile.FieldType.boolean), Jvm.Cond.code ({ cls := "com/example/varistat/varistat/stats/SampleMean", name := "variance", desc := "()D" } : Jvm.MethodName) prog_124_method_5_code (1 : Nat) (Option.some Jvm.ClassFile.FieldType.double)]
set_option maxRecDepth 65536 in
theorem codes_eq : words1.filter isCode = codes1 := rfl
theorem w_codes : ∀ c ∈ words1.filter isCode, c.before args0 about1 = true := by
  rw [codes_eq]
  intro c hc
  simp only [codes1, List.mem_cons, List.not_mem_nil, or_false] at hc
  rcases hc with rfl | rfl | rfl | rfl | rfl | rfl | rfl | rfl | rfl | rfl
  · exact w_c0
  · exact w_c1
  · exact w_c2
  · exact w_c3
  · exact w_c4
  · exact w_c5
  · exact w_c6
  · exact w_c7
  · exact w_c8
  · exact w_c9
set_option maxRecDepth 65536 in
theorem w_t1 : (words1.take 24).all (fun c => isCode c || c.before args0 about1) = true := by decide +kernel
set_option maxRecDepth 65536 in
theorem w_t2 : ((words1.drop 24).take 24).all (fun c => isCode c || c.before args0 about1) = true := by decide +kernel
set_option maxRecDepth 65536 in
theorem w_t3 : ((words1.drop 24).drop 24).all (fun c => isCode c || c.before args0 about1) = true := by decide +kernel
theorem w_tables : (allAtoms (Jvm.Cond.code x code maxLocals ret :: tables_1)).before args0 about1 = true := by
  rw [allAtoms_all]
  show words1.all (fun c => c.before args0 about1) = true
  refine all_split ?_ w_codes
  rw [← List.take_append_drop 24 words1, List.all_append, w_t1, ← List.take_append_drop 24 (words1.drop 24), List.all_append, w_t2, w_t3]
  rfl
set_option maxRecDepth 65536 in
theorem w_case : (Jvm.Cond.and given_1 narrow_1).before args0 about1 = true := by decide +kernel
theorem w_applies : (headSpec (Jvm.Cond.code x code maxLocals ret :: tables_1) room_1).applies x e0.platform about1 = true :=
  (Spec.applies_iff w_frames).mpr ⟨w_running, w_runnable, w_alone, w_named, w_hears, w_ripe, w_room, w_tables⟩
theorem atStart : AtStart classFile x code maxLocals ret World_1 tables_1 room_1 Calls_1 rest_1 Pre_1 launch0 p0 e0 about1 theMethod args0 below0 :=
  ⟨lists_1, trivial, launch0.admits_env _ _ _, launch0.least_env, fairChoices_fair.cas, fairChoices_fair.clock, w_frames, w_args, w_heap, w_applies, trivial, trivial, w_case⟩
end start1
theorem witness_1 : WitnessClaimed_1 := ⟨start1.p0, start1.e0, start1.about1, start1.theMethod, start1.args0, start1.below0, start1.atStart⟩
end Jvm.Pilot.@@N@@
