import JvmDerived
import JvmDerived.Pilot.@@N@@Statement
import JvmDerived.Pilot.@@N@@Code
set_option linter.unusedVariables false
set_option linter.unusedSimpArgs false
@@BLOCK:NumsL.lean.txt@@
namespace Jvm.Pilot.@@N@@
open Jvm Jvm.ClassFile Sem Op Lib Jvm.Free Jvm.Stand Jvm.LawKit Jvm.RoadKit Bundle Jvm.Pilot.@@N@@.Jvm.D
/-- Java's x >>> y on longs -/
def own_uL (x : Int64) (y : Int32) : Int64 := (x.toUInt64 >>> (y &&& 63).toInt64.toUInt64).toInt64
section Own
variable {p : Program} {l : Launch} {e : Env} {R : Room} {s : State} {m : MethodId} {args : Array Value} {below : List Frame} {meth : Method} {c : Code} {T : State} {locs : List Loc} {cells slots : Nat}
variable {ck sk : Nat} {Q : Option Value → Heap → List Loc → Prop}
/-- the run from u comes to the method's return, and Q holds there -/
def oF (p : Program) (e : Env) (below : List Frame) (s : State) (ck sk : Nat) (Q : Option Value → Heap → List Loc → Prop) (u : State) : Prop :=
  ∃ t o, Steps p.tables e below u t ∧ t.status = .running ∧ Ended t below o ∧ ∃ v L, o = .returned v ∧ Q v t.heap L ∧ FrameEnd s o t L ck sk
theorem oS {u u' : State} (h : ∀ t, Steps p.tables e below u' t → Steps p.tables e below u t) (k : oF p e below s ck sk Q u') : oF p e below s ck sk Q u := by
  obtain ⟨t, o, h1, r⟩ := k
  exact ⟨t, o, h t h1, r⟩
theorem oC {u : State} (X : Stand p l e R s m args below meth c T locs cells slots) {h : Heap} (E : T.heap = h) {f : JFrame}
    (rest : ∀ Tc, Stand p l e R s m args below meth c Tc locs cells slots → Tc.heap = h → oF p e below s ck sk Q (Tc.setTop f))
    (k : (∀ Tc, Stand p l e R s m args below meth c Tc locs cells slots → Tc.heap = h → oF p e below s ck sk Q (Tc.setTop f)) → oF p e below s ck sk Q u) : oF p e below s ck sk Q u := k rest
theorem oCA {u : State} (X : Stand p l e R s m args below meth c T locs cells slots) {h : Heap} (E : T.heap = h) {f : Addr → JFrame}
    (rest : ∀ z Tc, Stand p l e R s m args below meth c Tc locs cells slots → Tc.heap = h → oF p e below s ck sk Q (Tc.setTop (f z)))
    (k : (∀ z Tc, Stand p l e R s m args below meth c Tc locs cells slots → Tc.heap = h → oF p e below s ck sk Q (Tc.setTop (f z))) → oF p e below s ck sk Q u) : oF p e below s ck sk Q u := k rest
theorem own_ret (X : Stand p l e R s m args below meth c T locs cells slots) (hlk : meth.locks = false) {v : Option Value} (hv : meth.sig.returnType = none → v = none) {g : JFrame}
    (st : ∀ fs, (∀ (f : JFrame) (acts : List Action), f.method = m → f.locked = none → f.entered = [] → (doReturn e (T.setTop f) acts v).1 = T.setFrames fs) → Steps p.tables e below (T.setTop g) (T.setFrames fs))
    (hQ : Q v T.heap locs) (hc : cells ≤ ck) (hs : slots ≤ sk) : oF p e below s ck sk Q (T.setTop g) := by
  obtain ⟨fs, hr, hrun, hended, hW, hsame⟩ := X.leave (v := v) hv hlk
  exact ⟨_, _, st fs hr, hrun, hended, v, locs, rfl, hQ, ⟨_, rfl⟩, hW, hsame.mono hc hs⟩
theorem own_retI (X : Stand p l e R s m args below meth c T locs cells slots) (hx : p.tables.exec = Jvm.exec) (hlk : meth.locks = false) {pc : Nat} {Ls : Array Slot} {z : Int32} {rest : List Value} (hret : meth.sig.returnType = some .int)
    (hd : decode c.code pc = .ok (.ireturn, 1)) (hQ : Q (some (.int z)) T.heap locs) (hc : cells ≤ ck) (hs : slots ≤ sk) : oF p e below s ck sk Q (T.setTop (mkF m pc Ls (.int z :: rest))) :=
  own_ret X hlk (fun h => by rw [hret] at h; cases h) (fun fs hl => retOut X hx hret rfl (Or.inl ⟨rfl, Or.inl rfl, _, rfl⟩) hd hl) hQ hc hs
theorem own_retJ (X : Stand p l e R s m args below meth c T locs cells slots) (hx : p.tables.exec = Jvm.exec) (hlk : meth.locks = false) {pc : Nat} {Ls : Array Slot} {z : Int64} {rest : List Value} (hret : meth.sig.returnType = some .long)
    (hd : decode c.code pc = .ok (.lreturn, 1)) (hQ : Q (some (.long z)) T.heap locs) (hc : cells ≤ ck) (hs : slots ≤ sk) : oF p e below s ck sk Q (T.setTop (mkF m pc Ls (.long z :: rest))) :=
  own_ret X hlk (fun h => by rw [hret] at h; cases h) (fun fs hl => retOut X hx hret rfl (Or.inr (Or.inl ⟨rfl, rfl, _, rfl⟩)) hd hl) hQ hc hs
theorem own_retD (X : Stand p l e R s m args below meth c T locs cells slots) (hx : p.tables.exec = Jvm.exec) (hlk : meth.locks = false) {pc : Nat} {Ls : Array Slot} {z : UInt64} {rest : List Value} (hret : meth.sig.returnType = some .double)
    (hd : decode c.code pc = .ok (.dreturn, 1)) (hQ : Q (some (.double z)) T.heap locs) (hc : cells ≤ ck) (hs : slots ≤ sk) : oF p e below s ck sk Q (T.setTop (mkF m pc Ls (.double z :: rest))) :=
  own_ret X hlk (fun h => by rw [hret] at h; cases h) (fun fs hl => retOut X hx hret rfl (Or.inr (Or.inr (Or.inl ⟨rfl, rfl, _, rfl⟩))) hd hl) hQ hc hs
theorem own_retA (X : Stand p l e R s m args below meth c T locs cells slots) (hx : p.tables.exec = Jvm.exec) (hlk : meth.locks = false) {pc : Nat} {Ls : Array Slot} {w : Value} {t : FieldType} {rest : List Value} (hret : meth.sig.returnType = some t) (ht : t.isReference = true) (hr : w.isRef = true)
    (hd : decode c.code pc = .ok (.areturn, 1)) (hQ : Q (some w) T.heap locs) (hc : cells ≤ ck) (hs : slots ≤ sk) : oF p e below s ck sk Q (T.setTop (mkF m pc Ls (w :: rest))) :=
  own_ret X hlk (fun h => by rw [hret] at h; cases h) (fun fs hl => retOut X hx hret (by cases t <;> first | (cases ht; done) | (cases w <;> first | rfl | (cases hr; done))) (Or.inr (Or.inr (Or.inr (Or.inr ⟨rfl, ht, hr⟩)))) hd hl) hQ hc hs
theorem own_retN (X : Stand p l e R s m args below meth c T locs cells slots) (hx : p.tables.exec = Jvm.exec) (hlk : meth.locks = false) {pc : Nat} {Ls : Array Slot} {z : Int32} {t : FieldType} {rest : List Value} (hret : meth.sig.returnType = some t) (ht : t = .boolean ∨ t = .byte ∨ t = .char ∨ t = .short)
    (hd : decode c.code pc = .ok (.ireturn, 1)) (hQ : Q (some (.int (nar t z))) T.heap locs) (hc : cells ≤ ck) (hs : slots ≤ sk) : oF p e below s ck sk Q (T.setTop (mkF m pc Ls (.int z :: rest))) :=
  own_ret X hlk (fun h => by rw [hret] at h; cases h) (fun fs hl => retN X hx hret ht hd hl) hQ hc hs
theorem own_ret0 (X : Stand p l e R s m args below meth c T locs cells slots) (hx : p.tables.exec = Jvm.exec) (hlk : meth.locks = false) {pc : Nat} {Ls : Array Slot} (hret : meth.sig.returnType = none)
    (hd : decode c.code pc = .ok (.return_, 1)) (hQ : Q none T.heap locs) (hc : cells ≤ ck) (hs : slots ≤ sk) : oF p e below s ck sk Q (T.setTop (mkF m pc Ls [])) :=
  own_ret X hlk (fun _ => rfl) (fun fs hl => X.returnOut hx hret hd hl) hQ hc hs
/-- a body's contract: called with as' on the heap h it returns, and Q says what it leaves -/
def own_Con (l : Launch) (Z : State) (ws : List Jvm.Cond) (y : MethodName) (bytes : ByteArray) (maxL : Nat) (rt : Option FieldType) (rm : Room) (as' : Array Value) (h : Heap) (Q : Option Value → Heap → List Loc → Prop) : Prop :=
  MetFree l y (head1 (Jvm.Cond.code y bytes maxL rt :: ws) rm) (fun a U => a = as' ∧ Z.Warmed39 U.vm ∧ U.heap = h) (fun _ _ _ _ _ => True) (fun _ U o U' => ∃ v L, o = .returned v ∧ Q v U'.heap L ∧ FrameEnd U o U' L rm.cells rm.slots)
/-- it returns r, and the heap is as it was -/
def own_Q1 (r : Option Value) (h : Heap) : Option Value → Heap → List Loc → Prop := fun v h' L => v = r ∧ h' = h ∧ L = []
variable {Z : State} {a0 : Array Value} {h h' : Heap}
theorem own_body {ws : List Jvm.Cond} {y : MethodName} {bytes : ByteArray} {maxL : Nat} {rt : Option FieldType} {rm : Room} {as' : Array Value} (hpn : plainFor y = true)
    (H : ∀ (p : Program) (e : Env) (s : State) (m : MethodId) (below : List Frame) (meth : Method) (c : Code) (s₁ : State), Stand p l e rm s m as' below meth c s₁ [] 0 0 → p.tables.exec = Jvm.exec → c.code = bytes → c.maxLocals = maxL → meth.sig.returnType = rt → meth.locks = false → s.vm.findClass y.cls = some m.cls → meth.name = y.name → Z.Warmed39 s.vm → s₁.heap = h →
      oF p e below s rm.cells rm.slots Q (s₁.setTop (entryFrame m as' maxL))) : own_Con l Z ws y bytes maxL rt rm as' h Q := by
  refine MetFree.of_bodySF hpn hisR ?_
  intro p e s m args below meth c s₁ Bd hml0 hP hK
  obtain ⟨rfl, hZ, hh⟩ := hP
  exact H p e s m below meth c s₁ (Stand.of_body Bd) Bd.exec Bd.bytes hml0 Bd.returns (BodyLoose.notSynchronized Bd) (findClass_of_methodNamed Bd.named) (name_of_methodNamed Bd.named Bd.method).1 hZ (by rw [← hh, Bd.state]; rfl)
theorem own_callS (X : Stand p l e R s m args below meth c T locs cells slots) (hx : p.tables.exec = Jvm.exec) (hZ : Z.Warmed39 s.vm) {own : String} {index : Nat} {y : MethodName} {bytes : ByteArray} {maxL : Nat} {rt : Option FieldType} (hown : s.vm.findClass own = some m.cls)
    (w1 : (Jvm.Cond.methodLink own index y).before a0 Z = true) (w2 : (Jvm.Cond.static y).before a0 Z = true) (w4 : (Jvm.Cond.code y bytes maxL rt).before a0 Z = true) (w3 : (Jvm.Cond.initialized y.cls).before a0 Z = true) (hy : y.cls ≠ "java/lang/invoke/MethodHandle" ∧ y.cls ≠ "java/lang/invoke/VarHandle")
    (eT : T.heap = h) {rm : Room} {W : Nat} {argsL rest : List Value} (K : own_Con l Z [] y bytes maxL rt rm argsL.toArray h Q) (hf : rm.frames + 1 ≤ R.frames) (hl : W + (maxL + 11) + rm.locals ≤ R.locals)
    {g : JFrame} (hg : g.method = m) (hsize : g.locals.size = c.maxLocals) (hlen : ∀ sig, parseMethodDescriptor y.desc = some sig → argsL.length = sig.parameters.length)
    (hstack : g.stack = argsL.reverse ++ rest) (hW : 2 * g.monitorRoom + (rest.map fun v => v.category).sum ≤ W) (hdg : decode c.code g.pc = .ok (.invokestatic index, 3)) (hc : cells + rm.cells ≤ R.cells) (hs : slots + rm.slots ≤ R.slots) :
    ∃ (v : Option Value) (T' : State) (L : List Loc), Stand p l e R s m args below meth c T' (locs ++ L) (cells + rm.cells) (slots + rm.slots) ∧ Q v T'.heap L ∧
      ∀ target, Steps p.tables e below (T'.setTop { g with pc := g.pc + 3, stack := v.toList ++ rest }) target → Steps p.tables e below (T.setTop g) target := by
  obtain ⟨v, _, ⟨T', L', k', n'⟩, -, X', ⟨L, hQ, q1, q2, q3⟩, st⟩ := Jvm.LawKit.callS X hx hown (mvT hZ w1) (mvT hZ w2) (mvT hZ w3) (mvT hZ w4) hy (backOf (W := W) K hZ w4 w3 hf hl) hg hsize hlen hstack hW hdg (fun _ _ => ⟨rfl, eT, hc, hs⟩)
  dsimp only [Pt.U, Pt.locs, Pt.cells, Pt.slots] at X' q1 q2 q3 st hQ
  subst q1 q2 q3
  exact ⟨v, T', L, X', hQ, st⟩
theorem own_callSP (X : Stand p l e R s m args below meth c T locs cells slots) (hx : p.tables.exec = Jvm.exec) (hZ : Z.Warmed39 s.vm) {own : String} {index : Nat} {y : MethodName} {bytes : ByteArray} {maxL : Nat} {rt : Option FieldType} (hown : s.vm.findClass own = some m.cls)
    (w1 : (Jvm.Cond.methodLink own index y).before a0 Z = true) (w2 : (Jvm.Cond.static y).before a0 Z = true) (w4 : (Jvm.Cond.code y bytes maxL rt).before a0 Z = true) (w3 : (Jvm.Cond.initialized y.cls).before a0 Z = true) (hy : y.cls ≠ "java/lang/invoke/MethodHandle" ∧ y.cls ≠ "java/lang/invoke/VarHandle")
    (eT : T.heap = h) {rf rl : Nat} {W : Nat} {argsL rest : List Value} {r : Value} (K : own_Con l Z [] y bytes maxL rt { frames := rf, cells := 0, slots := 0, locals := rl } argsL.toArray h (own_Q1 (some r) h)) (hf : rf + 1 ≤ R.frames) (hl : W + (maxL + 11) + rl ≤ R.locals)
    {g : JFrame} (hg : g.method = m) (hsize : g.locals.size = c.maxLocals) (hlen : ∀ sig, parseMethodDescriptor y.desc = some sig → argsL.length = sig.parameters.length)
    (hstack : g.stack = argsL.reverse ++ rest) (hW : 2 * g.monitorRoom + (rest.map fun v => v.category).sum ≤ W) (hdg : decode c.code g.pc = .ok (.invokestatic index, 3)) (hc : cells ≤ R.cells) (hs : slots ≤ R.slots) :
    ∃ T' : State, Stand p l e R s m args below meth c T' locs cells slots ∧ T'.heap = h ∧
      ∀ target, Steps p.tables e below (T'.setTop { g with pc := g.pc + 3, stack := r :: rest }) target → Steps p.tables e below (T.setTop g) target := by
  obtain ⟨v, T', L, X', ⟨rfl, hh, rfl⟩, st⟩ := own_callS X hx hZ hown w1 w2 w4 w3 hy eT (W := W) K hf hl hg hsize hlen hstack hW hdg hc hs
  rw [List.append_nil] at X'
  exact ⟨T', X', hh, st⟩
theorem own_callI (X : Stand p l e R s m args below meth c T locs cells slots) (hx : p.tables.exec = Jvm.exec) (hZ : Z.Warmed39 s.vm) {own : String} {index : Nat} {y : MethodName} (hy1 : y.name = "<init>") {bytes : ByteArray} {maxL : Nat} (hown : s.vm.findClass own = some m.cls)
    (w1 : (Jvm.Cond.methodLink own index y).before a0 Z = true) (w2 : (Jvm.Cond.instanceMethod y).before a0 Z = true) (w4 : (Jvm.Cond.code y bytes maxL none).before a0 Z = true) (w3 : (Jvm.Cond.initialized y.cls).before a0 Z = true) (hy : y.cls ≠ "java/lang/invoke/MethodHandle" ∧ y.cls ≠ "java/lang/invoke/VarHandle")
    (eT : T.heap = h) {rm : Room} {W : Nat} {a : Addr} {argsL rest : List Value} (K : own_Con l Z [] y bytes maxL none rm (.ref a :: argsL).toArray h Q) (hf : rm.frames + 1 ≤ R.frames) (hl : W + (maxL + 11) + rm.locals ≤ R.locals)
    {g : JFrame} (hg : g.method = m) (hsize : g.locals.size = c.maxLocals) (hlen : ∀ sig, parseMethodDescriptor y.desc = some sig → argsL.length = sig.parameters.length)
    (hstack : g.stack = argsL.reverse ++ .ref a :: rest) (hW : 2 * g.monitorRoom + (rest.map fun v => v.category).sum ≤ W) (hdg : decode c.code g.pc = .ok (.invokespecial index, 3)) (hc : cells + rm.cells ≤ R.cells) (hs : slots + rm.slots ≤ R.slots) :
    ∃ (v : Option Value) (T' : State) (L : List Loc), Stand p l e R s m args below meth c T' (locs ++ L) (cells + rm.cells) (slots + rm.slots) ∧ Q v T'.heap L ∧
      ∀ target, Steps p.tables e below (T'.setTop { g with pc := g.pc + 3, stack := v.toList ++ rest }) target → Steps p.tables e below (T.setTop g) target := by
  obtain ⟨v, _, ⟨T', L', k', n'⟩, -, X', ⟨L, hQ, q1, q2, q3⟩, st⟩ := X.specialBack hx hy1 hown (mvT hZ w1) (mvT hZ w2) (mvT hZ w4) hy (backOf (W := W) K hZ w4 w3 hf hl) hg hsize (Steps.refl _) (a := a) hlen hstack hW hdg (fun _ _ => ⟨rfl, eT, hc, hs⟩)
  dsimp only [Pt.U, Pt.locs, Pt.cells, Pt.slots] at X' q1 q2 q3 st hQ
  subst q1 q2 q3
  exact ⟨v, T', L, X', hQ, fun t k => st.trans k⟩
theorem own_callIP (X : Stand p l e R s m args below meth c T locs cells slots) (hx : p.tables.exec = Jvm.exec) (hZ : Z.Warmed39 s.vm) {own : String} {index : Nat} {y : MethodName} (hy1 : y.name = "<init>") {bytes : ByteArray} {maxL : Nat} (hown : s.vm.findClass own = some m.cls)
    (w1 : (Jvm.Cond.methodLink own index y).before a0 Z = true) (w2 : (Jvm.Cond.instanceMethod y).before a0 Z = true) (w4 : (Jvm.Cond.code y bytes maxL none).before a0 Z = true) (w3 : (Jvm.Cond.initialized y.cls).before a0 Z = true) (hy : y.cls ≠ "java/lang/invoke/MethodHandle" ∧ y.cls ≠ "java/lang/invoke/VarHandle")
    (eT : T.heap = h) {rf rl : Nat} {W : Nat} {a : Addr} {argsL rest : List Value} (K : own_Con l Z [] y bytes maxL none { frames := rf, cells := 0, slots := 0, locals := rl } (.ref a :: argsL).toArray h (own_Q1 none h)) (hf : rf + 1 ≤ R.frames) (hl : W + (maxL + 11) + rl ≤ R.locals)
    {g : JFrame} (hg : g.method = m) (hsize : g.locals.size = c.maxLocals) (hlen : ∀ sig, parseMethodDescriptor y.desc = some sig → argsL.length = sig.parameters.length)
    (hstack : g.stack = argsL.reverse ++ .ref a :: rest) (hW : 2 * g.monitorRoom + (rest.map fun v => v.category).sum ≤ W) (hdg : decode c.code g.pc = .ok (.invokespecial index, 3)) (hc : cells ≤ R.cells) (hs : slots ≤ R.slots) :
    ∃ T' : State, Stand p l e R s m args below meth c T' locs cells slots ∧ T'.heap = h ∧
      ∀ target, Steps p.tables e below (T'.setTop { g with pc := g.pc + 3, stack := rest }) target → Steps p.tables e below (T.setTop g) target := by
  obtain ⟨v, T', L, X', ⟨rfl, hh, rfl⟩, st⟩ := own_callI X hx hZ hy1 hown w1 w2 w4 w3 hy eT (W := W) K hf hl hg hsize hlen hstack hW hdg hc hs
  rw [List.append_nil] at X'
  exact ⟨T', X', hh, st⟩
theorem own_callV (X : Stand p l e R s m args below meth c T locs cells slots) (hx : p.tables.exec = Jvm.exec) (hZ : Z.Warmed39 s.vm) {own C : String} {index : Nat} {y z : MethodName} {bytes : ByteArray} {maxL : Nat} {rt : Option FieldType} (hown : s.vm.findClass own = some m.cls)
    (w1 : (Jvm.Cond.methodLink own index y).before a0 Z = true) (w2 : (Jvm.Cond.declares y).before a0 Z = true) (hnf : NotFace s y) (ws : (Jvm.Cond.selects C y z).before a0 Z = true) (wi : (Jvm.Cond.instanceMethod z).before a0 Z = true) (hy : y.cls ≠ "java/lang/invoke/MethodHandle" ∧ y.cls ≠ "java/lang/invoke/VarHandle")
    (eT : T.heap = h) {b : Addr} (E : Exa Z h b C) {rm : Room} {W : Nat} {argsL rest : List Value} (K : own_Con l Z [] z bytes maxL rt rm (.ref b :: argsL).toArray h Q) (w4 : (Jvm.Cond.code z bytes maxL rt).before a0 Z = true) (w3 : (Jvm.Cond.initialized z.cls).before a0 Z = true) (hf : rm.frames + 1 ≤ R.frames) (hl : W + (maxL + 11) + rm.locals ≤ R.locals)
    {g : JFrame} (hg : g.method = m) (hsize : g.locals.size = c.maxLocals) (hlen : ∀ sig, parseMethodDescriptor y.desc = some sig → argsL.length = sig.parameters.length)
    (hstack : g.stack = argsL.reverse ++ .ref b :: rest) (hW : 2 * g.monitorRoom + (rest.map fun v => v.category).sum ≤ W) (hdg : decode c.code g.pc = .ok (.invokevirtual index, 3)) (hc : cells + rm.cells ≤ R.cells) (hs : slots + rm.slots ≤ R.slots) :
    ∃ (v : Option Value) (T' : State) (L : List Loc), Stand p l e R s m args below meth c T' (locs ++ L) (cells + rm.cells) (slots + rm.slots) ∧ Q v T'.heap L ∧
      ∀ target, Steps p.tables e below (T'.setTop { g with pc := g.pc + 3, stack := v.toList ++ rest }) target → Steps p.tables e below (T.setTop g) target := by
  obtain ⟨cq, kq, qa, qb, qc⟩ := isOf hZ eT E
  obtain ⟨v, _, ⟨T', L', k', n'⟩, -, X', ⟨L, hQ, q1, q2, q3⟩, st⟩ := X.virtualBack hx hown (mvT hZ w1) (mvT hZ w2) hnf (mvT hZ ws) (mvT hZ wi) hy (backOf (W := W) K hZ w4 w3 hf hl) qa qc hg hsize (Steps.refl _) hlen hstack hW hdg (fun _ _ => ⟨rfl, eT, hc, hs⟩)
  dsimp only [Pt.U, Pt.locs, Pt.cells, Pt.slots] at X' q1 q2 q3 st hQ
  subst q1 q2 q3
  exact ⟨v, T', L, X', hQ, fun t k => st.trans k⟩
theorem own_callVP (X : Stand p l e R s m args below meth c T locs cells slots) (hx : p.tables.exec = Jvm.exec) (hZ : Z.Warmed39 s.vm) {own C : String} {index : Nat} {y z : MethodName} {bytes : ByteArray} {maxL : Nat} {rt : Option FieldType} (hown : s.vm.findClass own = some m.cls)
    (w1 : (Jvm.Cond.methodLink own index y).before a0 Z = true) (w2 : (Jvm.Cond.declares y).before a0 Z = true) (hnf : NotFace s y) (ws : (Jvm.Cond.selects C y z).before a0 Z = true) (wi : (Jvm.Cond.instanceMethod z).before a0 Z = true) (hy : y.cls ≠ "java/lang/invoke/MethodHandle" ∧ y.cls ≠ "java/lang/invoke/VarHandle")
    (eT : T.heap = h) {b : Addr} (E : Exa Z h b C) {rf rl : Nat} {W : Nat} {argsL rest : List Value} {r : Value} (K : own_Con l Z [] z bytes maxL rt { frames := rf, cells := 0, slots := 0, locals := rl } (.ref b :: argsL).toArray h (own_Q1 (some r) h)) (w4 : (Jvm.Cond.code z bytes maxL rt).before a0 Z = true) (w3 : (Jvm.Cond.initialized z.cls).before a0 Z = true) (hf : rf + 1 ≤ R.frames) (hl : W + (maxL + 11) + rl ≤ R.locals)
    {g : JFrame} (hg : g.method = m) (hsize : g.locals.size = c.maxLocals) (hlen : ∀ sig, parseMethodDescriptor y.desc = some sig → argsL.length = sig.parameters.length)
    (hstack : g.stack = argsL.reverse ++ .ref b :: rest) (hW : 2 * g.monitorRoom + (rest.map fun v => v.category).sum ≤ W) (hdg : decode c.code g.pc = .ok (.invokevirtual index, 3)) (hc : cells ≤ R.cells) (hs : slots ≤ R.slots) :
    ∃ T' : State, Stand p l e R s m args below meth c T' locs cells slots ∧ T'.heap = h ∧
      ∀ target, Steps p.tables e below (T'.setTop { g with pc := g.pc + 3, stack := r :: rest }) target → Steps p.tables e below (T.setTop g) target := by
  obtain ⟨v, T', L, X', ⟨rfl, hh, rfl⟩, st⟩ := own_callV X hx hZ hown w1 w2 hnf ws wi hy eT E (W := W) K w4 w3 hf hl hg hsize hlen hstack hW hdg hc hs
  rw [List.append_nil] at X'
  exact ⟨T', X', hh, st⟩
theorem own_kext {h h' : Heap} (K : Keep h h' []) : Ext h h' := ⟨K.1, fun a c q => K.2.1 a c q nin0⟩
theorem own_callIB (X : Stand p l e R s m args below meth c T locs cells slots) (hx : p.tables.exec = Jvm.exec) (hZ : Z.Warmed39 s.vm) {own : String} {index : Nat} {y : MethodName} (hy1 : y.name = "<init>") {bytes : ByteArray} {maxL : Nat} (hown : s.vm.findClass own = some m.cls)
    (w1 : (Jvm.Cond.methodLink own index y).before a0 Z = true) (w2 : (Jvm.Cond.instanceMethod y).before a0 Z = true) (w4 : (Jvm.Cond.code y bytes maxL none).before a0 Z = true) (hy : y.cls ≠ "java/lang/invoke/MethodHandle" ∧ y.cls ≠ "java/lang/invoke/VarHandle")
    (eT : T.heap = h) {W kc ks : Nat} {a : Addr} {argsL rest : List Value} (K : Back l R p e below s args y 3 W (fun A a' => a' = (.ref a :: argsL).toArray ∧ A.U.heap = h ∧ A.cells + kc ≤ R.cells ∧ A.slots + ks ≤ R.slots) (fun A _ v B => ∃ L, Q v B.U.heap L ∧ B.locs = A.locs ++ L ∧ B.cells = A.cells + kc ∧ B.slots = A.slots + ks))
    {g : JFrame} (hg : g.method = m) (hsize : g.locals.size = c.maxLocals) (hlen : ∀ sig, parseMethodDescriptor y.desc = some sig → argsL.length = sig.parameters.length)
    (hstack : g.stack = argsL.reverse ++ .ref a :: rest) (hW : 2 * g.monitorRoom + (rest.map fun v => v.category).sum ≤ W) (hdg : decode c.code g.pc = .ok (.invokespecial index, 3)) (hc : cells + kc ≤ R.cells) (hs : slots + ks ≤ R.slots) :
    ∃ (v : Option Value) (T' : State) (L : List Loc), Stand p l e R s m args below meth c T' (locs ++ L) (cells + kc) (slots + ks) ∧ Q v T'.heap L ∧
      ∀ target, Steps p.tables e below (T'.setTop { g with pc := g.pc + 3, stack := v.toList ++ rest }) target → Steps p.tables e below (T.setTop g) target := by
  obtain ⟨v, _, ⟨T', L', k', n'⟩, -, X', ⟨L, hQ, q1, q2, q3⟩, st⟩ := X.specialBack hx hy1 hown (mvT hZ w1) (mvT hZ w2) (mvT hZ w4) hy K hg hsize (Steps.refl _) (a := a) hlen hstack hW hdg (fun _ _ => ⟨rfl, eT, hc, hs⟩)
  dsimp only [Pt.U, Pt.locs, Pt.cells, Pt.slots] at X' q1 q2 q3 st hQ
  subst q1 q2 q3
  exact ⟨v, T', L, X', hQ, fun t k => st.trans k⟩
theorem own_callVB (X : Stand p l e R s m args below meth c T locs cells slots) (hx : p.tables.exec = Jvm.exec) (hZ : Z.Warmed39 s.vm) {own C : String} {index : Nat} {y z : MethodName} (hown : s.vm.findClass own = some m.cls)
    (w1 : (Jvm.Cond.methodLink own index y).before a0 Z = true) (w2 : (Jvm.Cond.declares y).before a0 Z = true) (hnf : NotFace s y) (ws : (Jvm.Cond.selects C y z).before a0 Z = true) (wi : (Jvm.Cond.instanceMethod z).before a0 Z = true) (hy : y.cls ≠ "java/lang/invoke/MethodHandle" ∧ y.cls ≠ "java/lang/invoke/VarHandle")
    (eT : T.heap = h) {b : Addr} (E : Exa Z h b C) {W kc ks : Nat} {argsL rest : List Value} (K : Back l R p e below s args z 3 W (fun A a' => a' = (.ref b :: argsL).toArray ∧ A.U.heap = h ∧ A.cells + kc ≤ R.cells ∧ A.slots + ks ≤ R.slots) (fun A _ v B => ∃ L, Q v B.U.heap L ∧ B.locs = A.locs ++ L ∧ B.cells = A.cells + kc ∧ B.slots = A.slots + ks))
    {g : JFrame} (hg : g.method = m) (hsize : g.locals.size = c.maxLocals) (hlen : ∀ sig, parseMethodDescriptor y.desc = some sig → argsL.length = sig.parameters.length)
    (hstack : g.stack = argsL.reverse ++ .ref b :: rest) (hW : 2 * g.monitorRoom + (rest.map fun v => v.category).sum ≤ W) (hdg : decode c.code g.pc = .ok (.invokevirtual index, 3)) (hc : cells + kc ≤ R.cells) (hs : slots + ks ≤ R.slots) :
    ∃ (v : Option Value) (T' : State) (L : List Loc), Stand p l e R s m args below meth c T' (locs ++ L) (cells + kc) (slots + ks) ∧ Q v T'.heap L ∧
      ∀ target, Steps p.tables e below (T'.setTop { g with pc := g.pc + 3, stack := v.toList ++ rest }) target → Steps p.tables e below (T.setTop g) target := by
  obtain ⟨cq, kq, qa, qb, qc⟩ := isOf hZ eT E
  obtain ⟨v, _, ⟨T', L', k', n'⟩, -, X', ⟨L, hQ, q1, q2, q3⟩, st⟩ := X.virtualBack hx hown (mvT hZ w1) (mvT hZ w2) hnf (mvT hZ ws) (mvT hZ wi) hy K qa qc hg hsize (Steps.refl _) hlen hstack hW hdg (fun _ _ => ⟨rfl, eT, hc, hs⟩)
  dsimp only [Pt.U, Pt.locs, Pt.cells, Pt.slots] at X' q1 q2 q3 st hQ
  subst q1 q2 q3
  exact ⟨v, T', L, X', hQ, fun t k => st.trans k⟩
theorem own_cl_eq {x y : Int64} (h : x = y) : Jvm.Free.XT.cmpL x y = 0 := by
  subst h; unfold Jvm.Free.XT.cmpL
  rw [if_neg (by rw [Int64.lt_iff_toInt_lt]; omega), if_pos rfl]
theorem own_cl_eq_n {x y : Int64} (h : ¬ x = y) : ¬ Jvm.Free.XT.cmpL x y = 0 := by
  unfold Jvm.Free.XT.cmpL
  by_cases h1 : y < x
  · rw [if_pos h1]; decide
  · rw [if_neg h1, if_neg h]; decide
theorem own_cl_gt {x y : Int64} (h : y < x) : (0 : Int32) < Jvm.Free.XT.cmpL x y := by
  unfold Jvm.Free.XT.cmpL; rw [if_pos h]; decide
theorem own_cl_gt_n {x y : Int64} (h : ¬ y < x) : ¬ (0 : Int32) < Jvm.Free.XT.cmpL x y := by
  unfold Jvm.Free.XT.cmpL; rw [if_neg h]
  by_cases h1 : x = y
  · rw [if_pos h1]; decide
  · rw [if_neg h1]; decide
theorem own_cl_lt {x y : Int64} (h : x < y) : Jvm.Free.XT.cmpL x y < (0 : Int32) := by
  unfold Jvm.Free.XT.cmpL
  rw [if_neg (by rw [Int64.lt_iff_toInt_lt] at h ⊢; omega), if_neg (by intro q; subst q; rw [Int64.lt_iff_toInt_lt] at h; omega)]; decide
theorem own_cl_lt_n {x y : Int64} (h : ¬ x < y) : ¬ Jvm.Free.XT.cmpL x y < (0 : Int32) := by
  unfold Jvm.Free.XT.cmpL
  by_cases h1 : y < x
  · rw [if_pos h1]; decide
  · rw [if_neg h1]
    have h2 : x = y := by
      rw [Int64.lt_iff_toInt_lt] at h h1
      exact Int64.toInt_inj.mp (by omega)
    rw [if_pos h2]; decide
theorem own_eq_int {a : Array Value} {s : State} {t : Term} {k : Int32} (h : (Jvm.Cond.eq t (Term.int k)).value a s none s [] = some true) : t.eval a s none [] s = some (.int k) := by
  obtain ⟨x, y, hx, hy, k1, k2⟩ := cmp_v (Or.inl h)
  obtain rfl : y = .int k := Option.some.inj (hy.symm.trans (Term.int_eval k))
  obtain ⟨z, rfl⟩ := k2
  rw [hx, gotT (Cond.eq_ints hx hy) h]
end Own
section OwnFloat
open Jvm.FP.Core
/-- a finite double whose value is n / 2 ^ k -/
def own_V (x : UInt64) (n : Int) (k : Nat) : Prop := ∃ s c q, val64 x = .fin s c q ∧ signed s c * ((2 ^ (q + (k : Int)).toNat : Nat) : Int) = n * ((2 ^ (-(q + (k : Int))).toNat : Nat) : Int)
theorem own_canc {z a : Int} {p m : Nat} {E : Int} (hE : (p : Int) - m = E) (h : z * ((2 ^ p : Nat) : Int) = a * ((2 ^ m : Nat) : Int)) : z * ((2 ^ E.toNat : Nat) : Int) = a * ((2 ^ (-E).toNat : Nat) : Int) := by
  obtain ⟨t, e1, e2⟩ : ∃ t : Nat, p = E.toNat + t ∧ m = (-E).toNat + t := ⟨p - E.toNat, by omega, by omega⟩
  rw [e1, e2, Nat.pow_add, Nat.pow_add, Int.natCast_mul, Int.natCast_mul, ← Int.mul_assoc, ← Int.mul_assoc] at h
  exact Int.eq_of_mul_eq_mul_right (by have := Nat.two_pow_pos t; omega) h
theorem own_cancN {z a : Nat} {p m : Nat} {E : Int} (hE : (p : Int) - m = E) (h : z * 2 ^ p = a * 2 ^ m) : z * 2 ^ E.toNat = a * 2 ^ (-E).toNat := by
  have := own_canc (z := (z : Int)) (a := (a : Int)) hE (by exact_mod_cast h)
  exact_mod_cast this
theorem own_sgn {s : Bool} {A P M : Nat} {n : Int} (hM : 0 < M) (h : signed s A * (P : Int) = n * (M : Int)) : ∃ N : Nat, n = signed s N ∧ A * P = N * M := by
  have hM' : (0 : Int) < (M : Int) := by omega
  cases s with
  | false =>
    have h' : ((A * P : Nat) : Int) = n * (M : Int) := by rw [Int.natCast_mul]; exact h
    have hn : 0 ≤ n := by
      refine Int.le_of_not_gt fun q => ?_
      have := Int.mul_neg_of_neg_of_pos q hM'
      omega
    refine ⟨n.toNat, ?_, ?_⟩
    · show n = ((n.toNat : Nat) : Int); omega
    · have e : n = ((n.toNat : Nat) : Int) := by omega
      rw [e] at h'; exact_mod_cast h'
  | true =>
    have h0 : (-(A : Int)) * (P : Int) = n * (M : Int) := h
    have h' : ((A * P : Nat) : Int) = (-n) * (M : Int) := by rw [Int.natCast_mul, Int.neg_mul, ← h0, Int.neg_mul, Int.neg_neg]
    have hn : 0 ≤ -n := by
      refine Int.le_of_not_gt fun q => ?_
      have := Int.mul_neg_of_neg_of_pos q hM'
      omega
    refine ⟨(-n).toNat, ?_, ?_⟩
    · show n = -(((-n).toNat : Nat) : Int); omega
    · have e : -n = (((-n).toNat : Nat) : Int) := by omega
      rw [e] at h'; exact_mod_cast h'
theorem own_rr {s : Bool} {A B N k : Nat} {e : Int} (hN : N < 2 ^ 53) (hk : k ≤ 1000) (hB : 0 < B) (h : A * 2 ^ (e + (k : Int)).toNat = N * B * 2 ^ (-(e + (k : Int))).toNat) :
    ∃ c q, roundRatio b64 s A B e = .fin s c q ∧ c * 2 ^ (q + (k : Int)).toNat = N * 2 ^ (-(q + (k : Int))).toNat := by
  have hqmin : b64.qmin = -1074 := by decide
  have hqmax : b64.qmax = 971 := by decide
  by_cases h0 : N = 0
  · refine ⟨0, b64.qmin, ?_, by rw [h0, Nat.zero_mul, Nat.zero_mul]⟩
    rw [h0, Nat.zero_mul, Nat.zero_mul] at h
    have := Nat.two_pow_pos (e + (k : Int)).toNat
    rcases Nat.mul_eq_zero.mp h with q | q
    · unfold roundRatio; rw [if_pos q]
    · omega
  · have l1 : 2 ^ N.log2 ≤ N := Nat.log2_self_le h0
    have l2 : N < 2 ^ (N.log2 + 1) := Nat.lt_log2_self
    have l3 : N.log2 < 53 := by
      refine Nat.lt_of_not_le fun q => ?_
      have := Nat.pow_le_pow_right (show 0 < 2 by decide) q
      omega
    generalize N.log2 = L at l1 l2 l3
    obtain ⟨t, ht⟩ : ∃ t, L + t = 52 := ⟨52 - L, by omega⟩
    have c1 : 2 ^ 52 ≤ N * 2 ^ t := by
      have := Nat.mul_le_mul_right (2 ^ t) l1
      rwa [← Nat.pow_add, ht] at this
    have c2 : N * 2 ^ t < 2 ^ 53 := by
      have := Nat.mul_lt_mul_of_pos_right l2 (Nat.two_pow_pos t)
      rwa [← Nat.pow_add, show L + 1 + t = 53 by omega] at this
    refine ⟨N * 2 ^ t, -(k : Int) - t, ?_, ?_⟩
    · refine roundRatio_exact good_b64 hB ⟨c2, by omega, by omega, Or.inr c1⟩ ?_
      have := own_cancN (z := A) (a := N * 2 ^ t * B) (p := (e + (k : Int)).toNat + t) (m := (-(e + (k : Int))).toNat) (E := e - (-(k : Int) - t)) (by omega) (by
        rw [Nat.pow_add, ← Nat.mul_assoc, h]; ac_rfl)
      rw [show -(e - (-(k : Int) - t)) = -(k : Int) - t - e by omega] at this
      exact this
    · rw [show (-(k : Int) - t + (k : Int)).toNat = 0 by omega, show (-(-(k : Int) - t + (k : Int))).toNat = t by omega, Nat.pow_zero, Nat.mul_one]
theorem own_abs_signed (s : Bool) (N : Nat) : (signed s N).natAbs = N := by cases s <;> simp [signed]
theorem own_V_rr {x : UInt64} {s : Bool} {A B k : Nat} {e n : Int} (hx : val64 x = roundRatio b64 s A B e) (hB : 0 < B) (hk : k ≤ 1000) (hn : n.natAbs < 2 ^ 53)
    (h : signed s A * ((2 ^ (e + (k : Int)).toNat : Nat) : Int) = n * ((B * 2 ^ (-(e + (k : Int))).toNat : Nat) : Int)) : own_V x n k := by
  obtain ⟨N, rfl, hN⟩ := own_sgn (Nat.mul_pos hB (Nat.two_pow_pos _)) h
  rw [own_abs_signed] at hn
  obtain ⟨c, q, h1, h2⟩ := own_rr (s := s) hn hk hB (by rw [hN]; ac_rfl)
  refine ⟨s, c, q, hx.trans h1, ?_⟩
  cases s
  · show ((c : Nat) : Int) * _ = ((N : Nat) : Int) * _; exact_mod_cast h2
  · show (-((c : Nat) : Int)) * _ = (-((N : Nat) : Int)) * _
    rw [Int.neg_mul, Int.neg_mul]; congr 1; exact_mod_cast h2
theorem own_V_round {x : UInt64} {s : Bool} {A k : Nat} {e n : Int} (hx : val64 x = round b64 (.fin s A e)) (hk : k ≤ 1000) (hn : n.natAbs < 2 ^ 53)
    (h : signed s A * ((2 ^ (e + (k : Int)).toNat : Nat) : Int) = n * ((2 ^ (-(e + (k : Int))).toNat : Nat) : Int)) : own_V x n k :=
  own_V_rr (B := 1) hx (by decide) hk hn (by rw [Nat.one_mul]; exact h)
theorem own_V_int {x : UInt64} {n : Int} (hx : val64 x = round b64 (ofInt n)) (hn : n.natAbs < 2 ^ 53) : own_V x n 0 := by
  refine own_V_round (s := decide (n < 0)) (A := n.natAbs) (e := 0) hx (by decide) hn ?_
  simp only [Int.natCast_zero, Int.add_zero, Int.toNat_zero, Int.neg_zero, Nat.pow_zero]
  by_cases h : n < 0
  · rw [decide_eq_true h]; show -((n.natAbs : Nat) : Int) * _ = _; omega
  · rw [decide_eq_false h]; show ((n.natAbs : Nat) : Int) * _ = _; omega
theorem own_V_i2d (x : Int32) : own_V (FP.i2d x) x.toInt 0 := own_V_int (val64_i2d x) (by have := Int32.toInt_lt x; have := Int32.le_toInt x; omega)
theorem own_V_l2d {x : Int64} (h : x.toInt.natAbs < 2 ^ 53) : own_V (FP.l2d x) x.toInt 0 := own_V_int (val64_l2d x) h
theorem own_V_up {x : UInt64} {n : Int} {k : Nat} (j : Nat) (h : own_V x n k) : own_V x (n * ((2 ^ j : Nat) : Int)) (k + j) := by
  obtain ⟨s, c, q, h1, h2⟩ := h
  refine ⟨s, c, q, h1, ?_⟩
  refine own_canc (p := (q + (k : Int)).toNat + j) (m := (-(q + (k : Int))).toNat) (by omega) ?_
  rw [Nat.pow_add, Int.natCast_mul, ← Int.mul_assoc, h2, Int.mul_assoc, Int.mul_assoc, Int.mul_comm ((2 ^ j : Nat) : Int)]
theorem own_V_down {x : UInt64} {n : Int} {k : Nat} (j : Nat) (h : own_V x (n * ((2 ^ j : Nat) : Int)) (k + j)) : own_V x n k := by
  obtain ⟨s, c, q, h1, h2⟩ := h
  refine ⟨s, c, q, h1, ?_⟩
  refine own_canc (p := (q + ((k + j : Nat) : Int)).toNat) (m := j + (-(q + ((k + j : Nat) : Int))).toNat) (by omega) ?_
  rw [h2, Nat.pow_add, Int.natCast_mul, ← Int.mul_assoc]
theorem own_signed_mul (s : Bool) (c k : Nat) : signed s (c * k) = signed s c * (k : Int) := signed_mul s c k
theorem own_units {s : Bool} {c k : Nat} {q e n : Int} (he : e ≤ q) (h : signed s c * ((2 ^ (q + (k : Int)).toNat : Nat) : Int) = n * ((2 ^ (-(q + (k : Int))).toNat : Nat) : Int)) :
    signed s (inUnits c q e) * ((2 ^ (e + (k : Int)).toNat : Nat) : Int) = n * ((2 ^ (-(e + (k : Int))).toNat : Nat) : Int) := by
  refine own_canc (p := (q + (k : Int)).toNat) (m := (-(q + (k : Int))).toNat + (q - e).toNat) (by omega) ?_
  unfold inUnits
  rw [signed_mul, Nat.pow_add, Int.natCast_mul, ← Int.mul_assoc, ← h, Int.mul_assoc, Int.mul_assoc, Int.mul_comm ((2 ^ (q - e).toNat : Nat) : Int)]
theorem own_sum_sign (s t : Bool) (v : Int) : signed (sumSign s t v) v.natAbs = v := by
  unfold sumSign
  by_cases h : v = 0
  · rw [h]; simp [signed]
  · rw [if_neg h]
    by_cases h' : v < 0
    · rw [decide_eq_true h']; show -((v.natAbs : Nat) : Int) = v; omega
    · rw [decide_eq_false h']; show ((v.natAbs : Nat) : Int) = v; omega
theorem own_V_sum {x y z : UInt64} {a b : Int} {k : Nat} (hz : ∀ s c q t d r, val64 x = .fin s c q → val64 y = .fin t d r → val64 z = round b64 (exactSum (.fin s c q) (.fin t d r))) (hx : own_V x a k) (hy : own_V y b k) (hk : k ≤ 1000) (hn : (a + b).natAbs < 2 ^ 53) : own_V z (a + b) k := by
  obtain ⟨s, c, q, h1, h2⟩ := hx
  obtain ⟨t, d, r, g1, g2⟩ := hy
  refine own_V_round (hz _ _ _ _ _ _ h1 g1) hk hn ?_
  rw [own_sum_sign]
  unfold sumUnits
  rw [Int.add_mul, own_units (Int.min_le_left q r) h2, own_units (Int.min_le_right q r) g2, Int.add_mul]
theorem own_V_add {x y : UInt64} {a b : Int} {k : Nat} (hx : own_V x a k) (hy : own_V y b k) (hk : k ≤ 1000) (hn : (a + b).natAbs < 2 ^ 53) : own_V (FP.dadd x y) (a + b) k :=
  own_V_sum (fun _ _ _ _ _ _ h1 h2 => by rw [← h1, ← h2]; exact val64_dadd x y) hx hy hk hn
theorem own_V_sub {x y : UInt64} {a b : Int} {k : Nat} (hx : own_V x a k) (hy : own_V y b k) (hk : k ≤ 1000) (hn : (a - b).natAbs < 2 ^ 53) : own_V (FP.dsub x y) (a - b) k := by
  obtain ⟨s, c, q, h1, h2⟩ := hx
  obtain ⟨t, d, r, g1, g2⟩ := hy
  have hv : val64 (FP.dsub x y) = round b64 (exactSum (.fin s c q) (.fin (!t) d r)) := by
    rw [← h1, show Datum.fin (!t) d r = negate (val64 y) by rw [g1]; rfl]; exact val64_dsub x y
  refine own_V_round hv hk hn ?_
  have g3 : signed (!t) d * ((2 ^ (r + (k : Int)).toNat : Nat) : Int) = (-b) * ((2 ^ (-(r + (k : Int))).toNat : Nat) : Int) := by
    rw [show signed (!t) d = -(signed t d) by cases t <;> simp [signed], Int.neg_mul, g2, Int.neg_mul]
  rw [own_sum_sign]
  unfold sumUnits
  rw [Int.add_mul, own_units (Int.min_le_left q r) h2, own_units (Int.min_le_right q r) g3, ← Int.add_mul, Int.sub_eq_add_neg]
theorem own_signed_prod (s t : Bool) (c d : Nat) : signed (s != t) (c * d) = signed s c * signed t d := by
  cases s <;> cases t <;> simp [signed, Int.neg_mul, Int.mul_neg]
theorem own_V_mul {x y : UInt64} {a b : Int} {k l : Nat} (hx : own_V x a k) (hy : own_V y b l) (hk : k + l ≤ 1000) (hn : (a * b).natAbs < 2 ^ 53) : own_V (FP.dmul x y) (a * b) (k + l) := by
  obtain ⟨s, c, q, h1, h2⟩ := hx
  obtain ⟨t, d, r, g1, g2⟩ := hy
  have hv : val64 (FP.dmul x y) = round b64 (.fin (s != t) (c * d) (q + r)) := by
    rw [show Datum.fin (s != t) (c * d) (q + r) = exactProduct (val64 x) (val64 y) by rw [h1, g1]; rfl]; exact val64_dmul x y
  refine own_V_round hv hk hn ?_
  refine own_canc (p := (q + (k : Int)).toNat + (r + (l : Int)).toNat) (m := (-(q + (k : Int))).toNat + (-(r + (l : Int))).toNat) (by omega) ?_
  rw [own_signed_prod, Nat.pow_add, Nat.pow_add, Int.natCast_mul, Int.natCast_mul]
  calc signed s c * signed t d * (((2 ^ (q + (k : Int)).toNat : Nat) : Int) * ((2 ^ (r + (l : Int)).toNat : Nat) : Int))
      = (signed s c * ((2 ^ (q + (k : Int)).toNat : Nat) : Int)) * (signed t d * ((2 ^ (r + (l : Int)).toNat : Nat) : Int)) := by ac_rfl
    _ = (a * ((2 ^ (-(q + (k : Int))).toNat : Nat) : Int)) * (b * ((2 ^ (-(r + (l : Int))).toNat : Nat) : Int)) := by rw [h2, g2]
    _ = _ := by ac_rfl
theorem own_V_div {x y : UInt64} {a b n : Int} {k l j : Nat} (hx : own_V x a k) (hy : own_V y b l) (hb : b ≠ 0) (hj : j ≤ 1000) (hn : n.natAbs < 2 ^ 53) (h : a * ((2 ^ (l + j) : Nat) : Int) = n * b * ((2 ^ k : Nat) : Int)) : own_V (FP.ddiv x y) n j := by
  obtain ⟨s, c, q, h1, h2⟩ := hx
  obtain ⟨t, d, r, g1, g2⟩ := hy
  obtain ⟨A, rfl, hA⟩ := own_sgn (Nat.two_pow_pos _) h2
  obtain ⟨B, rfl, hB⟩ := own_sgn (Nat.two_pow_pos _) g2
  have hB0 : 0 < B := Nat.pos_of_ne_zero fun q => hb (by rw [q]; exact signed_zero t)
  have hd : 0 < d := Nat.pos_of_ne_zero fun q => by
    rw [q, Nat.zero_mul] at hB
    have := Nat.mul_pos hB0 (Nat.two_pow_pos (-(r + (l : Int))).toNat)
    omega
  have hv : val64 (FP.ddiv x y) = roundRatio b64 (s != t) c d (q - r) := by
    have := val64_ddiv x y
    rw [h1, g1] at this
    rw [show val64 (FP.ddiv x y) = quotient b64 (.fin s c q) (.fin t d r) from this]
    show (if d = 0 then _ else _) = _
    rw [if_neg (by omega)]
  have hs : signed (s != t) A * ((2 ^ (l + j) : Nat) : Int) = n * ((B * 2 ^ k : Nat) : Int) := by
    rw [Int.natCast_mul, ← Int.mul_assoc]
    cases s <;> cases t
    · exact h
    · have h' : ((A : Nat) : Int) * ((2 ^ (l + j) : Nat) : Int) = n * (-((B : Nat) : Int)) * ((2 ^ k : Nat) : Int) := h
      show (-((A : Nat) : Int)) * _ = _
      rw [Int.neg_mul, h', Int.mul_neg, Int.neg_mul, Int.neg_neg]
    · have h' : (-((A : Nat) : Int)) * ((2 ^ (l + j) : Nat) : Int) = n * ((B : Nat) : Int) * ((2 ^ k : Nat) : Int) := h
      show (-((A : Nat) : Int)) * _ = _
      exact h'
    · have h' : (-((A : Nat) : Int)) * ((2 ^ (l + j) : Nat) : Int) = n * (-((B : Nat) : Int)) * ((2 ^ k : Nat) : Int) := h
      show ((A : Nat) : Int) * _ = _
      rw [Int.neg_mul, Int.mul_neg, Int.neg_mul] at h'
      exact Int.neg_inj.mp h'
  obtain ⟨N, rfl, hN⟩ := own_sgn (Nat.mul_pos hB0 (Nat.two_pow_pos k)) hs
  rw [own_abs_signed] at hn
  obtain ⟨c', q', r1, r2⟩ := own_rr (s := s != t) (A := c) (B := d) (N := N) (k := j) (e := q - r) hn hj hd (by
    refine own_cancN (p := (q + (k : Int)).toNat + (l + j) + (-(r + (l : Int))).toNat) (m := (r + (l : Int)).toNat + k + (-(q + (k : Int))).toNat) (by omega) ?_
    have pw : ∀ u v w : Nat, 2 ^ (u + v + w) = 2 ^ u * 2 ^ v * 2 ^ w := fun u v w => by rw [Nat.pow_add, Nat.pow_add]
    rw [pw, pw]
    calc c * (2 ^ (q + (k : Int)).toNat * 2 ^ (l + j) * 2 ^ (-(r + (l : Int))).toNat)
        = (c * 2 ^ (q + (k : Int)).toNat) * (2 ^ (l + j) * 2 ^ (-(r + (l : Int))).toNat) := by ac_rfl
      _ = (A * 2 ^ (l + j)) * (2 ^ (-(q + (k : Int))).toNat * 2 ^ (-(r + (l : Int))).toNat) := by rw [hA]; ac_rfl
      _ = (B * 2 ^ (-(r + (l : Int))).toNat) * (N * 2 ^ k * 2 ^ (-(q + (k : Int))).toNat) := by rw [hN]; ac_rfl
      _ = _ := by rw [← hB]; ac_rfl)
  refine ⟨s != t, c', q', hv.trans r1, ?_⟩
  cases s != t
  · show ((c' : Nat) : Int) * _ = ((N : Nat) : Int) * _; exact_mod_cast r2
  · show (-((c' : Nat) : Int)) * _ = (-((N : Nat) : Int)) * _
    rw [Int.neg_mul, Int.neg_mul]; congr 1; exact_mod_cast r2
theorem own_cmp_scale {z w a b : Int} {P M : Nat} (hP : 0 < P) (hM : 0 < M) (h1 : z * (P : Int) = a * (M : Int)) (h2 : w * (P : Int) = b * (M : Int)) : compare z w = compare a b := by
  have hP' : (0 : Int) < (P : Int) := by omega
  have hM' : (0 : Int) < (M : Int) := by omega
  have key : ∀ {z w a b : Int}, z * (P : Int) = a * (M : Int) → w * (P : Int) = b * (M : Int) → z < w → a < b := by
    intro z w a b h1 h2 h
    have := Int.mul_lt_mul_of_pos_right h hP'
    rw [h1, h2] at this
    exact Int.lt_of_mul_lt_mul_right this (Int.le_of_lt hM')
  rcases Int.lt_trichotomy z w with h | h | h
  · rw [show compare z w = .lt from Int.compare_eq_lt.mpr h, show compare a b = .lt from Int.compare_eq_lt.mpr (key h1 h2 h)]
  · subst h
    have : a = b := Int.eq_of_mul_eq_mul_right (Int.ne_of_gt hM') (h1.symm.trans h2)
    rw [this, show compare z z = .eq from Int.compare_eq_eq.mpr rfl, show compare b b = .eq from Int.compare_eq_eq.mpr rfl]
  · rw [show compare z w = .gt from Int.compare_eq_gt.mpr h, show compare a b = .gt from Int.compare_eq_gt.mpr (key h2 h1 h)]
theorem own_V_cmp {x y : UInt64} {a b : Int} {k : Nat} (hx : own_V x a k) (hy : own_V y b k) : FP.dcmp x y = some (compare a b) := by
  obtain ⟨s, c, q, h1, h2⟩ := hx
  obtain ⟨t, d, r, g1, g2⟩ := hy
  show order (val64 x) (val64 y) = _
  rw [h1, g1]
  show some (compare _ _) = _
  rw [own_cmp_scale (Nat.two_pow_pos _) (Nat.two_pow_pos _) (own_units (Int.min_le_left q r) h2) (own_units (Int.min_le_right q r) g2)]
theorem own_V_nn {x : UInt64} {n : Int} {k : Nat} (h : own_V x n k) : val64 x ≠ .nan := by
  obtain ⟨s, c, q, h1, -⟩ := h
  rw [h1]; intro q; cases q
theorem own_V_no {x : UInt64} {n : Int} {k : Nat} (h : own_V x n k) : Jvm.Free.Fl.NoNaN64 x := Jvm.Free.Fl.noNaN64_no.mpr (decide_eq_false (own_V_nn h))
def own_ci (a b : Int) : Int32 := if a < b then -1 else if a = b then 0 else 1
theorem own_V_ci {x y : UInt64} {a b : Int} {k : Nat} (o : CmpOp) (hx : own_V x a k) (hy : own_V y b k) : cmpValue (FP.dcmp x y) o = own_ci a b := by
  rw [own_V_cmp hx hy]; unfold own_ci
  rcases Int.lt_trichotomy a b with h | h | h
  · rw [show compare a b = .lt from Int.compare_eq_lt.mpr h, if_pos h]; rfl
  · rw [show compare a b = .eq from Int.compare_eq_eq.mpr h, if_neg (by omega), if_pos h]; rfl
  · rw [show compare a b = .gt from Int.compare_eq_gt.mpr h, if_neg (by omega), if_neg (by omega)]; rfl
theorem own_ci_self (a : Int) : own_ci a a = 0 := by unfold own_ci; rw [if_neg (by omega), if_pos rfl]
end OwnFloat
section OwnLin
open Jvm.FP.Core
def own_three : UInt64 := (4613937818241073152 : UInt64)
theorem own_V_three : own_V (4613937818241073152 : UInt64) 3 0 := ⟨false, 6755399441055744, -51, by decide +kernel, by decide⟩
theorem own_pos_sign {s : Bool} {A P M n : Nat} (hM : 0 < M) (hn : 0 < n) (h : signed s A * (P : Int) = (n : Int) * (M : Int)) : s = false ∧ A * P = n * M := by
  obtain ⟨N, h1, h2⟩ := own_sgn hM h
  cases s with
  | false => have h1' : (n : Int) = (N : Int) := h1; exact ⟨rfl, by rw [h2]; congr 1; omega⟩
  | true => have h1' : (n : Int) = -(N : Int) := h1; omega
theorem own_quot {x y : UInt64} {l s : Nat} (hx : own_V x (l : Int) 0) (hy : own_V y (s : Int) 0) (hl : 0 < l) (hs : 0 < s) : val64 (FP.ddiv x y) = roundRatio b64 false l s 0 := by
  obtain ⟨t, c, q, h1, h2⟩ := hx
  obtain ⟨u, d, r, g1, g2⟩ := hy
  obtain ⟨rfl, hA⟩ := own_pos_sign (Nat.two_pow_pos _) hl h2
  obtain ⟨rfl, hB⟩ := own_pos_sign (Nat.two_pow_pos _) hs g2
  have hd : 0 < d := Nat.pos_of_ne_zero fun z => by
    rw [z, Nat.zero_mul] at hB
    have := Nat.mul_pos hs (Nat.two_pow_pos (-(r + ((0 : Nat) : Int))).toNat)
    omega
  have hv : val64 (FP.ddiv x y) = roundRatio b64 (false != false) c d (q - r) := by
    have := val64_ddiv x y
    rw [h1, g1] at this
    rw [show val64 (FP.ddiv x y) = quotient b64 (.fin false c q) (.fin false d r) from this]
    show (if d = 0 then _ else _) = _
    rw [if_neg (by omega)]
  rw [hv]
  refine roundRatio_congr hd hs ?_
  have := own_cancN (z := c * s) (a := l * d) (p := (q + ((0 : Nat) : Int)).toNat + (-(r + ((0 : Nat) : Int))).toNat) (m := (-(q + ((0 : Nat) : Int))).toNat + (r + ((0 : Nat) : Int)).toNat) (E := q - r - 0) (by omega) (by
    rw [Nat.pow_add, Nat.pow_add]
    calc c * s * (2 ^ (q + ((0 : Nat) : Int)).toNat * 2 ^ (-(r + ((0 : Nat) : Int))).toNat)
        = (c * 2 ^ (q + ((0 : Nat) : Int)).toNat) * (s * 2 ^ (-(r + ((0 : Nat) : Int))).toNat) := by ac_rfl
      _ = (l * 2 ^ (-(q + ((0 : Nat) : Int))).toNat) * (d * 2 ^ (r + ((0 : Nat) : Int)).toNat) := by rw [hA, hB]
      _ = _ := by ac_rfl)
  rw [show (0 : Int) - (q - r) = -(q - r - 0) by omega]
  exact this
/-- the rounded quotient of two whole numbers: M / 2 ^ u, M the nearest -/
theorem own_quot_V {x y : UInt64} {l s : Nat} (hx : own_V x (l : Int) 0) (hy : own_V y (s : Int) 0) (hl : 0 < l) (hs : 0 < s) (hl2 : l < 8388608) :
    ∃ u : Nat, 30 ≤ u ∧ own_V (FP.ddiv x y) ((nearest (l * 2 ^ u) s : Nat) : Int) u := by
  have hv := own_quot hx hy hl hs
  have hb : Below l s 23 := by
    show l * 2 ^ 0 < s * 2 ^ 23
    have : 2 ^ 23 = 8388608 := by decide
    have := Nat.mul_le_mul_right (2 ^ 23) hs
    omega
  have hle := lt_of_below (leading_spec hl hs).1 hb
  have hqmin : b64.qmin = -1074 := by decide
  have hqmax : b64.qmax = 971 := by decide
  have hp : b64.p = 53 := rfl
  have hQ : quantum b64 l s 0 ≤ -30 := by unfold quantum; omega
  have hM := nearest_units_le (f := b64) hl hs 0
  unfold roundRatio at hv
  rw [if_neg (by omega)] at hv
  unfold roundAt at hv
  generalize quantum b64 l s 0 = Q at hQ hM hv
  obtain ⟨u, hu⟩ : ∃ u : Nat, Q = -(u : Int) := ⟨(-Q).toNat, by omega⟩
  subst hu
  have e1 : unitsNum l 0 (-(u : Int)) = l * 2 ^ u := by unfold unitsNum; rw [show ((0 : Int) - -(u : Int)).toNat = u by omega]
  have e2 : unitsDen s 0 (-(u : Int)) = s := by unfold unitsDen; rw [show (-(u : Int) - 0).toNat = 0 by omega, Nat.pow_zero, Nat.mul_one]
  rw [e1, e2] at hM hv
  refine ⟨u, by omega, ?_⟩
  generalize nearest (l * 2 ^ u) s = M at hM hv
  unfold settle bound at hv
  by_cases h : M < 2 ^ b64.p
  · rw [if_pos h, if_pos (by omega)] at hv
    refine ⟨false, M, -(u : Int), hv, ?_⟩
    rw [show (-(u : Int) + (u : Int)) = 0 by omega]; rfl
  · rw [if_neg h, if_pos (by omega)] at hv
    refine ⟨false, b64.tails, -(u : Int) + 1, hv, ?_⟩
    rw [show (-(u : Int) + 1 + (u : Int)) = 1 by omega]
    have e : M = 2 ^ 53 := by rw [hp] at h hM; omega
    rw [e]; decide
theorem own_lin {x y : UInt64} {l s : Nat} (hx : own_V x (l : Int) 0) (hy : own_V y (s : Int) 0) (hs : 0 < s) (hs2 : s ≤ 1048576) (hl2 : l < 8388608) :
    Jvm.Free.Fl.NoNaN64 (FP.ddiv x y) ∧ ((0 : Int32) < cmpValue (FP.dcmp (FP.ddiv x y) (4613937818241073152 : UInt64)) .g ↔ 3 * s < l) := by
  by_cases hl : l = 0
  · have hv : own_V (FP.ddiv x y) 0 0 := own_V_div hx hy (by omega) (by decide) (by decide) (by rw [hl]; simp)
    refine ⟨own_V_no hv, ?_⟩
    rw [own_V_ci .g hv own_V_three]
    exact ⟨fun h => absurd h (by decide), fun h => by omega⟩
  · obtain ⟨u, hu, hv⟩ := own_quot_V hx hy (by omega) hs hl2
    have h3 := own_V_up u own_V_three
    rw [Nat.zero_add] at h3
    refine ⟨own_V_no hv, ?_⟩
    rw [own_V_ci .g hv h3]
    have e3 : (3 : Int) * ((2 ^ u : Nat) : Int) = ((3 * 2 ^ u : Nat) : Int) := by rw [Int.natCast_mul]; rfl
    rw [e3]
    have hpow : 2 ^ 30 ≤ 2 ^ u := Nat.pow_le_pow_right (by decide) hu
    have h30 : 2 ^ 30 = 1073741824 := by decide
    generalize 2 ^ u = P at hpow
    by_cases h : 3 * s < l
    · have hM : 3 * P + 1 ≤ nearest (l * P) s := nearest_ge hs (by
        have h1 := Nat.mul_le_mul_right P (show 3 * s + 1 ≤ l from h)
        have h2 : (3 * P + 1) * s = 3 * s * P + s := by rw [Nat.add_mul, Nat.one_mul]; ac_rfl
        have h3 : (3 * s + 1) * P = 3 * s * P + P := by rw [Nat.add_mul, Nat.one_mul]
        omega)
      have e : own_ci ((nearest (l * P) s : Nat) : Int) ((3 * P : Nat) : Int) = 1 := by
        unfold own_ci; rw [if_neg (by omega), if_neg (by omega)]
      rw [e]; exact ⟨fun _ => h, fun _ => by decide⟩
    · have hM : nearest (l * P) s ≤ 3 * P := nearest_le hs (by
        have h1 := Nat.mul_le_mul_right P (show l ≤ 3 * s by omega)
        have h2 : 3 * P * s = 3 * s * P := by ac_rfl
        omega)
      refine ⟨fun q => ?_, fun q => absurd q h⟩
      exfalso
      by_cases h' : nearest (l * P) s < 3 * P
      · have e : own_ci ((nearest (l * P) s : Nat) : Int) ((3 * P : Nat) : Int) = -1 := by unfold own_ci; rw [if_pos (by omega)]
        rw [e] at q; exact absurd q (by decide)
      · have e : own_ci ((nearest (l * P) s : Nat) : Int) ((3 * P : Nat) : Int) = 0 := by unfold own_ci; rw [if_neg (by omega), if_pos (by omega)]
        rw [e] at q; exact absurd q (by decide)
end OwnLin


theorem own_dr_0 : decode jdk_30_method_1_code 0 = .ok (.aload_n 0, 1) := by decide +kernel
theorem own_dr_1 : decode jdk_30_method_1_code 1 = .ok (.invokespecial 1, 3) := by decide +kernel
theorem own_dr_4 : decode jdk_30_method_1_code 4 = .ok (.return_, 1) := by decide +kernel
theorem own_pn_Record : plainName "java/lang/Record" = true := by first | (simp [plainName, overriddenIn]; done) | decide +kernel
theorem own_efr (m : MethodId) (x0 : Addr) : entryFrame m #[(.ref x0)] 1 = mkF m 0 #[.val (.ref x0)] [] := by first | (simp [entryFrame, mkF, argsToLocals, Value.category, maxLocals]; done) | rfl
theorem own_pd0 : parseMethodDescriptor "()V" = some ⟨[], none⟩ := by decide +kernel
set_option maxRecDepth 65536 in
set_option maxHeartbeats 40000000 in
theorem own_rm_recinit (l : Launch) (Z : State) (a0 : Array Value) (hw : ∀ d ∈ tables_1, d.before a0 Z = true) (r0 : Addr) (h0 : Heap) : own_Con l Z [] (⟨"java/lang/Record", "<init>", "()V"⟩ : MethodName) jdk_30_method_1_code 1 none ({ frames := 1, cells := 0, slots := 0, locals := 12 } : Room) #[(.ref r0)] h0 (own_Q1 (none) h0) := by
  refine own_body (plainFor_of_name own_pn_Record) ?_
  intro p e s m below meth c s₁ X0 hx hby hml hret hlk hown hnm hZ e0
  refine oS (u' := s₁.setTop (mkF m 0 #[.val (.ref r0)] [])) (fun _ kst => castTop (own_efr m r0) kst) ?_
  refine oS (u' := s₁.setTop (mkF m 1 #[.val (.ref r0)] [(.ref r0)])) (fun _ kst => XS.aloadN X0.here hx rfl (hb hby own_dr_0) rfl rfl kst) ?_
  obtain ⟨T1, X1, e1, st1⟩ := initO X0 hx hZ hown (hw _ (List.mem_of_getElem? (i := 13) rfl)) (hw _ (List.mem_of_getElem? (i := 14) rfl)) (hw _ (List.mem_of_getElem? (i := 15) rfl)) e0 (g := (mkF m 1 #[.val (.ref r0)] [(.ref r0)])) rfl (by rw [hml]; rfl) rfl (hb hby own_dr_1) (by decide) (W := 0) (by show 2 * 0 + _ ≤ _; exact Nat.le_of_eq rfl) (by decide)
  refine oS (u' := T1.setTop (mkF m 4 #[.val (.ref r0)] [])) st1 ?_
  refine own_ret0 X1 hx hlk hret (hb hby own_dr_4) ?_ (by decide) (by decide)
  exact ⟨rfl, e1, rfl⟩
theorem own_dt_0 : decode prog_11_method_1_code 0 = .ok (.aload_n 0, 1) := by decide +kernel
theorem own_dt_1 : decode prog_11_method_1_code 1 = .ok (.invokespecial 3, 3) := by decide +kernel
theorem own_dt_4 : decode prog_11_method_1_code 4 = .ok (.aload_n 0, 1) := by decide +kernel
theorem own_dt_5 : decode prog_11_method_1_code 5 = .ok (.dload_n 1, 1) := by decide +kernel
theorem own_dt_6 : decode prog_11_method_1_code 6 = .ok (.putfield 9, 3) := by decide +kernel
theorem own_dt_9 : decode prog_11_method_1_code 9 = .ok (.aload_n 0, 1) := by decide +kernel
theorem own_dt_10 : decode prog_11_method_1_code 10 = .ok (.dload_n 3, 1) := by decide +kernel
theorem own_dt_11 : decode prog_11_method_1_code 11 = .ok (.putfield 15, 3) := by decide +kernel
theorem own_dt_14 : decode prog_11_method_1_code 14 = .ok (.return_, 1) := by decide +kernel
theorem own_pn_HostileBodies_Scaling : plainName "com/example/untwist_forms/untwistforms/bench/HostileBodies$Scaling" = true := by first | (simp [plainName, overriddenIn]; done) | decide +kernel
theorem own_eft (m : MethodId) (x0 : Addr) (x1 : UInt64) (x2 : UInt64) : entryFrame m #[(.ref x0), (.double x1), (.double x2)] 5 = mkF m 0 #[.val (.ref x0), .val (.double x1), .second, .val (.double x2), .second] [] := by first | (simp [entryFrame, mkF, argsToLocals, Value.category, maxLocals]; done) | rfl
set_option maxRecDepth 65536 in
set_option maxHeartbeats 40000000 in
theorem own_rm_scinit (l : Launch) (Z : State) (a0 : Array Value) (hw : ∀ d ∈ tables_1, d.before a0 Z = true) (r0 : Addr) (p1 : UInt64) (p2 : UInt64) (h0 : Heap) (n0 : Nat) (Z0 : n0 ≤ h0.size) (E0 : Exa Z h0 r0 "com/example/untwist_forms/untwistforms/bench/HostileBodies$Scaling") (F0 : Fld Z h0 r0 "com/example/untwist_forms/untwistforms/bench/HostileBodies$Scaling" "small" "D" (.double (0 : UInt64))) (F1 : Fld Z h0 r0 "com/example/untwist_forms/untwistforms/bench/HostileBodies$Scaling" "large" "D" (.double (0 : UInt64))) (g0 : n0 ≤ r0) : own_Con l Z [] (⟨"com/example/untwist_forms/untwistforms/bench/HostileBodies$Scaling", "<init>", "(DD)V"⟩ : MethodName) prog_11_method_1_code 5 none ({ frames := 2, cells := 0, slots := 0, locals := 24 } : Room) #[(.ref r0), (.double p1), (.double p2)] h0 (fun v h L => v = none ∧ Fr n0 L ∧ Keep h0 h [r0] ∧ Fld Z h r0 "com/example/untwist_forms/untwistforms/bench/HostileBodies$Scaling" "small" "D" (.double p1) ∧ Fld Z h r0 "com/example/untwist_forms/untwistforms/bench/HostileBodies$Scaling" "large" "D" (.double p2)) := by
  refine own_body (plainFor_of_name own_pn_HostileBodies_Scaling) ?_
  intro p e s m below meth c s₁ X0 hx hby hml hret hlk hown hnm hZ e0
  have N0 := Fr.nil n0
  have K0 : Keep h0 h0 [r0] := Keep.refl _ _
  refine oS (u' := s₁.setTop (mkF m 0 #[.val (.ref r0), .val (.double p1), .second, .val (.double p2), .second] [])) (fun _ kst => castTop (own_eft m r0 p1 p2) kst) ?_
  refine oS (u' := s₁.setTop (mkF m 1 #[.val (.ref r0), .val (.double p1), .second, .val (.double p2), .second] [(.ref r0)])) (fun _ kst => XS.aloadN X0.here hx rfl (hb hby own_dt_0) rfl rfl kst) ?_
  obtain ⟨T2, X2, e2, st2⟩ := own_callIP X0 hx hZ (y := (⟨"java/lang/Record", "<init>", "()V"⟩ : MethodName)) rfl hown (hw _ (List.mem_of_getElem? (i := 8) rfl)) (hw _ (List.mem_of_getElem? (i := 9) rfl)) (hw _ (List.mem_of_getElem? (i := 12) rfl)) (hw _ (List.mem_of_getElem? (i := 11) rfl)) (by decide) e0 (W := 0) (own_rm_recinit l Z a0 hw r0 h0) (by decide) (by decide) (g := (mkF m 1 #[.val (.ref r0), .val (.double p1), .second, .val (.double p2), .second] [(.ref r0)])) rfl (by rw [hml]; rfl) (a := r0) (argsL := []) (rest := []) (lenOf own_pd0 rfl) rfl (by show 2 * 0 + _ ≤ _; exact Nat.le_of_eq rfl) (hb hby own_dt_1) (by decide) (by decide)
  refine oS (u' := T2.setTop (mkF m 4 #[.val (.ref r0), .val (.double p1), .second, .val (.double p2), .second] [])) st2 ?_
  refine oS (u' := T2.setTop (mkF m 5 #[.val (.ref r0), .val (.double p1), .second, .val (.double p2), .second] [(.ref r0)])) (fun _ kst => XS.aloadN X2.here hx rfl (hb hby own_dt_4) rfl rfl kst) ?_
  refine oS (u' := T2.setTop (mkF m 6 #[.val (.ref r0), .val (.double p1), .second, .val (.double p2), .second] [(.double p1), (.ref r0)])) (fun _ kst => XS.dloadN X2.here hx rfl (hb hby own_dt_5) rfl kst) ?_
  obtain ⟨T3, h3, X3, e3, W3, st3⟩ := putF X2 hx hZ hown (host := "") (Or.inl (hw _ (List.mem_of_getElem? (i := 16) rfl))) Via.refl e2 F0 E0 (Or.inr ⟨(hw _ (List.mem_of_getElem? (i := 17) rfl)), rfl, hnm⟩) (hw _ (List.mem_of_getElem? (i := 3) rfl)) (ty := .double) (by decide) rfl rfl (g := (mkF m 6 #[.val (.ref r0), .val (.double p1), .second, .val (.double p2), .second] [(.double p1), (.ref r0)])) rfl rfl (hb hby own_dt_6)
  have f3_E_r0 := E0.wr W3
  have f3_F_r0_small := F0.same W3
  have f3_F_r0_large := F1.other W3 (Or.inr (slot_ne (Or.inr (hw _ (List.mem_of_getElem? (i := 19) rfl))) (Or.inr (hw _ (List.mem_of_getElem? (i := 17) rfl))) (by decide) (t := .double) (t' := .double) (by decide) (by decide)))
  have K3 := K0.wr W3 (Or.inl (List.mem_of_getElem? (i := 0) rfl))
  have Z3 := Nat.le_trans Z0 (Keep.of_wr W3).1
  have N3 := Fr.snoc X3 N0 g0
  refine oS (u' := T3.setTop (mkF m 9 #[.val (.ref r0), .val (.double p1), .second, .val (.double p2), .second] [])) st3 ?_
  refine oS (u' := T3.setTop (mkF m 10 #[.val (.ref r0), .val (.double p1), .second, .val (.double p2), .second] [(.ref r0)])) (fun _ kst => XS.aloadN X3.here hx rfl (hb hby own_dt_9) rfl rfl kst) ?_
  refine oS (u' := T3.setTop (mkF m 11 #[.val (.ref r0), .val (.double p1), .second, .val (.double p2), .second] [(.double p2), (.ref r0)])) (fun _ kst => XS.dloadN X3.here hx rfl (hb hby own_dt_10) rfl kst) ?_
  obtain ⟨T4, h4, X4, e4, W4, st4⟩ := putF X3 hx hZ hown (host := "") (Or.inl (hw _ (List.mem_of_getElem? (i := 18) rfl))) Via.refl e3 f3_F_r0_large f3_E_r0 (Or.inr ⟨(hw _ (List.mem_of_getElem? (i := 19) rfl)), rfl, hnm⟩) (hw _ (List.mem_of_getElem? (i := 3) rfl)) (ty := .double) (by decide) rfl rfl (g := (mkF m 11 #[.val (.ref r0), .val (.double p1), .second, .val (.double p2), .second] [(.double p2), (.ref r0)])) rfl rfl (hb hby own_dt_11)
  have f4_E_r0 := f3_E_r0.wr W4
  have f4_F_r0_small := f3_F_r0_small.other W4 (Or.inr (slot_ne (Or.inr (hw _ (List.mem_of_getElem? (i := 17) rfl))) (Or.inr (hw _ (List.mem_of_getElem? (i := 19) rfl))) (by decide) (t := .double) (t' := .double) (by decide) (by decide)))
  have f4_F_r0_large := f3_F_r0_large.same W4
  have K4 := K3.wr W4 (Or.inl (List.mem_of_getElem? (i := 0) rfl))
  have Z4 := Nat.le_trans Z3 (Keep.of_wr W4).1
  have N4 := Fr.snoc X4 N3 g0
  refine oS (u' := T4.setTop (mkF m 14 #[.val (.ref r0), .val (.double p1), .second, .val (.double p2), .second] [])) st4 ?_
  refine own_ret0 X4 hx hlk hret (hb hby own_dt_14) ?_ (by decide) (by decide)
  show _ ∧ _
  rw [e4]
  exact ⟨rfl, N4, K4, f4_F_r0_small, f4_F_r0_large⟩
theorem own_dm_0 : decode jdk_29_method_65_code 0 = .ok (.iload_n 0, 1) := by decide +kernel
theorem own_dm_1 : decode jdk_29_method_65_code 1 = .ok (.iload_n 1, 1) := by decide +kernel
theorem own_dm_2 : decode jdk_29_method_65_code 2 = .ok (.if_icmp .lt 7, 3) := by decide +kernel
theorem own_dm_5 : decode jdk_29_method_65_code 5 = .ok (.iload_n 0, 1) := by decide +kernel
theorem own_dm_6 : decode jdk_29_method_65_code 6 = .ok (.goto 4, 3) := by decide +kernel
theorem own_dm_9 : decode jdk_29_method_65_code 9 = .ok (.iload_n 1, 1) := by decide +kernel
theorem own_dm_10 : decode jdk_29_method_65_code 10 = .ok (.ireturn, 1) := by decide +kernel
theorem own_efm (m : MethodId) (x0 : Int32) (x1 : Int32) : entryFrame m #[(.int x0), (.int x1)] 2 = mkF m 0 #[.val (.int x0), .val (.int x1)] [] := by first | (simp [entryFrame, mkF, argsToLocals, Value.category, maxLocals]; done) | rfl
def own_max (p1 : Int32) (p2 : Int32) : Int32 := (if p1 < p2 then p2 else p1)
set_option maxRecDepth 65536 in
set_option maxHeartbeats 40000000 in
theorem own_rm_max (l : Launch) (Z : State) (a0 : Array Value) (hw : ∀ d ∈ tables_1, d.before a0 Z = true) (p1 : Int32) (p2 : Int32) (h0 : Heap) : own_Con l Z [] (⟨"java/lang/Math", "max", "(II)I"⟩ : MethodName) jdk_29_method_65_code 2 (some .int) ({ frames := 0, cells := 0, slots := 0, locals := 0 } : Room) #[(.int p1), (.int p2)] h0 (own_Q1 (some (.int (own_max p1 p2))) h0) := by
  refine own_body (Jvm.Free.JP.mathPlain rfl (by decide +kernel)) ?_
  intro p e s m below meth c s₁ X0 hx hby hml hret hlk hown hnm hZ e0
  refine oS (u' := s₁.setTop (mkF m 0 #[.val (.int p1), .val (.int p2)] [])) (fun _ kst => castTop (own_efm m p1 p2) kst) ?_
  refine oS (u' := s₁.setTop (mkF m 1 #[.val (.int p1), .val (.int p2)] [(.int p1)])) (fun _ kst => XS.iloadN X0.here hx rfl (hb hby own_dm_0) rfl kst) ?_
  refine oS (u' := s₁.setTop (mkF m 2 #[.val (.int p1), .val (.int p2)] [(.int p2), (.int p1)])) (fun _ kst => XS.iloadN X0.here hx rfl (hb hby own_dm_1) rfl kst) ?_
  by_cases hc5 : p1 < p2
  · refine oS (u' := s₁.setTop (mkF m 9 #[.val (.int p1), .val (.int p2)] [])) (fun _ kst => XS.icmpYes X0.here hx rfl (pc0 := 2) (pc' := 9) rfl (hb hby own_dm_2) rfl (tlt hc5).1 (by decide) (by decide) kst) ?_
    refine oS (u' := s₁.setTop (mkF m 10 #[.val (.int p1), .val (.int p2)] [(.int p2)])) (fun _ kst => XS.iloadN X0.here hx rfl (hb hby own_dm_9) rfl kst) ?_
    refine own_retI X0 hx hlk hret (hb hby own_dm_10) ?_ (by decide) (by decide)
    exact ⟨(by show (some (.int p2) : Option Value) = _; unfold own_max; rw [if_pos hc5]), e0, rfl⟩
  · refine oS (u' := s₁.setTop (mkF m 5 #[.val (.int p1), .val (.int p2)] [])) (fun _ kst => XS.icmpNo X0.here hx rfl (hb hby own_dm_2) rfl (flt hc5).1 kst) ?_
    refine oS (u' := s₁.setTop (mkF m 6 #[.val (.int p1), .val (.int p2)] [(.int p1)])) (fun _ kst => XS.iloadN X0.here hx rfl (hb hby own_dm_5) rfl kst) ?_
    refine oS (u' := s₁.setTop (mkF m 10 #[.val (.int p1), .val (.int p2)] [(.int p1)])) (fun _ kst => XS.goto X0.here hx rfl (pc0 := 6) (pc' := 10) rfl (hb hby own_dm_6) (by decide) (by decide) kst) ?_
    refine own_retI X0 hx hlk hret (hb hby own_dm_10) ?_ (by decide) (by decide)
    exact ⟨(by show (some (.int p1) : Option Value) = _; unfold own_max; rw [if_neg hc5]), e0, rfl⟩
theorem own_dq_0 : decode prog_11_method_2_code 0 = .ok (.aload_n 0, 1) := by decide +kernel
theorem own_dq_1 : decode prog_11_method_2_code 1 = .ok (.getfield 15, 3) := by decide +kernel
theorem own_dq_4 : decode prog_11_method_2_code 4 = .ok (.aload_n 0, 1) := by decide +kernel
theorem own_dq_5 : decode prog_11_method_2_code 5 = .ok (.getfield 9, 3) := by decide +kernel
theorem own_dq_8 : decode prog_11_method_2_code 8 = .ok (.ddiv, 1) := by decide +kernel
theorem own_dq_9 : decode prog_11_method_2_code 9 = .ok (.dreturn, 1) := by decide +kernel
theorem own_efq (m : MethodId) (x0 : Addr) : entryFrame m #[(.ref x0)] 1 = mkF m 0 #[.val (.ref x0)] [] := by first | (simp [entryFrame, mkF, argsToLocals, Value.category, maxLocals]; done) | rfl
set_option maxRecDepth 65536 in
set_option maxHeartbeats 40000000 in
theorem own_rm_ratio (l : Launch) (Z : State) (a0 : Array Value) (hw : ∀ d ∈ tables_1, d.before a0 Z = true) (r0 : Addr) (x : UInt64) (y : UInt64) (h0 : Heap) (E0 : Exa Z h0 r0 "com/example/untwist_forms/untwistforms/bench/HostileBodies$Scaling") (Fx : Fld Z h0 r0 "com/example/untwist_forms/untwistforms/bench/HostileBodies$Scaling" "small" "D" (.double x)) (Fy : Fld Z h0 r0 "com/example/untwist_forms/untwistforms/bench/HostileBodies$Scaling" "large" "D" (.double y)) (no : Jvm.Free.Fl.NoNaN64 (FP.ddiv y x)) : own_Con l Z [] (⟨"com/example/untwist_forms/untwistforms/bench/HostileBodies$Scaling", "ratio", "()D"⟩ : MethodName) prog_11_method_2_code 1 (some .double) ({ frames := 0, cells := 0, slots := 0, locals := 0 } : Room) #[(.ref r0)] h0 (own_Q1 (some (.double (FP.ddiv y x))) h0) := by
  refine own_body (plainFor_of_name own_pn_HostileBodies_Scaling) ?_
  intro p e s m below meth c s₁ X0 hx hby hml hret hlk hown hnm hZ e0
  refine oS (u' := s₁.setTop (mkF m 0 #[.val (.ref r0)] [])) (fun _ kst => castTop (own_efq m r0) kst) ?_
  refine oS (u' := s₁.setTop (mkF m 1 #[.val (.ref r0)] [(.ref r0)])) (fun _ kst => XS.aloadN X0.here hx rfl (hb hby own_dq_0) rfl rfl kst) ?_
  obtain ⟨T6, X6, e6, st6⟩ := getF X0 hx hZ hown (host := "") (Or.inl (hw _ (List.mem_of_getElem? (i := 18) rfl))) Via.refl e0 Fy (g := (mkF m 1 #[.val (.ref r0)] [(.ref r0)])) rfl rfl (hb hby own_dq_1)
  refine oS (u' := T6.setTop (mkF m 4 #[.val (.ref r0)] [(.double y)])) st6 ?_
  refine oS (u' := T6.setTop (mkF m 5 #[.val (.ref r0)] [(.ref r0), (.double y)])) (fun _ kst => XS.aloadN X6.here hx rfl (hb hby own_dq_4) rfl rfl kst) ?_
  obtain ⟨T7, X7, e7, st7⟩ := getF X6 hx hZ hown (host := "") (Or.inl (hw _ (List.mem_of_getElem? (i := 16) rfl))) Via.refl e6 Fx (g := (mkF m 5 #[.val (.ref r0)] [(.ref r0), (.double y)])) rfl rfl (hb hby own_dq_5)
  refine oS (u' := T7.setTop (mkF m 8 #[.val (.ref r0)] [(.double x), (.double y)])) st7 ?_
  refine oS (u' := T7.setTop (mkF m 9 #[.val (.ref r0)] [(.double (FP.ddiv y x))])) (fun _ kst => XS.ddivS X7.here hx rfl (hb hby own_dq_8) rfl no rfl kst) ?_
  refine own_retD X7 hx hlk hret (hb hby own_dq_9) ?_ (by decide) (by decide)
  exact ⟨rfl, e7, rfl⟩
theorem own_dn_0 : decode prog_11_method_3_code 0 = .ok (.aload_n 0, 1) := by decide +kernel
theorem own_dn_1 : decode prog_11_method_3_code 1 = .ok (.invokevirtual 18, 3) := by decide +kernel
theorem own_dn_4 : decode prog_11_method_3_code 4 = .ok (.ldc2_w 22, 3) := by decide +kernel
theorem own_dn_7 : decode prog_11_method_3_code 7 = .ok (.dcmp .g, 1) := by decide +kernel
theorem own_dn_8 : decode prog_11_method_3_code 8 = .ok (.ifCond .gt 7, 3) := by decide +kernel
theorem own_dn_11 : decode prog_11_method_3_code 11 = .ok (.iconst 1, 1) := by decide +kernel
theorem own_dn_12 : decode prog_11_method_3_code 12 = .ok (.goto 4, 3) := by decide +kernel
theorem own_dn_15 : decode prog_11_method_3_code 15 = .ok (.iconst 0, 1) := by decide +kernel
theorem own_dn_16 : decode prog_11_method_3_code 16 = .ok (.ireturn, 1) := by decide +kernel
theorem own_efn (m : MethodId) (x0 : Addr) : entryFrame m #[(.ref x0)] 1 = mkF m 0 #[.val (.ref x0)] [] := by first | (simp [entryFrame, mkF, argsToLocals, Value.category, maxLocals]; done) | rfl
theorem own_pd1 : parseMethodDescriptor "()D" = some ⟨[], some .double⟩ := by decide +kernel
def own_linear (r0 : Addr) (x : UInt64) (y : UInt64) : Int32 := (if (0 : Int32) < (cmpValue (FP.dcmp (FP.ddiv y x) (4613937818241073152 : UInt64)) .g) then ((0 : Int32) &&& 1) else ((1 : Int32) &&& 1))
set_option maxRecDepth 65536 in
set_option maxHeartbeats 40000000 in
theorem own_rm_linear (l : Launch) (Z : State) (a0 : Array Value) (hw : ∀ d ∈ tables_1, d.before a0 Z = true) (r0 : Addr) (x : UInt64) (y : UInt64) (h0 : Heap) (E0 : Exa Z h0 r0 "com/example/untwist_forms/untwistforms/bench/HostileBodies$Scaling") (Fx : Fld Z h0 r0 "com/example/untwist_forms/untwistforms/bench/HostileBodies$Scaling" "small" "D" (.double x)) (Fy : Fld Z h0 r0 "com/example/untwist_forms/untwistforms/bench/HostileBodies$Scaling" "large" "D" (.double y)) (no : Jvm.Free.Fl.NoNaN64 (FP.ddiv y x)) : own_Con l Z [] (⟨"com/example/untwist_forms/untwistforms/bench/HostileBodies$Scaling", "linear", "()Z"⟩ : MethodName) prog_11_method_3_code 1 (some .boolean) ({ frames := 1, cells := 0, slots := 0, locals := 12 } : Room) #[(.ref r0)] h0 (own_Q1 (some (.int (own_linear r0 x y))) h0) := by
  refine own_body (plainFor_of_name own_pn_HostileBodies_Scaling) ?_
  intro p e s m below meth c s₁ X0 hx hby hml hret hlk hown hnm hZ e0
  refine oS (u' := s₁.setTop (mkF m 0 #[.val (.ref r0)] [])) (fun _ kst => castTop (own_efn m r0) kst) ?_
  refine oS (u' := s₁.setTop (mkF m 1 #[.val (.ref r0)] [(.ref r0)])) (fun _ kst => XS.aloadN X0.here hx rfl (hb hby own_dn_0) rfl rfl kst) ?_
  obtain ⟨T8, X8, e8, st8⟩ := own_callVP X0 hx hZ (y := (⟨"com/example/untwist_forms/untwistforms/bench/HostileBodies$Scaling", "ratio", "()D"⟩ : MethodName)) (z := (⟨"com/example/untwist_forms/untwistforms/bench/HostileBodies$Scaling", "ratio", "()D"⟩ : MethodName)) hown (hw _ (List.mem_of_getElem? (i := 25) rfl)) (hw _ (List.mem_of_getElem? (i := 26) rfl)) (notFace_of_selects (args := #[]) (mvT hZ (hw _ (List.mem_of_getElem? (i := 28) rfl)))) (hw _ (List.mem_of_getElem? (i := 28) rfl)) (hw _ (List.mem_of_getElem? (i := 27) rfl)) (by decide) e0 E0 (W := 0) (own_rm_ratio l Z a0 hw r0 x y h0 E0 Fx Fy no) (hw _ (List.mem_of_getElem? (i := 29) rfl)) (hw _ (List.mem_of_getElem? (i := 4) rfl)) (by decide) (by decide) (g := (mkF m 1 #[.val (.ref r0)] [(.ref r0)])) rfl (by rw [hml]; rfl) (b := r0) (argsL := []) (rest := []) (lenOf own_pd1 rfl) rfl (by show 2 * 0 + _ ≤ _; exact Nat.le_of_eq rfl) (hb hby own_dn_1) (by decide) (by decide)
  refine oS (u' := T8.setTop (mkF m 4 #[.val (.ref r0)] [(.double (FP.ddiv y x))])) st8 ?_
  refine oS (u' := T8.setTop (mkF m 7 #[.val (.ref r0)] [(.double (4613937818241073152 : UInt64)), (.double (FP.ddiv y x))])) (fun _ kst => X8.ldc2DoubleC hx hown (mvT hZ (hw _ (List.mem_of_getElem? (i := 30) rfl))) (g := (mkF m 4 #[.val (.ref r0)] [(.double (FP.ddiv y x))])) rfl (hb hby own_dn_4) _ kst) ?_
  refine oS (u' := T8.setTop (mkF m 8 #[.val (.ref r0)] [(.int (cmpValue (FP.dcmp (FP.ddiv y x) (4613937818241073152 : UInt64)) .g))])) (fun _ kst => XS.dcmpS X8.here hx rfl (hb hby own_dn_7) rfl rfl kst) ?_
  by_cases hc9 : (0 : Int32) < (cmpValue (FP.dcmp (FP.ddiv y x) (4613937818241073152 : UInt64)) .g)
  · refine oS (u' := T8.setTop (mkF m 15 #[.val (.ref r0)] [])) (fun _ kst => XS.ifYes X8.here hx rfl (pc0 := 8) (pc' := 15) rfl (hb hby own_dn_8) rfl ((if0 _ _).trans (tlt hc9).2.2.1) (by decide) (by decide) kst) ?_
    refine oS (u' := T8.setTop (mkF m 16 #[.val (.ref r0)] [(.int (0 : Int32))])) (fun _ kst => XS.iconst X8.here hx rfl (hb hby own_dn_15) kst) ?_
    refine own_retN X8 hx hlk (t := .boolean) hret (by simp) (hb hby own_dn_16) ?_ (by decide) (by decide)
    exact ⟨(by show (some (.int ((0 : Int32) &&& 1)) : Option Value) = _; unfold own_linear; rw [if_pos hc9]), e8, rfl⟩
  · refine oS (u' := T8.setTop (mkF m 11 #[.val (.ref r0)] [])) (fun _ kst => XS.ifNo X8.here hx rfl (hb hby own_dn_8) rfl ((if0 _ _).trans (flt hc9).2.2.1) kst) ?_
    refine oS (u' := T8.setTop (mkF m 12 #[.val (.ref r0)] [(.int (1 : Int32))])) (fun _ kst => XS.iconst X8.here hx rfl (hb hby own_dn_11) kst) ?_
    refine oS (u' := T8.setTop (mkF m 16 #[.val (.ref r0)] [(.int (1 : Int32))])) (fun _ kst => XS.goto X8.here hx rfl (pc0 := 12) (pc' := 16) rfl (hb hby own_dn_12) (by decide) (by decide) kst) ?_
    refine own_retN X8 hx hlk (t := .boolean) hret (by simp) (hb hby own_dn_16) ?_ (by decide) (by decide)
    exact ⟨(by show (some (.int ((1 : Int32) &&& 1)) : Option Value) = _; unfold own_linear; rw [if_neg hc9]), e8, rfl⟩
def own_s (x : Int32) : Int32 := (x &&& (1048575 : Int32)) + (1 : Int32)
def own_la (p2 : Int32) : Int32 := p2 &&& (4194303 : Int32)
def own_lb (p1 p3 : Int32) : Int32 := own_max (0 : Int32) (((3 : Int32) * own_s p1) + ((p3 &&& (7 : Int32)) - (4 : Int32)))
def own_L (l : Int32) : Prop := 0 ≤ l.toInt ∧ l.toInt < 8388608
theorem own_s_in (x : Int32) : 1 ≤ (own_s x).toInt ∧ (own_s x).toInt ≤ 1048576 := by
  have e1 : (x &&& (1048575 : Int32)).toInt = x.toInt % 2 ^ 20 := Jvm.Kit.i32_mask x 1048575 (k := 20) (by decide) (by decide)
  unfold own_s
  rw [Jvm.Kit.i32_add (by rw [e1, show (1 : Int32).toInt = 1 from rfl]; omega) (by rw [e1, show (1 : Int32).toInt = 1 from rfl]; omega), e1, show (1 : Int32).toInt = 1 from rfl]; omega
theorem own_3s (x : Int32) : ((3 : Int32) * own_s x).toInt = 3 * (own_s x).toInt := by
  have := own_s_in x
  rw [Int32.toInt_mul, show (3 : Int32).toInt = 3 from rfl]
  exact Int.bmod_eq_of_le (by omega) (by omega)
theorem own_la_in (p2 : Int32) : own_L (own_la p2) := by
  have e1 : (p2 &&& (4194303 : Int32)).toInt = p2.toInt % 2 ^ 22 := Jvm.Kit.i32_mask p2 4194303 (k := 22) (by decide) (by decide)
  unfold own_L own_la; omega
theorem own_lb_in (p1 p3 : Int32) : own_L (own_lb p1 p3) := by
  have h0 : (0 : Int32).toInt = 0 := rfl
  have e1 : (p3 &&& (7 : Int32)).toInt = p3.toInt % 2 ^ 3 := Jvm.Kit.i32_mask p3 7 (k := 3) (by decide) (by decide)
  have hs := own_s_in p1
  have h3 := own_3s p1
  have e4 : ((p3 &&& (7 : Int32)) - (4 : Int32)).toInt = p3.toInt % 2 ^ 3 - 4 := by
    rw [Int32.toInt_sub, e1, show (4 : Int32).toInt = 4 from rfl]
    exact Int.bmod_eq_of_le (by omega) (by omega)
  have e5 : (((3 : Int32) * own_s p1) + ((p3 &&& (7 : Int32)) - (4 : Int32))).toInt = 3 * (own_s p1).toInt + (p3.toInt % 2 ^ 3 - 4) := by
    rw [Int32.toInt_add, e4, h3]
    exact Int.bmod_eq_of_le (by omega) (by omega)
  unfold own_L own_lb own_max
  by_cases h : (0 : Int32) < ((3 : Int32) * own_s p1) + ((p3 &&& (7 : Int32)) - (4 : Int32))
  · rw [if_pos h, e5]; rw [Int32.lt_iff_toInt_lt, e5] at h; omega
  · rw [if_neg h]; omega
theorem own_lin2 (p1 : Int32) {L : Int32} (hl : own_L L) : Jvm.Free.Fl.NoNaN64 (FP.ddiv (FP.i2d L) (FP.i2d (own_s p1))) ∧
    ((0 : Int32) < cmpValue (FP.dcmp (FP.ddiv (FP.i2d L) (FP.i2d (own_s p1))) (4613937818241073152 : UInt64)) .g ↔ (3 : Int32) * own_s p1 < L) := by
  have hs := own_s_in p1
  have hl := hl
  unfold own_L at hl
  have h3 := own_3s p1
  have hx : own_V (FP.i2d L) ((L.toInt.toNat : Nat) : Int) 0 := by
    rw [show ((L.toInt.toNat : Nat) : Int) = L.toInt by omega]; exact own_V_i2d _
  have hy : own_V (FP.i2d (own_s p1)) (((own_s p1).toInt.toNat : Nat) : Int) 0 := by
    rw [show (((own_s p1).toInt.toNat : Nat) : Int) = (own_s p1).toInt by omega]; exact own_V_i2d _
  obtain ⟨h1, h2⟩ := own_lin hx hy (by omega) (by omega) (by omega)
  refine ⟨h1, h2.trans ?_⟩
  rw [Int32.lt_iff_toInt_lt, h3]; omega
theorem own_lin_t {p1 L : Int32} (a : Addr) (hl : own_L L) (h : (3 : Int32) * own_s p1 < L) : own_linear a (FP.i2d (own_s p1)) (FP.i2d L) = (0 : Int32) := by
  unfold own_linear; rw [if_pos ((own_lin2 p1 hl).2.mpr h)]; rfl
theorem own_lin_f {p1 L : Int32} (a : Addr) (hl : own_L L) (h : ¬ (3 : Int32) * own_s p1 < L) : own_linear a (FP.i2d (own_s p1)) (FP.i2d L) = (1 : Int32) := by
  unfold own_linear; rw [if_neg (fun q => h ((own_lin2 p1 hl).2.mp q))]; rfl

theorem own_pn_ScalingLinearPinLaw : plainName "com/example/untwist_forms/untwistforms/bench/ScalingLinearPinLaw" = true := by first | (simp [plainName, overriddenIn]; done) | decide +kernel
theorem own_ef0 (m : MethodId) (x0 : Int32) (x1 : Int32) (x2 : Int32) : entryFrame m #[(.int x0), (.int x1), (.int x2)] maxLocals = mkF m 0 #[.val (.int x0), .val (.int x1), .val (.int x2), .unset, .unset, .unset, .unset] [] := by first | (simp [entryFrame, mkF, argsToLocals, Value.category, maxLocals]; done) | rfl
theorem own_pd2 : parseMethodDescriptor "(DD)V" = some ⟨[.double, .double], none⟩ := by decide +kernel
theorem own_pd3 : parseMethodDescriptor "()Z" = some ⟨[], some .boolean⟩ := by decide +kernel
theorem own_pd4 : parseMethodDescriptor "(II)I" = some ⟨[.int, .int], some .int⟩ := by decide +kernel
set_option maxRecDepth 65536 in
set_option maxHeartbeats 40000000 in
theorem own_law (l : Launch) (Z : State) (a0 : Array Value) (hw : ∀ d ∈ tables_1, d.before a0 Z = true) (p1 : Int32) (p2 : Int32) (p3 : Int32) (h0 : Heap) (n0 : Nat) (Z0 : n0 ≤ h0.size) : own_Con l Z tables_1 x code maxLocals ret room_1 #[(.int p1), (.int p2), (.int p3)] h0 (fun v _ L => v = some (.int (1 : Int32)) ∧ Fr n0 L) := by
  refine own_body (plainFor_of_name own_pn_ScalingLinearPinLaw) ?_
  intro p e s m below meth c s₁ X0 hx hby hml hret hlk hown hnm hZ e0
  have N0 := Fr.nil n0
  refine oS (u' := s₁.setTop (mkF m 0 #[.val (.int p1), .val (.int p2), .val (.int p3), .unset, .unset, .unset, .unset] [])) (fun _ kst => castTop (own_ef0 m p1 p2 p3) kst) ?_
  refine oS (u' := s₁.setTop (mkF m 1 #[.val (.int p1), .val (.int p2), .val (.int p3), .unset, .unset, .unset, .unset] [(.int p1)])) (fun _ kst => XS.iloadN X0.here hx rfl (hb hby at_0) rfl kst) ?_
  refine oS (u' := s₁.setTop (mkF m 3 #[.val (.int p1), .val (.int p2), .val (.int p3), .unset, .unset, .unset, .unset] [(.int (1048575 : Int32)), (.int p1)])) (fun _ kst => X0.ldcInt hx hown (mvT hZ (hw _ (List.mem_of_getElem? (i := 0) rfl))) (g := (mkF m 1 #[.val (.int p1), .val (.int p2), .val (.int p3), .unset, .unset, .unset, .unset] [(.int p1)])) rfl (hb hby at_1) _ kst) ?_
  refine oS (u' := s₁.setTop (mkF m 4 #[.val (.int p1), .val (.int p2), .val (.int p3), .unset, .unset, .unset, .unset] [(.int (p1 &&& (1048575 : Int32)))])) (fun _ kst => XS.iand X0.here hx rfl (hb hby at_3) rfl kst) ?_
  refine oS (u' := s₁.setTop (mkF m 5 #[.val (.int p1), .val (.int p2), .val (.int p3), .unset, .unset, .unset, .unset] [(.int (1 : Int32)), (.int (p1 &&& (1048575 : Int32)))])) (fun _ kst => XS.iconst X0.here hx rfl (hb hby at_4) kst) ?_
  refine oS (u' := s₁.setTop (mkF m 6 #[.val (.int p1), .val (.int p2), .val (.int p3), .unset, .unset, .unset, .unset] [(.int (own_s p1))])) (fun _ kst => XS.iadd X0.here hx rfl (hb hby at_5) rfl kst) ?_
  refine oS (u' := s₁.setTop (mkF m 7 #[.val (.int p1), .val (.int p2), .val (.int p3), .val (.int (own_s p1)), .unset, .unset, .unset] [])) (fun _ kst => XS.istoreN X0.here hx rfl (hb hby at_6) rfl (l' := #[.val (.int p1), .val (.int p2), .val (.int p3), .val (.int (own_s p1)), .unset, .unset, .unset]) rfl kst) ?_
  refine oS (u' := s₁.setTop (mkF m 8 #[.val (.int p1), .val (.int p2), .val (.int p3), .val (.int (own_s p1)), .unset, .unset, .unset] [(.int p3)])) (fun _ kst => XS.iloadN X0.here hx rfl (hb hby at_7) rfl kst) ?_
  refine oS (u' := s₁.setTop (mkF m 10 #[.val (.int p1), .val (.int p2), .val (.int p3), .val (.int (own_s p1)), .unset, .unset, .unset] [(.int (8 : Int32)), (.int p3)])) (fun _ kst => XS.bipush X0.here hx rfl (hb hby at_8) kst) ?_
  refine oS (u' := s₁.setTop (mkF m 11 #[.val (.int p1), .val (.int p2), .val (.int p3), .val (.int (own_s p1)), .unset, .unset, .unset] [(.int (p3 &&& (8 : Int32)))])) (fun _ kst => XS.iand X0.here hx rfl (hb hby at_10) rfl kst) ?_
  by_cases hc10 : (p3 &&& (8 : Int32)) = (0 : Int32)
  · refine oS (u' := s₁.setTop (mkF m 33 #[.val (.int p1), .val (.int p2), .val (.int p3), .val (.int (own_s p1)), .unset, .unset, .unset] [])) (fun _ kst => XS.ifYes X0.here hx rfl (pc0 := 11) (pc' := 33) rfl (hb hby at_11) rfl ((if0 _ _).trans (teq hc10).1) (by decide) (by decide) kst) ?_
    refine oS (u' := s₁.setTop (mkF m 34 #[.val (.int p1), .val (.int p2), .val (.int p3), .val (.int (own_s p1)), .unset, .unset, .unset] [(.int p2)])) (fun _ kst => XS.iloadN X0.here hx rfl (hb hby at_33) rfl kst) ?_
    refine oS (u' := s₁.setTop (mkF m 36 #[.val (.int p1), .val (.int p2), .val (.int p3), .val (.int (own_s p1)), .unset, .unset, .unset] [(.int (4194303 : Int32)), (.int p2)])) (fun _ kst => X0.ldcInt hx hown (mvT hZ (hw _ (List.mem_of_getElem? (i := 1) rfl))) (g := (mkF m 34 #[.val (.int p1), .val (.int p2), .val (.int p3), .val (.int (own_s p1)), .unset, .unset, .unset] [(.int p2)])) rfl (hb hby at_34) _ kst) ?_
    refine oS (u' := s₁.setTop (mkF m 37 #[.val (.int p1), .val (.int p2), .val (.int p3), .val (.int (own_s p1)), .unset, .unset, .unset] [(.int (own_la p2))])) (fun _ kst => XS.iand X0.here hx rfl (hb hby at_36) rfl kst) ?_
    refine oS (u' := s₁.setTop (mkF m 39 #[.val (.int p1), .val (.int p2), .val (.int p3), .val (.int (own_s p1)), .val (.int (own_la p2)), .unset, .unset] [])) (fun _ kst => XS.istore X0.here hx rfl (hb hby at_37) rfl (l' := #[.val (.int p1), .val (.int p2), .val (.int p3), .val (.int (own_s p1)), .val (.int (own_la p2)), .unset, .unset]) rfl kst) ?_
    obtain ⟨T11, h11, X11, e11, E11, A11, D11, -, st11⟩ := newO X0 hx hZ hown (hw _ (List.mem_of_getElem? (i := 2) rfl)) (hw _ (List.mem_of_getElem? (i := 3) rfl)) (hw _ (List.mem_of_getElem? (i := 4) rfl)) e0 (g := (mkF m 39 #[.val (.int p1), .val (.int p2), .val (.int p3), .val (.int (own_s p1)), .val (.int (own_la p2)), .unset, .unset] [])) rfl (hb hby at_39) (by decide) (by decide)
    obtain ⟨b11, g11⟩ : ∃ z, z = h0.size := ⟨_, rfl⟩
    rw [← g11] at A11 D11 st11
    have gb_b11 : n0 ≤ b11 := Nat.le_trans Z0 (Nat.le_of_eq g11.symm)
    have Z11 := Nat.le_trans Z0 E11.1
    have f11_F_small : Fld Z h11 b11 "com/example/untwist_forms/untwistforms/bench/HostileBodies$Scaling" "small" "D" (.double (0 : UInt64)) := D11 (Or.inr (hw _ (List.mem_of_getElem? (i := 17) rfl))) (ty := .double) (by decide)
    have f11_F_large : Fld Z h11 b11 "com/example/untwist_forms/untwistforms/bench/HostileBodies$Scaling" "large" "D" (.double (0 : UInt64)) := D11 (Or.inr (hw _ (List.mem_of_getElem? (i := 19) rfl))) (ty := .double) (by decide)
    refine oS (u' := T11.setTop (mkF m 42 #[.val (.int p1), .val (.int p2), .val (.int p3), .val (.int (own_s p1)), .val (.int (own_la p2)), .unset, .unset] [(.ref b11)])) st11 ?_
    refine oS (u' := T11.setTop (mkF m 43 #[.val (.int p1), .val (.int p2), .val (.int p3), .val (.int (own_s p1)), .val (.int (own_la p2)), .unset, .unset] [(.ref b11), (.ref b11)])) (fun _ kst => XS.dup X11.here hx rfl (hb hby at_42) rfl rfl kst) ?_
    refine oS (u' := T11.setTop (mkF m 44 #[.val (.int p1), .val (.int p2), .val (.int p3), .val (.int (own_s p1)), .val (.int (own_la p2)), .unset, .unset] [(.int (own_s p1)), (.ref b11), (.ref b11)])) (fun _ kst => XS.iloadN X11.here hx rfl (hb hby at_43) rfl kst) ?_
    refine oS (u' := T11.setTop (mkF m 45 #[.val (.int p1), .val (.int p2), .val (.int p3), .val (.int (own_s p1)), .val (.int (own_la p2)), .unset, .unset] [(.double (FP.i2d (own_s p1))), (.ref b11), (.ref b11)])) (fun _ kst => XS.i2dS X11.here hx rfl (hb hby at_44) rfl rfl kst) ?_
    refine oS (u' := T11.setTop (mkF m 47 #[.val (.int p1), .val (.int p2), .val (.int p3), .val (.int (own_s p1)), .val (.int (own_la p2)), .unset, .unset] [(.int (own_la p2)), (.double (FP.i2d (own_s p1))), (.ref b11), (.ref b11)])) (fun _ kst => XS.iload X11.here hx rfl (hb hby at_45) rfl kst) ?_
    refine oS (u' := T11.setTop (mkF m 48 #[.val (.int p1), .val (.int p2), .val (.int p3), .val (.int (own_s p1)), .val (.int (own_la p2)), .unset, .unset] [(.double (FP.i2d (own_la p2))), (.double (FP.i2d (own_s p1))), (.ref b11), (.ref b11)])) (fun _ kst => XS.i2dS X11.here hx rfl (hb hby at_47) rfl rfl kst) ?_
    obtain ⟨v12, T12, L12, X12, hQ12, st12⟩ := own_callI X11 hx hZ (y := (⟨"com/example/untwist_forms/untwistforms/bench/HostileBodies$Scaling", "<init>", "(DD)V"⟩ : MethodName)) rfl hown (hw _ (List.mem_of_getElem? (i := 5) rfl)) (hw _ (List.mem_of_getElem? (i := 6) rfl)) (hw _ (List.mem_of_getElem? (i := 7) rfl)) (hw _ (List.mem_of_getElem? (i := 4) rfl)) (by decide) e11 (W := 1) (own_rm_scinit l Z a0 hw b11 (FP.i2d (own_s p1)) (FP.i2d (own_la p2)) h11 n0 Z11 A11 f11_F_small f11_F_large gb_b11) (by decide) (by decide) (g := (mkF m 48 #[.val (.int p1), .val (.int p2), .val (.int p3), .val (.int (own_s p1)), .val (.int (own_la p2)), .unset, .unset] [(.double (FP.i2d (own_la p2))), (.double (FP.i2d (own_s p1))), (.ref b11), (.ref b11)])) rfl (by rw [hml]; rfl) (a := b11) (argsL := [(.double (FP.i2d (own_s p1))), (.double (FP.i2d (own_la p2)))]) (rest := [(.ref b11)]) (lenOf own_pd2 rfl) rfl (by show 2 * 0 + _ ≤ _; exact Nat.le_of_eq rfl) (hb hby at_48) (by decide) (by decide)
    obtain ⟨rfl, Nq12, Kq12, q12_0, q12_1⟩ := hQ12
    have f12_E_b11 := A11.keep Kq12
    have Z12 := Nat.le_trans Z11 Kq12.1
    have N12 := Fr.app N0 Nq12
    refine oS (u' := T12.setTop (mkF m 51 #[.val (.int p1), .val (.int p2), .val (.int p3), .val (.int (own_s p1)), .val (.int (own_la p2)), .unset, .unset] [(.ref b11)])) st12 ?_
    refine oS (u' := T12.setTop (mkF m 53 #[.val (.int p1), .val (.int p2), .val (.int p3), .val (.int (own_s p1)), .val (.int (own_la p2)), .val (.ref b11), .unset] [])) (fun _ kst => XS.astore X12.here hx rfl (hb hby at_51) rfl rfl (l' := #[.val (.int p1), .val (.int p2), .val (.int p3), .val (.int (own_s p1)), .val (.int (own_la p2)), .val (.ref b11), .unset]) rfl kst) ?_
    refine oS (u' := T12.setTop (mkF m 55 #[.val (.int p1), .val (.int p2), .val (.int p3), .val (.int (own_s p1)), .val (.int (own_la p2)), .val (.ref b11), .unset] [(.int (own_la p2))])) (fun _ kst => XS.iload X12.here hx rfl (hb hby at_53) rfl kst) ?_
    refine oS (u' := T12.setTop (mkF m 56 #[.val (.int p1), .val (.int p2), .val (.int p3), .val (.int (own_s p1)), .val (.int (own_la p2)), .val (.ref b11), .unset] [(.int (3 : Int32)), (.int (own_la p2))])) (fun _ kst => XS.iconst X12.here hx rfl (hb hby at_55) kst) ?_
    refine oS (u' := T12.setTop (mkF m 57 #[.val (.int p1), .val (.int p2), .val (.int p3), .val (.int (own_s p1)), .val (.int (own_la p2)), .val (.ref b11), .unset] [(.int (own_s p1)), (.int (3 : Int32)), (.int (own_la p2))])) (fun _ kst => XS.iloadN X12.here hx rfl (hb hby at_56) rfl kst) ?_
    refine oS (u' := T12.setTop (mkF m 58 #[.val (.int p1), .val (.int p2), .val (.int p3), .val (.int (own_s p1)), .val (.int (own_la p2)), .val (.ref b11), .unset] [(.int ((3 : Int32) * (own_s p1))), (.int (own_la p2))])) (fun _ kst => XS.imul X12.here hx rfl (hb hby at_57) rfl kst) ?_
    by_cases hc13 : ((3 : Int32) * (own_s p1)) < (own_la p2)
    · refine oS (u' := T12.setTop (mkF m 65 #[.val (.int p1), .val (.int p2), .val (.int p3), .val (.int (own_s p1)), .val (.int (own_la p2)), .val (.ref b11), .unset] [])) (fun _ kst => XS.icmpYes X12.here hx rfl (pc0 := 58) (pc' := 65) rfl (hb hby at_58) rfl (tlt hc13).2.2.1 (by decide) (by decide) kst) ?_
      refine oS (u' := T12.setTop (mkF m 66 #[.val (.int p1), .val (.int p2), .val (.int p3), .val (.int (own_s p1)), .val (.int (own_la p2)), .val (.ref b11), .unset] [(.int (0 : Int32))])) (fun _ kst => XS.iconst X12.here hx rfl (hb hby at_65) kst) ?_
      refine oS (u' := T12.setTop (mkF m 68 #[.val (.int p1), .val (.int p2), .val (.int p3), .val (.int (own_s p1)), .val (.int (own_la p2)), .val (.ref b11), .val (.int (0 : Int32))] [])) (fun _ kst => XS.istore X12.here hx rfl (hb hby at_66) rfl (l' := #[.val (.int p1), .val (.int p2), .val (.int p3), .val (.int (own_s p1)), .val (.int (own_la p2)), .val (.ref b11), .val (.int (0 : Int32))]) rfl kst) ?_
      refine oS (u' := T12.setTop (mkF m 70 #[.val (.int p1), .val (.int p2), .val (.int p3), .val (.int (own_s p1)), .val (.int (own_la p2)), .val (.ref b11), .val (.int (0 : Int32))] [(.ref b11)])) (fun _ kst => XS.aload X12.here hx rfl (hb hby at_68) rfl rfl kst) ?_
      obtain ⟨T14, X14, e14, st14⟩ := own_callVP X12 hx hZ (y := (⟨"com/example/untwist_forms/untwistforms/bench/HostileBodies$Scaling", "linear", "()Z"⟩ : MethodName)) (z := (⟨"com/example/untwist_forms/untwistforms/bench/HostileBodies$Scaling", "linear", "()Z"⟩ : MethodName)) hown (hw _ (List.mem_of_getElem? (i := 20) rfl)) (hw _ (List.mem_of_getElem? (i := 21) rfl)) (notFace_of_selects (args := #[]) (mvT hZ (hw _ (List.mem_of_getElem? (i := 23) rfl)))) (hw _ (List.mem_of_getElem? (i := 23) rfl)) (hw _ (List.mem_of_getElem? (i := 22) rfl)) (by decide) rfl f12_E_b11 (W := 0) (own_rm_linear l Z a0 hw b11 (FP.i2d (own_s p1)) (FP.i2d (own_la p2)) T12.heap f12_E_b11 q12_0 q12_1 (own_lin2 p1 (own_la_in p2)).1) (hw _ (List.mem_of_getElem? (i := 24) rfl)) (hw _ (List.mem_of_getElem? (i := 4) rfl)) (by decide) (by decide) (g := (mkF m 70 #[.val (.int p1), .val (.int p2), .val (.int p3), .val (.int (own_s p1)), .val (.int (own_la p2)), .val (.ref b11), .val (.int (0 : Int32))] [(.ref b11)])) rfl (by rw [hml]; rfl) (b := b11) (argsL := []) (rest := []) (lenOf own_pd3 rfl) rfl (by show 2 * 0 + _ ≤ _; exact Nat.le_of_eq rfl) (hb hby at_70) (by decide) (by decide)
      refine oS (u' := T14.setTop (mkF m 73 #[.val (.int p1), .val (.int p2), .val (.int p3), .val (.int (own_s p1)), .val (.int (own_la p2)), .val (.ref b11), .val (.int (0 : Int32))] [(.int (own_linear b11 (FP.i2d (own_s p1)) (FP.i2d (own_la p2))))])) st14 ?_
      refine oS (u' := T14.setTop (mkF m 75 #[.val (.int p1), .val (.int p2), .val (.int p3), .val (.int (own_s p1)), .val (.int (own_la p2)), .val (.ref b11), .val (.int (0 : Int32))] [(.int (0 : Int32)), (.int (own_linear b11 (FP.i2d (own_s p1)) (FP.i2d (own_la p2))))])) (fun _ kst => XS.iload X14.here hx rfl (hb hby at_73) rfl kst) ?_
      refine oS (u' := T14.setTop (mkF m 78 #[.val (.int p1), .val (.int p2), .val (.int p3), .val (.int (own_s p1)), .val (.int (own_la p2)), .val (.ref b11), .val (.int (0 : Int32))] [])) (fun _ kst => XS.icmpNo X14.here hx rfl (hb hby at_75) rfl (teq (own_lin_t _ (own_la_in p2) hc13)).2 kst) ?_
      refine oS (u' := T14.setTop (mkF m 79 #[.val (.int p1), .val (.int p2), .val (.int p3), .val (.int (own_s p1)), .val (.int (own_la p2)), .val (.ref b11), .val (.int (0 : Int32))] [(.int (1 : Int32))])) (fun _ kst => XS.iconst X14.here hx rfl (hb hby at_78) kst) ?_
      refine oS (u' := T14.setTop (mkF m 83 #[.val (.int p1), .val (.int p2), .val (.int p3), .val (.int (own_s p1)), .val (.int (own_la p2)), .val (.ref b11), .val (.int (0 : Int32))] [(.int (1 : Int32))])) (fun _ kst => XS.goto X14.here hx rfl (pc0 := 79) (pc' := 83) rfl (hb hby at_79) (by decide) (by decide) kst) ?_
      refine own_retN X14 hx hlk (t := .boolean) hret (by simp) (hb hby at_83) ?_ (by decide) (by decide)
      exact ⟨rfl, N12⟩
    · refine oS (u' := T12.setTop (mkF m 61 #[.val (.int p1), .val (.int p2), .val (.int p3), .val (.int (own_s p1)), .val (.int (own_la p2)), .val (.ref b11), .unset] [])) (fun _ kst => XS.icmpNo X12.here hx rfl (hb hby at_58) rfl (flt hc13).2.2.1 kst) ?_
      refine oS (u' := T12.setTop (mkF m 62 #[.val (.int p1), .val (.int p2), .val (.int p3), .val (.int (own_s p1)), .val (.int (own_la p2)), .val (.ref b11), .unset] [(.int (1 : Int32))])) (fun _ kst => XS.iconst X12.here hx rfl (hb hby at_61) kst) ?_
      refine oS (u' := T12.setTop (mkF m 66 #[.val (.int p1), .val (.int p2), .val (.int p3), .val (.int (own_s p1)), .val (.int (own_la p2)), .val (.ref b11), .unset] [(.int (1 : Int32))])) (fun _ kst => XS.goto X12.here hx rfl (pc0 := 62) (pc' := 66) rfl (hb hby at_62) (by decide) (by decide) kst) ?_
      refine oS (u' := T12.setTop (mkF m 68 #[.val (.int p1), .val (.int p2), .val (.int p3), .val (.int (own_s p1)), .val (.int (own_la p2)), .val (.ref b11), .val (.int (1 : Int32))] [])) (fun _ kst => XS.istore X12.here hx rfl (hb hby at_66) rfl (l' := #[.val (.int p1), .val (.int p2), .val (.int p3), .val (.int (own_s p1)), .val (.int (own_la p2)), .val (.ref b11), .val (.int (1 : Int32))]) rfl kst) ?_
      refine oS (u' := T12.setTop (mkF m 70 #[.val (.int p1), .val (.int p2), .val (.int p3), .val (.int (own_s p1)), .val (.int (own_la p2)), .val (.ref b11), .val (.int (1 : Int32))] [(.ref b11)])) (fun _ kst => XS.aload X12.here hx rfl (hb hby at_68) rfl rfl kst) ?_
      obtain ⟨T15, X15, e15, st15⟩ := own_callVP X12 hx hZ (y := (⟨"com/example/untwist_forms/untwistforms/bench/HostileBodies$Scaling", "linear", "()Z"⟩ : MethodName)) (z := (⟨"com/example/untwist_forms/untwistforms/bench/HostileBodies$Scaling", "linear", "()Z"⟩ : MethodName)) hown (hw _ (List.mem_of_getElem? (i := 20) rfl)) (hw _ (List.mem_of_getElem? (i := 21) rfl)) (notFace_of_selects (args := #[]) (mvT hZ (hw _ (List.mem_of_getElem? (i := 23) rfl)))) (hw _ (List.mem_of_getElem? (i := 23) rfl)) (hw _ (List.mem_of_getElem? (i := 22) rfl)) (by decide) rfl f12_E_b11 (W := 0) (own_rm_linear l Z a0 hw b11 (FP.i2d (own_s p1)) (FP.i2d (own_la p2)) T12.heap f12_E_b11 q12_0 q12_1 (own_lin2 p1 (own_la_in p2)).1) (hw _ (List.mem_of_getElem? (i := 24) rfl)) (hw _ (List.mem_of_getElem? (i := 4) rfl)) (by decide) (by decide) (g := (mkF m 70 #[.val (.int p1), .val (.int p2), .val (.int p3), .val (.int (own_s p1)), .val (.int (own_la p2)), .val (.ref b11), .val (.int (1 : Int32))] [(.ref b11)])) rfl (by rw [hml]; rfl) (b := b11) (argsL := []) (rest := []) (lenOf own_pd3 rfl) rfl (by show 2 * 0 + _ ≤ _; exact Nat.le_of_eq rfl) (hb hby at_70) (by decide) (by decide)
      refine oS (u' := T15.setTop (mkF m 73 #[.val (.int p1), .val (.int p2), .val (.int p3), .val (.int (own_s p1)), .val (.int (own_la p2)), .val (.ref b11), .val (.int (1 : Int32))] [(.int (own_linear b11 (FP.i2d (own_s p1)) (FP.i2d (own_la p2))))])) st15 ?_
      refine oS (u' := T15.setTop (mkF m 75 #[.val (.int p1), .val (.int p2), .val (.int p3), .val (.int (own_s p1)), .val (.int (own_la p2)), .val (.ref b11), .val (.int (1 : Int32))] [(.int (1 : Int32)), (.int (own_linear b11 (FP.i2d (own_s p1)) (FP.i2d (own_la p2))))])) (fun _ kst => XS.iload X15.here hx rfl (hb hby at_73) rfl kst) ?_
      refine oS (u' := T15.setTop (mkF m 78 #[.val (.int p1), .val (.int p2), .val (.int p3), .val (.int (own_s p1)), .val (.int (own_la p2)), .val (.ref b11), .val (.int (1 : Int32))] [])) (fun _ kst => XS.icmpNo X15.here hx rfl (hb hby at_75) rfl (teq (own_lin_f _ (own_la_in p2) hc13)).2 kst) ?_
      refine oS (u' := T15.setTop (mkF m 79 #[.val (.int p1), .val (.int p2), .val (.int p3), .val (.int (own_s p1)), .val (.int (own_la p2)), .val (.ref b11), .val (.int (1 : Int32))] [(.int (1 : Int32))])) (fun _ kst => XS.iconst X15.here hx rfl (hb hby at_78) kst) ?_
      refine oS (u' := T15.setTop (mkF m 83 #[.val (.int p1), .val (.int p2), .val (.int p3), .val (.int (own_s p1)), .val (.int (own_la p2)), .val (.ref b11), .val (.int (1 : Int32))] [(.int (1 : Int32))])) (fun _ kst => XS.goto X15.here hx rfl (pc0 := 79) (pc' := 83) rfl (hb hby at_79) (by decide) (by decide) kst) ?_
      refine own_retN X15 hx hlk (t := .boolean) hret (by simp) (hb hby at_83) ?_ (by decide) (by decide)
      exact ⟨rfl, N12⟩
  · refine oS (u' := s₁.setTop (mkF m 14 #[.val (.int p1), .val (.int p2), .val (.int p3), .val (.int (own_s p1)), .unset, .unset, .unset] [])) (fun _ kst => XS.ifNo X0.here hx rfl (hb hby at_11) rfl ((if0 _ _).trans (feq hc10).1) kst) ?_
    refine oS (u' := s₁.setTop (mkF m 15 #[.val (.int p1), .val (.int p2), .val (.int p3), .val (.int (own_s p1)), .unset, .unset, .unset] [(.int (0 : Int32))])) (fun _ kst => XS.iconst X0.here hx rfl (hb hby at_14) kst) ?_
    refine oS (u' := s₁.setTop (mkF m 16 #[.val (.int p1), .val (.int p2), .val (.int p3), .val (.int (own_s p1)), .unset, .unset, .unset] [(.int (3 : Int32)), (.int (0 : Int32))])) (fun _ kst => XS.iconst X0.here hx rfl (hb hby at_15) kst) ?_
    refine oS (u' := s₁.setTop (mkF m 17 #[.val (.int p1), .val (.int p2), .val (.int p3), .val (.int (own_s p1)), .unset, .unset, .unset] [(.int (own_s p1)), (.int (3 : Int32)), (.int (0 : Int32))])) (fun _ kst => XS.iloadN X0.here hx rfl (hb hby at_16) rfl kst) ?_
    refine oS (u' := s₁.setTop (mkF m 18 #[.val (.int p1), .val (.int p2), .val (.int p3), .val (.int (own_s p1)), .unset, .unset, .unset] [(.int ((3 : Int32) * (own_s p1))), (.int (0 : Int32))])) (fun _ kst => XS.imul X0.here hx rfl (hb hby at_17) rfl kst) ?_
    refine oS (u' := s₁.setTop (mkF m 19 #[.val (.int p1), .val (.int p2), .val (.int p3), .val (.int (own_s p1)), .unset, .unset, .unset] [(.int p3), (.int ((3 : Int32) * (own_s p1))), (.int (0 : Int32))])) (fun _ kst => XS.iloadN X0.here hx rfl (hb hby at_18) rfl kst) ?_
    refine oS (u' := s₁.setTop (mkF m 21 #[.val (.int p1), .val (.int p2), .val (.int p3), .val (.int (own_s p1)), .unset, .unset, .unset] [(.int (7 : Int32)), (.int p3), (.int ((3 : Int32) * (own_s p1))), (.int (0 : Int32))])) (fun _ kst => XS.bipush X0.here hx rfl (hb hby at_19) kst) ?_
    refine oS (u' := s₁.setTop (mkF m 22 #[.val (.int p1), .val (.int p2), .val (.int p3), .val (.int (own_s p1)), .unset, .unset, .unset] [(.int (p3 &&& (7 : Int32))), (.int ((3 : Int32) * (own_s p1))), (.int (0 : Int32))])) (fun _ kst => XS.iand X0.here hx rfl (hb hby at_21) rfl kst) ?_
    refine oS (u' := s₁.setTop (mkF m 23 #[.val (.int p1), .val (.int p2), .val (.int p3), .val (.int (own_s p1)), .unset, .unset, .unset] [(.int (4 : Int32)), (.int (p3 &&& (7 : Int32))), (.int ((3 : Int32) * (own_s p1))), (.int (0 : Int32))])) (fun _ kst => XS.iconst X0.here hx rfl (hb hby at_22) kst) ?_
    refine oS (u' := s₁.setTop (mkF m 24 #[.val (.int p1), .val (.int p2), .val (.int p3), .val (.int (own_s p1)), .unset, .unset, .unset] [(.int ((p3 &&& (7 : Int32)) - (4 : Int32))), (.int ((3 : Int32) * (own_s p1))), (.int (0 : Int32))])) (fun _ kst => XS.isub X0.here hx rfl (hb hby at_23) rfl kst) ?_
    refine oS (u' := s₁.setTop (mkF m 25 #[.val (.int p1), .val (.int p2), .val (.int p3), .val (.int (own_s p1)), .unset, .unset, .unset] [(.int (((3 : Int32) * (own_s p1)) + ((p3 &&& (7 : Int32)) - (4 : Int32)))), (.int (0 : Int32))])) (fun _ kst => XS.iadd X0.here hx rfl (hb hby at_24) rfl kst) ?_
    obtain ⟨T16, X16, e16, st16⟩ := own_callSP X0 hx hZ (y := (⟨"java/lang/Math", "max", "(II)I"⟩ : MethodName)) hown (hw _ (List.mem_of_getElem? (i := 31) rfl)) (hw _ (List.mem_of_getElem? (i := 32) rfl)) (hw _ (List.mem_of_getElem? (i := 34) rfl)) (hw _ (List.mem_of_getElem? (i := 33) rfl)) (by decide) e0 (W := 0) (own_rm_max l Z a0 hw (0 : Int32) (((3 : Int32) * (own_s p1)) + ((p3 &&& (7 : Int32)) - (4 : Int32))) h0 ) (by decide) (by decide) (g := (mkF m 25 #[.val (.int p1), .val (.int p2), .val (.int p3), .val (.int (own_s p1)), .unset, .unset, .unset] [(.int (((3 : Int32) * (own_s p1)) + ((p3 &&& (7 : Int32)) - (4 : Int32)))), (.int (0 : Int32))])) rfl (by rw [hml]; rfl) (argsL := [(.int (0 : Int32)), (.int (((3 : Int32) * (own_s p1)) + ((p3 &&& (7 : Int32)) - (4 : Int32))))]) (rest := []) (lenOf own_pd4 rfl) rfl (by show 2 * 0 + _ ≤ _; exact Nat.le_of_eq rfl) (hb hby at_25) (by decide) (by decide)
    refine oS (u' := T16.setTop (mkF m 28 #[.val (.int p1), .val (.int p2), .val (.int p3), .val (.int (own_s p1)), .unset, .unset, .unset] [(.int (own_lb p1 p3))])) st16 ?_
    refine oS (u' := T16.setTop (mkF m 30 #[.val (.int p1), .val (.int p2), .val (.int p3), .val (.int (own_s p1)), .val (.int (own_lb p1 p3)), .unset, .unset] [])) (fun _ kst => XS.istore X16.here hx rfl (hb hby at_28) rfl (l' := #[.val (.int p1), .val (.int p2), .val (.int p3), .val (.int (own_s p1)), .val (.int (own_lb p1 p3)), .unset, .unset]) rfl kst) ?_
    refine oS (u' := T16.setTop (mkF m 39 #[.val (.int p1), .val (.int p2), .val (.int p3), .val (.int (own_s p1)), .val (.int (own_lb p1 p3)), .unset, .unset] [])) (fun _ kst => XS.goto X16.here hx rfl (pc0 := 30) (pc' := 39) rfl (hb hby at_30) (by decide) (by decide) kst) ?_
    obtain ⟨T17, h17, X17, e17, E17, A17, D17, -, st17⟩ := newO X16 hx hZ hown (hw _ (List.mem_of_getElem? (i := 2) rfl)) (hw _ (List.mem_of_getElem? (i := 3) rfl)) (hw _ (List.mem_of_getElem? (i := 4) rfl)) e16 (g := (mkF m 39 #[.val (.int p1), .val (.int p2), .val (.int p3), .val (.int (own_s p1)), .val (.int (own_lb p1 p3)), .unset, .unset] [])) rfl (hb hby at_39) (by decide) (by decide)
    obtain ⟨b17, g17⟩ : ∃ z, z = h0.size := ⟨_, rfl⟩
    rw [← g17] at A17 D17 st17
    have gb_b17 : n0 ≤ b17 := Nat.le_trans Z0 (Nat.le_of_eq g17.symm)
    have Z17 := Nat.le_trans Z0 E17.1
    have f17_F_small : Fld Z h17 b17 "com/example/untwist_forms/untwistforms/bench/HostileBodies$Scaling" "small" "D" (.double (0 : UInt64)) := D17 (Or.inr (hw _ (List.mem_of_getElem? (i := 17) rfl))) (ty := .double) (by decide)
    have f17_F_large : Fld Z h17 b17 "com/example/untwist_forms/untwistforms/bench/HostileBodies$Scaling" "large" "D" (.double (0 : UInt64)) := D17 (Or.inr (hw _ (List.mem_of_getElem? (i := 19) rfl))) (ty := .double) (by decide)
    refine oS (u' := T17.setTop (mkF m 42 #[.val (.int p1), .val (.int p2), .val (.int p3), .val (.int (own_s p1)), .val (.int (own_lb p1 p3)), .unset, .unset] [(.ref b17)])) st17 ?_
    refine oS (u' := T17.setTop (mkF m 43 #[.val (.int p1), .val (.int p2), .val (.int p3), .val (.int (own_s p1)), .val (.int (own_lb p1 p3)), .unset, .unset] [(.ref b17), (.ref b17)])) (fun _ kst => XS.dup X17.here hx rfl (hb hby at_42) rfl rfl kst) ?_
    refine oS (u' := T17.setTop (mkF m 44 #[.val (.int p1), .val (.int p2), .val (.int p3), .val (.int (own_s p1)), .val (.int (own_lb p1 p3)), .unset, .unset] [(.int (own_s p1)), (.ref b17), (.ref b17)])) (fun _ kst => XS.iloadN X17.here hx rfl (hb hby at_43) rfl kst) ?_
    refine oS (u' := T17.setTop (mkF m 45 #[.val (.int p1), .val (.int p2), .val (.int p3), .val (.int (own_s p1)), .val (.int (own_lb p1 p3)), .unset, .unset] [(.double (FP.i2d (own_s p1))), (.ref b17), (.ref b17)])) (fun _ kst => XS.i2dS X17.here hx rfl (hb hby at_44) rfl rfl kst) ?_
    refine oS (u' := T17.setTop (mkF m 47 #[.val (.int p1), .val (.int p2), .val (.int p3), .val (.int (own_s p1)), .val (.int (own_lb p1 p3)), .unset, .unset] [(.int (own_lb p1 p3)), (.double (FP.i2d (own_s p1))), (.ref b17), (.ref b17)])) (fun _ kst => XS.iload X17.here hx rfl (hb hby at_45) rfl kst) ?_
    refine oS (u' := T17.setTop (mkF m 48 #[.val (.int p1), .val (.int p2), .val (.int p3), .val (.int (own_s p1)), .val (.int (own_lb p1 p3)), .unset, .unset] [(.double (FP.i2d (own_lb p1 p3))), (.double (FP.i2d (own_s p1))), (.ref b17), (.ref b17)])) (fun _ kst => XS.i2dS X17.here hx rfl (hb hby at_47) rfl rfl kst) ?_
    obtain ⟨v18, T18, L18, X18, hQ18, st18⟩ := own_callI X17 hx hZ (y := (⟨"com/example/untwist_forms/untwistforms/bench/HostileBodies$Scaling", "<init>", "(DD)V"⟩ : MethodName)) rfl hown (hw _ (List.mem_of_getElem? (i := 5) rfl)) (hw _ (List.mem_of_getElem? (i := 6) rfl)) (hw _ (List.mem_of_getElem? (i := 7) rfl)) (hw _ (List.mem_of_getElem? (i := 4) rfl)) (by decide) e17 (W := 1) (own_rm_scinit l Z a0 hw b17 (FP.i2d (own_s p1)) (FP.i2d (own_lb p1 p3)) h17 n0 Z17 A17 f17_F_small f17_F_large gb_b17) (by decide) (by decide) (g := (mkF m 48 #[.val (.int p1), .val (.int p2), .val (.int p3), .val (.int (own_s p1)), .val (.int (own_lb p1 p3)), .unset, .unset] [(.double (FP.i2d (own_lb p1 p3))), (.double (FP.i2d (own_s p1))), (.ref b17), (.ref b17)])) rfl (by rw [hml]; rfl) (a := b17) (argsL := [(.double (FP.i2d (own_s p1))), (.double (FP.i2d (own_lb p1 p3)))]) (rest := [(.ref b17)]) (lenOf own_pd2 rfl) rfl (by show 2 * 0 + _ ≤ _; exact Nat.le_of_eq rfl) (hb hby at_48) (by decide) (by decide)
    obtain ⟨rfl, Nq18, Kq18, q18_0, q18_1⟩ := hQ18
    have f18_E_b17 := A17.keep Kq18
    have Z18 := Nat.le_trans Z17 Kq18.1
    have N18 := Fr.app N0 Nq18
    refine oS (u' := T18.setTop (mkF m 51 #[.val (.int p1), .val (.int p2), .val (.int p3), .val (.int (own_s p1)), .val (.int (own_lb p1 p3)), .unset, .unset] [(.ref b17)])) st18 ?_
    refine oS (u' := T18.setTop (mkF m 53 #[.val (.int p1), .val (.int p2), .val (.int p3), .val (.int (own_s p1)), .val (.int (own_lb p1 p3)), .val (.ref b17), .unset] [])) (fun _ kst => XS.astore X18.here hx rfl (hb hby at_51) rfl rfl (l' := #[.val (.int p1), .val (.int p2), .val (.int p3), .val (.int (own_s p1)), .val (.int (own_lb p1 p3)), .val (.ref b17), .unset]) rfl kst) ?_
    refine oS (u' := T18.setTop (mkF m 55 #[.val (.int p1), .val (.int p2), .val (.int p3), .val (.int (own_s p1)), .val (.int (own_lb p1 p3)), .val (.ref b17), .unset] [(.int (own_lb p1 p3))])) (fun _ kst => XS.iload X18.here hx rfl (hb hby at_53) rfl kst) ?_
    refine oS (u' := T18.setTop (mkF m 56 #[.val (.int p1), .val (.int p2), .val (.int p3), .val (.int (own_s p1)), .val (.int (own_lb p1 p3)), .val (.ref b17), .unset] [(.int (3 : Int32)), (.int (own_lb p1 p3))])) (fun _ kst => XS.iconst X18.here hx rfl (hb hby at_55) kst) ?_
    refine oS (u' := T18.setTop (mkF m 57 #[.val (.int p1), .val (.int p2), .val (.int p3), .val (.int (own_s p1)), .val (.int (own_lb p1 p3)), .val (.ref b17), .unset] [(.int (own_s p1)), (.int (3 : Int32)), (.int (own_lb p1 p3))])) (fun _ kst => XS.iloadN X18.here hx rfl (hb hby at_56) rfl kst) ?_
    refine oS (u' := T18.setTop (mkF m 58 #[.val (.int p1), .val (.int p2), .val (.int p3), .val (.int (own_s p1)), .val (.int (own_lb p1 p3)), .val (.ref b17), .unset] [(.int ((3 : Int32) * (own_s p1))), (.int (own_lb p1 p3))])) (fun _ kst => XS.imul X18.here hx rfl (hb hby at_57) rfl kst) ?_
    by_cases hc19 : ((3 : Int32) * (own_s p1)) < (own_lb p1 p3)
    · refine oS (u' := T18.setTop (mkF m 65 #[.val (.int p1), .val (.int p2), .val (.int p3), .val (.int (own_s p1)), .val (.int (own_lb p1 p3)), .val (.ref b17), .unset] [])) (fun _ kst => XS.icmpYes X18.here hx rfl (pc0 := 58) (pc' := 65) rfl (hb hby at_58) rfl (tlt hc19).2.2.1 (by decide) (by decide) kst) ?_
      refine oS (u' := T18.setTop (mkF m 66 #[.val (.int p1), .val (.int p2), .val (.int p3), .val (.int (own_s p1)), .val (.int (own_lb p1 p3)), .val (.ref b17), .unset] [(.int (0 : Int32))])) (fun _ kst => XS.iconst X18.here hx rfl (hb hby at_65) kst) ?_
      refine oS (u' := T18.setTop (mkF m 68 #[.val (.int p1), .val (.int p2), .val (.int p3), .val (.int (own_s p1)), .val (.int (own_lb p1 p3)), .val (.ref b17), .val (.int (0 : Int32))] [])) (fun _ kst => XS.istore X18.here hx rfl (hb hby at_66) rfl (l' := #[.val (.int p1), .val (.int p2), .val (.int p3), .val (.int (own_s p1)), .val (.int (own_lb p1 p3)), .val (.ref b17), .val (.int (0 : Int32))]) rfl kst) ?_
      refine oS (u' := T18.setTop (mkF m 70 #[.val (.int p1), .val (.int p2), .val (.int p3), .val (.int (own_s p1)), .val (.int (own_lb p1 p3)), .val (.ref b17), .val (.int (0 : Int32))] [(.ref b17)])) (fun _ kst => XS.aload X18.here hx rfl (hb hby at_68) rfl rfl kst) ?_
      obtain ⟨T20, X20, e20, st20⟩ := own_callVP X18 hx hZ (y := (⟨"com/example/untwist_forms/untwistforms/bench/HostileBodies$Scaling", "linear", "()Z"⟩ : MethodName)) (z := (⟨"com/example/untwist_forms/untwistforms/bench/HostileBodies$Scaling", "linear", "()Z"⟩ : MethodName)) hown (hw _ (List.mem_of_getElem? (i := 20) rfl)) (hw _ (List.mem_of_getElem? (i := 21) rfl)) (notFace_of_selects (args := #[]) (mvT hZ (hw _ (List.mem_of_getElem? (i := 23) rfl)))) (hw _ (List.mem_of_getElem? (i := 23) rfl)) (hw _ (List.mem_of_getElem? (i := 22) rfl)) (by decide) rfl f18_E_b17 (W := 0) (own_rm_linear l Z a0 hw b17 (FP.i2d (own_s p1)) (FP.i2d (own_lb p1 p3)) T18.heap f18_E_b17 q18_0 q18_1 (own_lin2 p1 (own_lb_in p1 p3)).1) (hw _ (List.mem_of_getElem? (i := 24) rfl)) (hw _ (List.mem_of_getElem? (i := 4) rfl)) (by decide) (by decide) (g := (mkF m 70 #[.val (.int p1), .val (.int p2), .val (.int p3), .val (.int (own_s p1)), .val (.int (own_lb p1 p3)), .val (.ref b17), .val (.int (0 : Int32))] [(.ref b17)])) rfl (by rw [hml]; rfl) (b := b17) (argsL := []) (rest := []) (lenOf own_pd3 rfl) rfl (by show 2 * 0 + _ ≤ _; exact Nat.le_of_eq rfl) (hb hby at_70) (by decide) (by decide)
      refine oS (u' := T20.setTop (mkF m 73 #[.val (.int p1), .val (.int p2), .val (.int p3), .val (.int (own_s p1)), .val (.int (own_lb p1 p3)), .val (.ref b17), .val (.int (0 : Int32))] [(.int (own_linear b17 (FP.i2d (own_s p1)) (FP.i2d (own_lb p1 p3))))])) st20 ?_
      refine oS (u' := T20.setTop (mkF m 75 #[.val (.int p1), .val (.int p2), .val (.int p3), .val (.int (own_s p1)), .val (.int (own_lb p1 p3)), .val (.ref b17), .val (.int (0 : Int32))] [(.int (0 : Int32)), (.int (own_linear b17 (FP.i2d (own_s p1)) (FP.i2d (own_lb p1 p3))))])) (fun _ kst => XS.iload X20.here hx rfl (hb hby at_73) rfl kst) ?_
      refine oS (u' := T20.setTop (mkF m 78 #[.val (.int p1), .val (.int p2), .val (.int p3), .val (.int (own_s p1)), .val (.int (own_lb p1 p3)), .val (.ref b17), .val (.int (0 : Int32))] [])) (fun _ kst => XS.icmpNo X20.here hx rfl (hb hby at_75) rfl (teq (own_lin_t _ (own_lb_in p1 p3) hc19)).2 kst) ?_
      refine oS (u' := T20.setTop (mkF m 79 #[.val (.int p1), .val (.int p2), .val (.int p3), .val (.int (own_s p1)), .val (.int (own_lb p1 p3)), .val (.ref b17), .val (.int (0 : Int32))] [(.int (1 : Int32))])) (fun _ kst => XS.iconst X20.here hx rfl (hb hby at_78) kst) ?_
      refine oS (u' := T20.setTop (mkF m 83 #[.val (.int p1), .val (.int p2), .val (.int p3), .val (.int (own_s p1)), .val (.int (own_lb p1 p3)), .val (.ref b17), .val (.int (0 : Int32))] [(.int (1 : Int32))])) (fun _ kst => XS.goto X20.here hx rfl (pc0 := 79) (pc' := 83) rfl (hb hby at_79) (by decide) (by decide) kst) ?_
      refine own_retN X20 hx hlk (t := .boolean) hret (by simp) (hb hby at_83) ?_ (by decide) (by decide)
      exact ⟨rfl, N18⟩
    · refine oS (u' := T18.setTop (mkF m 61 #[.val (.int p1), .val (.int p2), .val (.int p3), .val (.int (own_s p1)), .val (.int (own_lb p1 p3)), .val (.ref b17), .unset] [])) (fun _ kst => XS.icmpNo X18.here hx rfl (hb hby at_58) rfl (flt hc19).2.2.1 kst) ?_
      refine oS (u' := T18.setTop (mkF m 62 #[.val (.int p1), .val (.int p2), .val (.int p3), .val (.int (own_s p1)), .val (.int (own_lb p1 p3)), .val (.ref b17), .unset] [(.int (1 : Int32))])) (fun _ kst => XS.iconst X18.here hx rfl (hb hby at_61) kst) ?_
      refine oS (u' := T18.setTop (mkF m 66 #[.val (.int p1), .val (.int p2), .val (.int p3), .val (.int (own_s p1)), .val (.int (own_lb p1 p3)), .val (.ref b17), .unset] [(.int (1 : Int32))])) (fun _ kst => XS.goto X18.here hx rfl (pc0 := 62) (pc' := 66) rfl (hb hby at_62) (by decide) (by decide) kst) ?_
      refine oS (u' := T18.setTop (mkF m 68 #[.val (.int p1), .val (.int p2), .val (.int p3), .val (.int (own_s p1)), .val (.int (own_lb p1 p3)), .val (.ref b17), .val (.int (1 : Int32))] [])) (fun _ kst => XS.istore X18.here hx rfl (hb hby at_66) rfl (l' := #[.val (.int p1), .val (.int p2), .val (.int p3), .val (.int (own_s p1)), .val (.int (own_lb p1 p3)), .val (.ref b17), .val (.int (1 : Int32))]) rfl kst) ?_
      refine oS (u' := T18.setTop (mkF m 70 #[.val (.int p1), .val (.int p2), .val (.int p3), .val (.int (own_s p1)), .val (.int (own_lb p1 p3)), .val (.ref b17), .val (.int (1 : Int32))] [(.ref b17)])) (fun _ kst => XS.aload X18.here hx rfl (hb hby at_68) rfl rfl kst) ?_
      obtain ⟨T21, X21, e21, st21⟩ := own_callVP X18 hx hZ (y := (⟨"com/example/untwist_forms/untwistforms/bench/HostileBodies$Scaling", "linear", "()Z"⟩ : MethodName)) (z := (⟨"com/example/untwist_forms/untwistforms/bench/HostileBodies$Scaling", "linear", "()Z"⟩ : MethodName)) hown (hw _ (List.mem_of_getElem? (i := 20) rfl)) (hw _ (List.mem_of_getElem? (i := 21) rfl)) (notFace_of_selects (args := #[]) (mvT hZ (hw _ (List.mem_of_getElem? (i := 23) rfl)))) (hw _ (List.mem_of_getElem? (i := 23) rfl)) (hw _ (List.mem_of_getElem? (i := 22) rfl)) (by decide) rfl f18_E_b17 (W := 0) (own_rm_linear l Z a0 hw b17 (FP.i2d (own_s p1)) (FP.i2d (own_lb p1 p3)) T18.heap f18_E_b17 q18_0 q18_1 (own_lin2 p1 (own_lb_in p1 p3)).1) (hw _ (List.mem_of_getElem? (i := 24) rfl)) (hw _ (List.mem_of_getElem? (i := 4) rfl)) (by decide) (by decide) (g := (mkF m 70 #[.val (.int p1), .val (.int p2), .val (.int p3), .val (.int (own_s p1)), .val (.int (own_lb p1 p3)), .val (.ref b17), .val (.int (1 : Int32))] [(.ref b17)])) rfl (by rw [hml]; rfl) (b := b17) (argsL := []) (rest := []) (lenOf own_pd3 rfl) rfl (by show 2 * 0 + _ ≤ _; exact Nat.le_of_eq rfl) (hb hby at_70) (by decide) (by decide)
      refine oS (u' := T21.setTop (mkF m 73 #[.val (.int p1), .val (.int p2), .val (.int p3), .val (.int (own_s p1)), .val (.int (own_lb p1 p3)), .val (.ref b17), .val (.int (1 : Int32))] [(.int (own_linear b17 (FP.i2d (own_s p1)) (FP.i2d (own_lb p1 p3))))])) st21 ?_
      refine oS (u' := T21.setTop (mkF m 75 #[.val (.int p1), .val (.int p2), .val (.int p3), .val (.int (own_s p1)), .val (.int (own_lb p1 p3)), .val (.ref b17), .val (.int (1 : Int32))] [(.int (1 : Int32)), (.int (own_linear b17 (FP.i2d (own_s p1)) (FP.i2d (own_lb p1 p3))))])) (fun _ kst => XS.iload X21.here hx rfl (hb hby at_73) rfl kst) ?_
      refine oS (u' := T21.setTop (mkF m 78 #[.val (.int p1), .val (.int p2), .val (.int p3), .val (.int (own_s p1)), .val (.int (own_lb p1 p3)), .val (.ref b17), .val (.int (1 : Int32))] [])) (fun _ kst => XS.icmpNo X21.here hx rfl (hb hby at_75) rfl (teq (own_lin_f _ (own_lb_in p1 p3) hc19)).2 kst) ?_
      refine oS (u' := T21.setTop (mkF m 79 #[.val (.int p1), .val (.int p2), .val (.int p3), .val (.int (own_s p1)), .val (.int (own_lb p1 p3)), .val (.ref b17), .val (.int (1 : Int32))] [(.int (1 : Int32))])) (fun _ kst => XS.iconst X21.here hx rfl (hb hby at_78) kst) ?_
      refine oS (u' := T21.setTop (mkF m 83 #[.val (.int p1), .val (.int p2), .val (.int p3), .val (.int (own_s p1)), .val (.int (own_lb p1 p3)), .val (.ref b17), .val (.int (1 : Int32))] [(.int (1 : Int32))])) (fun _ kst => XS.goto X21.here hx rfl (pc0 := 79) (pc' := 83) rfl (hb hby at_79) (by decide) (by decide) kst) ?_
      refine own_retN X21 hx hlk (t := .boolean) hret (by simp) (hb hby at_83) ?_ (by decide) (by decide)
      exact ⟨rfl, N18⟩
set_option maxRecDepth 65536 in
set_option maxHeartbeats 40000000 in
theorem comes_1 {Post : Tables → Env → Array Value → State → Outcome → State → Prop} (hpost : ∀ tb e args s v u, (limb_1_1.after args s (.returned v) u = true ∧ limb_1_2.after args s (.returned v) u = true ∧ True) → FrameEnd s (.returned v) u (Jvm.fieldLocs frame_1_writes args s ++ Jvm.arrayLocs frame_1_arrays args s ++ Jvm.staticLocs frame_1_statics s) 16 128 → Post tb e args s (.returned v) u) :
    ArmFor flags0 classFile x code maxLocals ret World_1 tables_1 room_1 Calls_1 rest_1 Pre_1 Post := by
  intro l hfl _ _ p e ha hc hk s m args below hf hA hF happ hP
  obtain ⟨hcalls, hrest, hpre⟩ := hP
  obtain ⟨-, -, -, hnamed, -, -, -, hat⟩ := (Spec.applies_iff hf).mp happ
  obtain ⟨hg, hn⟩ := and_e (Cond.before_iff.mp (show (Jvm.Cond.and given_1 narrow_1).before args s = true from hpre))
  obtain ⟨g0, gg0⟩ := and_e hg
  obtain ⟨g1, gg1⟩ := and_e gg0
  obtain ⟨g2, gg2⟩ := and_e gg1
  obtain ⟨w0, w1, w2, rfl⟩ : ∃ w0 w1 w2 : Value, args = #[w0, w1, w2] := by
    have hs : args.size = 3 := by simpa [Cond.value, given_1] using g0
    obtain ⟨L⟩ := args
    match L, hs with
    | [w0, w1, w2], _ => exact ⟨w0, w1, w2, rfl⟩
  have hw := fun d (hd : d ∈ tables_1) => atoms_spec (ws := Jvm.Cond.code x code maxLocals ret :: tables_1) hat d (List.mem_cons_of_mem _ hd)
  have hfit : Fit s := fun {y c} hc i hi => by
    obtain ⟨ha, rfl⟩ := Array.getElem?_eq_some_iff.mp hc
    have q := List.all_eq_true.mp ((Array.all_eq_true_iff_forall_mem.mp hF) _ (Array.getElem_mem ha)) i (List.mem_range.mpr hi)
    simpa [Array.getElem?_eq_getElem hi] using q
  obtain ⟨i0, ei0⟩ := is_v g1
  obtain rfl : w0 = (.int i0) := Option.some.inj ei0
  obtain ⟨i1, ei1⟩ := is_v g2
  obtain rfl : w1 = (.int i1) := Option.some.inj ei1
  obtain ⟨i2, ei2⟩ := is_v gg2
  obtain rfl : w2 = (.int i2) := Option.some.inj ei2
  obtain ⟨n, o, h1, h2, h3, _, L, rfl, ⟨rfl, N⟩, hq⟩ := own_law l s _ hw i0 i1 i2 s.heap s.heap.size (Nat.le_refl _) p e ha hc hk s m _ below hf ((Spec.applies_iff_loose hf).mp happ).1 ⟨rfl, State.Warmed39.refl s, rfl⟩ trivial
  refine ⟨n, _, h1, h2, h3, hpost _ _ _ _ _ _ ⟨Cond.after_iff.mpr rfl, Cond.after_iff.mpr (eq_i res_at (Term.int_eval (1)) rfl), trivial⟩ ⟨hq.1, hq.2.1, (hq.2.2.sift fun y hy => Or.inr (N y hy)).mono (by decide) (by decide)⟩⟩
theorem main_1_1 : Claimed_1_1 := comes_1 fun _ _ _ _ _ _ h hF => ⟨h.1, hF⟩
theorem main_1_2 : Claimed_1_2 := comes_1 fun _ _ _ _ _ _ h hF => ⟨h.2.1, hF⟩
end Jvm.Pilot.@@N@@
namespace Jvm.Pilot.@@N@@
open Jvm Jvm.ClassFile Sem Op Lib Jvm.Free Jvm.Stand Jvm.Pilot.@@N@@.Jvm.D
/-! MADE BY PROGRAM (witnessworld.py) out of the Statement's table words and the real class files: 11 classes; the members and pool entries that the words name. The judged class is class 1, her method 1. -/
namespace start1
open Jvm.ClassFile
def u (s : String) : CpInfo := .utf8 (stringToUtf16 s)
/-- a pool by its gaps: so many unusable entries, then the entry; so many at the end -/
def gap : Nat → List CpInfo → List CpInfo
  | 0, r => r
  | n + 1, r => .unusable :: gap n r
def poolList (es : List (Nat × CpInfo)) (last : Nat) : List CpInfo := es.foldr (fun e r => gap e.1 (e.2 :: r)) (gap last [])
def pool (es : List (Nat × CpInfo)) (last : Nat) : Array CpInfo := ⟨poolList es last⟩
def fileOf (pool : Array CpInfo) (this : Nat) (attrs : Array Attribute := #[]) (ms : Array MethodInfo := #[]) (fl : Nat := 33) (sup : Nat := 0) (ifs : Array Nat := #[]) (fds : Array FieldInfo := #[]) : ClassFile where
  minorVersion := 0
  majorVersion := 65
  constantPool := pool
  accessFlags := fl
  thisClass := this
  superClass := sup
  interfaces := ifs
  fields := fds
  methods := ms
  attributes := attrs
def plain (name : String) (sup : Option ClassId) : Class where
  name := name
  kind := .ordinary
  loader := none
  accessFlags := 33
  super := sup
  interfaces := #[]
  cf := none
  fields := #[]
  methods := #[]
  instanceTypes := #[]
  staticTypes := #[]
  resolved := #[]
  callSites := []
  init := .initialized
  statics := none
  mirror := none

def pool0 : Array CpInfo := pool [(5, u "<init>"), (0, u "()V"), (1, .class_ 10), (1, u "java/lang/Object")] 113

def k0c0 : Code := { maxStack := 0, maxLocals := 1, code := object_method_1_code, exceptionTable := #[], attributes := #[] }
def k0m0 : Method := { name := "<init>", desc := "()V", sig := { parameters := [], returnType := none }, accessFlags := 1, code := some k0c0 }
/-- java/lang/Object -/
def k0 : Class := { plain "java/lang/Object" none with
  accessFlags := 33
  interfaces := #[]
  cf := some (fileOf pool0 8 #[] #[{ accessFlags := 1, nameIndex := 5, descriptorIndex := 6, attributes := #[] }] 33 0 #[] #[])
  fields := #[]
  methods := #[k0m0]
  instanceTypes := #[]
  staticTypes := #[]
  resolved := Array.replicate 124 none
  statics := none }

def pool1 : Array CpInfo := pool [(2, .class_ 4), (1, u "java/lang/Object"), (0, u "<init>"), (0, u "()V"), (0, .integer 1048575), (0, .methodref 9 10), (0, .class_ 11), (0, .nameAndType 12 13), (0, u "java/lang/Math"), (0, u "max"), (0, u "(II)I"), (0, .integer 4194303), (0, .class_ 16), (0, u "com/example/untwist_forms/untwistforms/bench/HostileBodies$Scaling"), (0, .methodref 15 18), (0, .nameAndType 5 19), (0, u "(DD)V"), (0, .methodref 15 21), (0, .nameAndType 22 23), (0, u "linear"), (0, u "()Z"), (0, .class_ 25), (0, u "com/example/untwist_forms/untwistforms/bench/ScalingLinearPinLaw"), (2, u "law"), (0, u "(III)Z")] 7

def k1m0 : Method := { name := "<init>", desc := "()V", sig := { parameters := [], returnType := none }, accessFlags := 2, code := none }
def k1c1 : Code := { maxStack := 6, maxLocals := 7, code := code, exceptionTable := #[], attributes := #[] }
def k1m1 : Method := { name := "law", desc := "(III)Z", sig := { parameters := [.int, .int, .int], returnType := some .boolean }, accessFlags := 9, code := some k1c1 }
/-- com/example/untwist_forms/untwistforms/bench/ScalingLinearPinLaw -/
def k1 : Class := { plain "com/example/untwist_forms/untwistforms/bench/ScalingLinearPinLaw" (some 0) with
  accessFlags := 49
  interfaces := #[]
  cf := some (fileOf pool1 24 #[] #[{ accessFlags := 2, nameIndex := 5, descriptorIndex := 6, attributes := #[] }, { accessFlags := 9, nameIndex := 28, descriptorIndex := 29, attributes := #[] }] 49 2 #[] #[])
  fields := #[]
  methods := #[k1m0, k1m1]
  instanceTypes := #[]
  staticTypes := #[]
  resolved := Array.replicate 37 none
  statics := none }

def pool2 : Array CpInfo := pool [(1, .methodref 2 3), (0, .class_ 4), (0, .nameAndType 5 6), (0, u "java/lang/Object"), (0, u "<init>"), (0, u "()V"), (0, .class_ 8), (0, u "java/lang/Record")] 13

def k2c0 : Code := { maxStack := 1, maxLocals := 1, code := jdk_30_method_1_code, exceptionTable := #[], attributes := #[] }
def k2m0 : Method := { name := "<init>", desc := "()V", sig := { parameters := [], returnType := none }, accessFlags := 4, code := some k2c0 }
/-- java/lang/Record -/
def k2 : Class := { plain "java/lang/Record" (some 0) with
  accessFlags := 1057
  interfaces := #[]
  cf := some (fileOf pool2 7 #[] #[{ accessFlags := 4, nameIndex := 5, descriptorIndex := 6, attributes := #[] }] 1057 2 #[] #[])
  fields := #[]
  methods := #[k2m0]
  instanceTypes := #[]
  staticTypes := #[]
  resolved := Array.replicate 22 none
  statics := none }

def pool3 : Array CpInfo := pool [(1, .class_ 2), (0, u "com/example/untwist_forms/untwistforms/bench/HostileBodies"), (0, .methodref 4 5), (0, .class_ 6), (0, .nameAndType 7 8), (0, u "java/lang/Record"), (0, u "<init>"), (0, u "()V"), (0, .fieldref 10 11), (0, .class_ 12), (0, .nameAndType 13 14), (0, u "com/example/untwist_forms/untwistforms/bench/HostileBodies$Scaling"), (0, u "small"), (0, u "D"), (0, .fieldref 10 16), (0, .nameAndType 17 14), (0, u "large"), (0, .methodref 10 19), (0, .nameAndType 20 21), (0, u "ratio"), (0, u "()D"), (0, .double 4613937818241073152), (50, u "(DD)V"), (3, u "linear"), (0, u "()Z")] 29

def k3c0 : Code := { maxStack := 3, maxLocals := 5, code := prog_11_method_1_code, exceptionTable := #[], attributes := #[] }
def k3m0 : Method := { name := "<init>", desc := "(DD)V", sig := { parameters := [.double, .double], returnType := none }, accessFlags := 0, code := some k3c0 }
def k3c1 : Code := { maxStack := 4, maxLocals := 1, code := prog_11_method_2_code, exceptionTable := #[], attributes := #[] }
def k3m1 : Method := { name := "ratio", desc := "()D", sig := { parameters := [], returnType := some .double }, accessFlags := 0, code := some k3c1 }
def k3c2 : Code := { maxStack := 4, maxLocals := 1, code := prog_11_method_3_code, exceptionTable := #[], attributes := #[] }
def k3m2 : Method := { name := "linear", desc := "()Z", sig := { parameters := [], returnType := some .boolean }, accessFlags := 0, code := some k3c2 }
/-- com/example/untwist_forms/untwistforms/bench/HostileBodies$Scaling -/
def k3 : Class := { plain "com/example/untwist_forms/untwistforms/bench/HostileBodies$Scaling" (some 2) with
  accessFlags := 48
  interfaces := #[]
  cf := some (fileOf pool3 10 #[.nestHost 1] #[{ accessFlags := 0, nameIndex := 7, descriptorIndex := 73, attributes := #[] }, { accessFlags := 0, nameIndex := 20, descriptorIndex := 21, attributes := #[] }, { accessFlags := 0, nameIndex := 77, descriptorIndex := 78, attributes := #[] }] 48 4 #[] #[{ accessFlags := 18, nameIndex := 13, descriptorIndex := 14, attributes := #[] }, { accessFlags := 18, nameIndex := 17, descriptorIndex := 14, attributes := #[] }])
  fields := #[{ name := "small", type := .double, accessFlags := 18, slot := 0, constantValue := 0 }, { name := "large", type := .double, accessFlags := 18, slot := 1, constantValue := 0 }]
  methods := #[k3m0, k3m1, k3m2]
  instanceTypes := #[.double, .double]
  staticTypes := #[]
  resolved := Array.replicate 108 none
  statics := none }

def pool4 : Array CpInfo := pool [(1, .class_ 2), (0, u "java/lang/Math"), (1, .class_ 6), (1, u "java/lang/Object"), (0, u "<init>"), (0, u "()V"), (89, .class_ 100), (1, u "java/lang/Math$RandomNumberGeneratorHolder"), (71, u "negativeZeroFloatBits"), (0, u "J"), (2, u "negativeZeroDoubleBits"), (21, u "max"), (46, u "$assertionsDisabled"), (0, u "Z"), (88, u "(II)I"), (2, u "twoToTheDoubleScaleDown"), (0, u "D"), (4, u "twoToTheDoubleScaleUp"), (9, u "E"), (3, u "PI"), (2, u "TAU"), (2, u "DEGREES_TO_RADIANS"), (0, u "RADIANS_TO_DEGREES")] 94

def k4m0 : Method := { name := "<init>", desc := "()V", sig := { parameters := [], returnType := none }, accessFlags := 2, code := none }
def k4c1 : Code := { maxStack := 2, maxLocals := 2, code := jdk_29_method_65_code, exceptionTable := #[], attributes := #[] }
def k4m1 : Method := { name := "max", desc := "(II)I", sig := { parameters := [.int, .int], returnType := some .int }, accessFlags := 9, code := some k4c1 }
/-- java/lang/Math -/
def k4 : Class := { plain "java/lang/Math" (some 0) with
  accessFlags := 49
  interfaces := #[]
  cf := some (fileOf pool4 1 #[.nestMembers #[98]] #[{ accessFlags := 2, nameIndex := 7, descriptorIndex := 8, attributes := #[] }, { accessFlags := 9, nameIndex := 198, descriptorIndex := 335, attributes := #[] }] 49 4 #[] #[{ accessFlags := 25, nameIndex := 354, descriptorIndex := 339, attributes := #[] }, { accessFlags := 25, nameIndex := 358, descriptorIndex := 339, attributes := #[] }, { accessFlags := 25, nameIndex := 361, descriptorIndex := 339, attributes := #[] }, { accessFlags := 26, nameIndex := 364, descriptorIndex := 339, attributes := #[] }, { accessFlags := 26, nameIndex := 365, descriptorIndex := 339, attributes := #[] }, { accessFlags := 26, nameIndex := 172, descriptorIndex := 173, attributes := #[] }, { accessFlags := 26, nameIndex := 176, descriptorIndex := 173, attributes := #[] }, { accessFlags := 8, nameIndex := 344, descriptorIndex := 339, attributes := #[] }, { accessFlags := 8, nameIndex := 338, descriptorIndex := 339, attributes := #[] }, { accessFlags := 4120, nameIndex := 245, descriptorIndex := 246, attributes := #[] }])
  fields := #[{ name := "E", type := .double, accessFlags := 25, slot := 0, constantValue := 0 }, { name := "PI", type := .double, accessFlags := 25, slot := 1, constantValue := 0 }, { name := "TAU", type := .double, accessFlags := 25, slot := 2, constantValue := 0 }, { name := "DEGREES_TO_RADIANS", type := .double, accessFlags := 26, slot := 3, constantValue := 0 }, { name := "RADIANS_TO_DEGREES", type := .double, accessFlags := 26, slot := 4, constantValue := 0 }, { name := "negativeZeroFloatBits", type := .long, accessFlags := 26, slot := 5, constantValue := 0 }, { name := "negativeZeroDoubleBits", type := .long, accessFlags := 26, slot := 6, constantValue := 0 }, { name := "twoToTheDoubleScaleUp", type := .double, accessFlags := 8, slot := 7, constantValue := 0 }, { name := "twoToTheDoubleScaleDown", type := .double, accessFlags := 8, slot := 8, constantValue := 0 }, { name := "$assertionsDisabled", type := .boolean, accessFlags := 4120, slot := 9, constantValue := 0 }]
  methods := #[k4m0, k4m1]
  instanceTypes := #[]
  staticTypes := #[.double, .double, .double, .double, .double, .long, .long, .double, .double, .boolean]
  resolved := Array.replicate 460 none
  statics := none }

def pool5 : Array CpInfo := pool [(1, u "java/lang/Cloneable"), (0, .class_ 1), (0, u "java/lang/Object"), (0, .class_ 3)] 3

/-- java/lang/Cloneable -/
def k5 : Class := { plain "java/lang/Cloneable" (some 0) with
  accessFlags := 1537
  interfaces := #[]
  cf := some (fileOf pool5 2 #[] #[] 1537 4 #[] #[])
  fields := #[]
  methods := #[]
  instanceTypes := #[]
  staticTypes := #[]
  resolved := Array.replicate 8 none
  statics := none }

def pool6 : Array CpInfo := pool [(1, u "java/io/Serializable"), (0, .class_ 1), (0, u "java/lang/Object"), (0, .class_ 3)] 3

/-- java/io/Serializable -/
def k6 : Class := { plain "java/io/Serializable" (some 0) with
  accessFlags := 1537
  interfaces := #[]
  cf := some (fileOf pool6 2 #[] #[] 1537 4 #[] #[])
  fields := #[]
  methods := #[]
  instanceTypes := #[]
  staticTypes := #[]
  resolved := Array.replicate 8 none
  statics := none }

/-- the primitive byte -/
def k7 : Class := { plain "byte" none with kind := .primitive 'B', accessFlags := 0x411 }
/-- [B -/
def k8 : Class := { plain "[B" (some 0) with kind := .array 7 .byte, interfaces := #[5, 6], accessFlags := 1041 }

/-- the primitive int -/
def k9 : Class := { plain "int" none with kind := .primitive 'I', accessFlags := 0x411 }
/-- [I -/
def k10 : Class := { plain "[I" (some 0) with kind := .array 9 .int, interfaces := #[5, 6], accessFlags := 1041 }

def heap : Heap := #[]
def classes : Array Class := #[k0, k1, k2, k3, k4, k5, k6, k7, k8, k9, k10]
def interned : List (Array UInt16 × Addr) := []
def slotsUsed : Nat := 0
def theMethod : MethodId := ⟨1, 1⟩
def args0 : Array Value := #[.int 5, .int 6, .int 7]
def aboutOver (below : List Frame) : State where
  vm := { classes := classes, interned := interned.toArray }
  heap := heap
  slotsUsed := slotsUsed
  threads := #[{ frames := .invoking theMethod args0 :: below }]
def below0 : List Frame := [.native { method := ⟨0, 0⟩, args := #[] }]
def about1 : State := aboutOver below0
def p0 : Program := .bare "" "" ""
def e0 : Env := launch0.env 0 0 0
theorem w_frames : about1.frames = Frame.invoking theMethod args0 :: below0 := rfl
set_option maxRecDepth 65536 in
theorem w_args : argsFit about1.vm theMethod args0 = true := by decide +kernel
set_option maxRecDepth 65536 in
theorem w_heap : heapFits about1 = true := by decide +kernel
set_option maxRecDepth 65536 in
theorem w_runnable : about1.curStatus? = some .runnable := by decide +kernel
set_option maxRecDepth 65536 in
theorem w_alone : about1.alone = true := by decide +kernel
set_option maxRecDepth 65536 in
theorem w_named : about1.methodNamed? x = some theMethod := by decide +kernel
set_option maxRecDepth 65536 in
theorem w_hears : about1.hears theMethod below0 = true := by decide +kernel
set_option maxRecDepth 65536 in
theorem w_ripe : about1.ripe theMethod args0 below0 = true := by decide +kernel
theorem w_running : about1.status = .running := rfl
set_option maxRecDepth 65536 in
theorem w_room : about1.hasRoom e0.platform room_1 = true :=
  launch0.hasRoom_least _ room_1 (by decide +kernel) (by decide +kernel) (by decide +kernel) (by decide +kernel) (by decide +kernel) (by decide +kernel)
theorem allAtoms_all (ts : List Jvm.Cond) (a : Array Jvm.Value) (st : Jvm.State) : (allAtoms ts).before a st = ts.all (fun c => c.before a st) := by
  induction ts with
  | nil => rfl
  | cons c t ih =>
    show (Jvm.Cond.and c (allAtoms t)).before a st = _
    rw [Jvm.Cond.before_and, ih, List.all_cons]
def words1 : List Jvm.Cond := Jvm.Cond.code x code maxLocals ret :: tables_1
/-- a 'code' word, met by the world's own term for the bytes: nothing is compared byte by byte -/
theorem code_word {y : MethodName} {bytes : ByteArray} {mx : Nat} {rt : Option FieldType} {a : Array Value} {s : State} {m : MethodId} {meth : Method} {c : Code} (h1 : s.methodNamed? y = some m) (h2 : s.vm.method? m = some meth) (h3 : meth.code = some c) (h4 : c.code = bytes)
    (h5 : (c.maxLocals == mx && c.exceptionTable.isEmpty && decide (c.maxStack ≤ mostOperands) && decide (meth.sig.returnType = rt) && !meth.locks && decide (parseMethodDescriptor y.desc = some meth.sig)) = true) : (Jvm.Cond.code y bytes mx rt).before a s = true := by
  simp only [Bool.and_eq_true, beq_iff_eq, Bool.not_eq_true', decide_eq_true_eq] at h5
  obtain ⟨⟨⟨⟨⟨g1, g2⟩, g3⟩, g4⟩, g5⟩, g6⟩ := h5
  simp [Cond.before, Cond.holds, Cond.value, h1, h2, h3, h4, g1, g2, g3, g4, g5, g6]
def isCode : Jvm.Cond → Bool
  | .code _ _ _ _ => true
  | _ => false
theorem all_split {L : List Jvm.Cond} {P : Jvm.Cond → Bool} (h1 : L.all (fun c => isCode c || P c) = true) (h2 : ∀ c ∈ L.filter isCode, P c = true) : L.all P = true := by
  refine List.all_eq_true.mpr fun c hc => ?_
  have h := List.all_eq_true.mp h1 c hc
  rcases Bool.eq_false_or_eq_true (isCode c) with hi | hi
  · exact h2 c (List.mem_filter.mpr ⟨hc, hi⟩)
  · simpa [hi] using h
set_option maxRecDepth 65536 in
theorem w_c0 : (Jvm.Cond.code x code maxLocals ret).before args0 about1 = true := code_word (m := ⟨1, 1⟩) (meth := k1m1) (c := k1c1) (by decide +kernel) rfl rfl rfl (by decide +kernel)
set_option maxRecDepth 65536 in
theorem w_c1 : (Jvm.Cond.code ({ cls := "com/example/untwist_forms/untwistforms/bench/HostileBodies$Scaling", name := "<init>", desc := "(DD)V" } : Jvm.MethodName) prog_11_method_1_code (5 : Nat) (Option.none : Option Jvm.ClassFile.FieldType)).before args0 about1 = true := code_word (m := ⟨3, 0⟩) (meth := k3m0) (c := k3c0) (by decide +kernel) rfl rfl rfl (by decide +kernel)
set_option maxRecDepth 65536 in
theorem w_c2 : (Jvm.Cond.code ({ cls := "java/lang/Record", name := "<init>", desc := "()V" } : Jvm.MethodName) jdk_30_method_1_code (1 : Nat) (Option.none : Option Jvm.ClassFile.FieldType)).before args0 about1 = true := code_word (m := ⟨2, 0⟩) (meth := k2m0) (c := k2c0) (by decide +kernel) rfl rfl rfl (by decide +kernel)
set_option maxRecDepth 65536 in
theorem w_c3 : (Jvm.Cond.code ({ cls := "java/lang/Object", name := "<init>", desc := "()V" } : Jvm.MethodName) object_method_1_code (1 : Nat) (Option.none : Option Jvm.ClassFile.FieldType)).before args0 about1 = true := code_word (m := ⟨0, 0⟩) (meth := k0m0) (c := k0c0) (by decide +kernel) rfl rfl rfl (by decide +kernel)
set_option maxRecDepth 65536 in
theorem w_c4 : (Jvm.Cond.code ({ cls := "com/example/untwist_forms/untwistforms/bench/HostileBodies$Scaling", name := "linear", desc := "()Z" } : Jvm.MethodName) prog_11_method_3_code (1 : Nat) (Option.some Jvm.ClassFile.FieldType.boolean)).before args0 about1 = true := code_word (m := ⟨3, 2⟩) (meth := k3m2) (c := k3c2) (by decide +kernel) rfl rfl rfl (by decide +kernel)
set_option maxRecDepth 65536 in
theorem w_c5 : (Jvm.Cond.code ({ cls := "com/example/untwist_forms/untwistforms/bench/HostileBodies$Scaling", name := "ratio", desc := "()D" } : Jvm.MethodName) prog_11_method_2_code (1 : Nat) (Option.some Jvm.ClassFile.FieldType.double)).before args0 about1 = true := code_word (m := ⟨3, 1⟩) (meth := k3m1) (c := k3c1) (by decide +kernel) rfl rfl rfl (by decide +kernel)
set_option maxRecDepth 65536 in
theorem w_c6 : (Jvm.Cond.code ({ cls := "java/lang/Math", name := "max", desc := "(II)I" } : Jvm.MethodName) jdk_29_method_65_code (2 : Nat) (Option.some Jvm.ClassFile.FieldType.int)).before args0 about1 = true := code_word (m := ⟨4, 1⟩) (meth := k4m1) (c := k4c1) (by decide +kernel) rfl rfl rfl (by decide +kernel)
def codes1 : List Jvm.Cond := [Jvm.Cond.code x code maxLocals ret, Jvm.Cond.code ({ cls := "com/example/untwist_forms/untwistforms/bench/HostileBodies$Scaling", name := "<init>", desc := "(DD)V" } : Jvm.MethodName) prog_11_method_1_code (5 : Nat) (Option.none : Option Jvm.ClassFile.FieldType), Jvm.Cond.code ({ cls := "java/lang/Record", name := "<init>", desc := "()V" } : Jvm.MethodName) jdk_30_method_1_code (1 : Nat) (Option.none : Option Jvm.ClassFile.FieldType), Jvm.Cond.code ({ cls := "java/lang/Object", name := "<init>", desc := "()V" } : Jvm.MethodName) object_method_1_code (1 : Nat) (Option.none : Option Jvm.ClassFile.FieldType), Jvm.Cond.code ({ cls := "com/example/untwist_forms/untwistforms/bench/HostileBodies$Scaling", name := "linear", desc := "()Z" } : Jvm.MethodName) prog_11_method_3_code (1 : Nat) (Option.some Jvm.ClassFile.FieldType.boolean), Jvm.Cond.code ({ cls := "com/example/untwist_forms/untwistforms/bench/HostileBodies$Scaling", name := "ratio", desc := "()D" } : Jvm.MethodName) prog_11_method_2_code (1 : Nat) (Option.some Jvm.ClassFile.FieldType.double), Jvm.Cond.code ({ cls := "java/lang/Math", name := "max", desc := "(II)I" } : Jvm.MethodName) jdk_29_method_65_code (2 : Nat) (Option.some Jvm.ClassFile.FieldType.int)]
set_option maxRecDepth 65536 in
theorem codes_eq : words1.filter isCode = codes1 := rfl
theorem w_codes : ∀ c ∈ words1.filter isCode, c.before args0 about1 = true := by
  rw [codes_eq]
  intro c hc
  simp only [codes1, List.mem_cons, List.not_mem_nil, or_false] at hc
  rcases hc with rfl | rfl | rfl | rfl | rfl | rfl | rfl
  · exact w_c0
  · exact w_c1
  · exact w_c2
  · exact w_c3
  · exact w_c4
  · exact w_c5
  · exact w_c6
set_option maxRecDepth 65536 in
theorem w_t1 : (words1.take 24).all (fun c => isCode c || c.before args0 about1) = true := by decide +kernel
set_option maxRecDepth 65536 in
theorem w_t2 : (words1.drop 24).all (fun c => isCode c || c.before args0 about1) = true := by decide +kernel
theorem w_tables : (allAtoms (Jvm.Cond.code x code maxLocals ret :: tables_1)).before args0 about1 = true := by
  rw [allAtoms_all]
  show words1.all (fun c => c.before args0 about1) = true
  refine all_split ?_ w_codes
  rw [← List.take_append_drop 24 words1, List.all_append, w_t1, w_t2]
  rfl
set_option maxRecDepth 65536 in
theorem w_case : (Jvm.Cond.and given_1 narrow_1).before args0 about1 = true := by decide +kernel
theorem w_applies : (headSpec (Jvm.Cond.code x code maxLocals ret :: tables_1) room_1).applies x e0.platform about1 = true :=
  (Spec.applies_iff w_frames).mpr ⟨w_running, w_runnable, w_alone, w_named, w_hears, w_ripe, w_room, w_tables⟩
theorem atStart : AtStart classFile x code maxLocals ret World_1 tables_1 room_1 Calls_1 rest_1 Pre_1 launch0 p0 e0 about1 theMethod args0 below0 :=
  ⟨lists_1, trivial, launch0.admits_env _ _ _, launch0.least_env, fairChoices_fair.cas, fairChoices_fair.clock, w_frames, w_args, w_heap, w_applies, trivial, trivial, w_case⟩
end start1
theorem witness_1 : WitnessClaimed_1 := ⟨start1.p0, start1.e0, start1.about1, start1.theMethod, start1.args0, start1.below0, start1.atStart⟩
end Jvm.Pilot.@@N@@
