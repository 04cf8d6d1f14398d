import JvmDerived
import JvmDerived.Pilot.@@N@@Statement
import JvmDerived.Pilot.@@N@@Code
set_option linter.unusedVariables false
set_option linter.unusedSimpArgs false
@@BLOCK:NumsL.lean.txt@@
namespace Jvm.Pilot.@@N@@
open Jvm Jvm.ClassFile Sem Op Lib Jvm.Free Jvm.Stand Jvm.LawKit Jvm.RoadKit Bundle Jvm.Pilot.@@N@@.Jvm.D
/-- Java's x >>> y on longs -/
def own_uL (x : Int64) (y : Int32) : Int64 := (x.toUInt64 >>> (y &&& 63).toInt64.toUInt64).toInt64
section Own
variable {p : Program} {l : Launch} {e : Env} {R : Room} {s : State} {m : MethodId} {args : Array Value} {below : List Frame} {meth : Method} {c : Code} {T : State} {locs : List Loc} {cells slots : Nat}
variable {ck sk : Nat} {Q : Option Value → Heap → List Loc → Prop}
/-- the run from u comes to the method's return, and Q holds there -/
def oF (p : Program) (e : Env) (below : List Frame) (s : State) (ck sk : Nat) (Q : Option Value → Heap → List Loc → Prop) (u : State) : Prop :=
  ∃ t o, Steps p.tables e below u t ∧ t.status = .running ∧ Ended t below o ∧ ∃ v L, o = .returned v ∧ Q v t.heap L ∧ FrameEnd s o t L ck sk
theorem oS {u u' : State} (h : ∀ t, Steps p.tables e below u' t → Steps p.tables e below u t) (k : oF p e below s ck sk Q u') : oF p e below s ck sk Q u := by
  obtain ⟨t, o, h1, r⟩ := k
  exact ⟨t, o, h t h1, r⟩
theorem oC {u : State} (X : Stand p l e R s m args below meth c T locs cells slots) {h : Heap} (E : T.heap = h) {f : JFrame}
    (rest : ∀ Tc, Stand p l e R s m args below meth c Tc locs cells slots → Tc.heap = h → oF p e below s ck sk Q (Tc.setTop f))
    (k : (∀ Tc, Stand p l e R s m args below meth c Tc locs cells slots → Tc.heap = h → oF p e below s ck sk Q (Tc.setTop f)) → oF p e below s ck sk Q u) : oF p e below s ck sk Q u := k rest
theorem oCA {u : State} (X : Stand p l e R s m args below meth c T locs cells slots) {h : Heap} (E : T.heap = h) {f : Addr → JFrame}
    (rest : ∀ z Tc, Stand p l e R s m args below meth c Tc locs cells slots → Tc.heap = h → oF p e below s ck sk Q (Tc.setTop (f z)))
    (k : (∀ z Tc, Stand p l e R s m args below meth c Tc locs cells slots → Tc.heap = h → oF p e below s ck sk Q (Tc.setTop (f z))) → oF p e below s ck sk Q u) : oF p e below s ck sk Q u := k rest
theorem own_ret (X : Stand p l e R s m args below meth c T locs cells slots) (hlk : meth.locks = false) {v : Option Value} (hv : meth.sig.returnType = none → v = none) {g : JFrame}
    (st : ∀ fs, (∀ (f : JFrame) (acts : List Action), f.method = m → f.locked = none → f.entered = [] → (doReturn e (T.setTop f) acts v).1 = T.setFrames fs) → Steps p.tables e below (T.setTop g) (T.setFrames fs))
    (hQ : Q v T.heap locs) (hc : cells ≤ ck) (hs : slots ≤ sk) : oF p e below s ck sk Q (T.setTop g) := by
  obtain ⟨fs, hr, hrun, hended, hW, hsame⟩ := X.leave (v := v) hv hlk
  exact ⟨_, _, st fs hr, hrun, hended, v, locs, rfl, hQ, ⟨_, rfl⟩, hW, hsame.mono hc hs⟩
theorem own_retI (X : Stand p l e R s m args below meth c T locs cells slots) (hx : p.tables.exec = Jvm.exec) (hlk : meth.locks = false) {pc : Nat} {Ls : Array Slot} {z : Int32} {rest : List Value} (hret : meth.sig.returnType = some .int)
    (hd : decode c.code pc = .ok (.ireturn, 1)) (hQ : Q (some (.int z)) T.heap locs) (hc : cells ≤ ck) (hs : slots ≤ sk) : oF p e below s ck sk Q (T.setTop (mkF m pc Ls (.int z :: rest))) :=
  own_ret X hlk (fun h => by rw [hret] at h; cases h) (fun fs hl => retOut X hx hret rfl (Or.inl ⟨rfl, Or.inl rfl, _, rfl⟩) hd hl) hQ hc hs
theorem own_retJ (X : Stand p l e R s m args below meth c T locs cells slots) (hx : p.tables.exec = Jvm.exec) (hlk : meth.locks = false) {pc : Nat} {Ls : Array Slot} {z : Int64} {rest : List Value} (hret : meth.sig.returnType = some .long)
    (hd : decode c.code pc = .ok (.lreturn, 1)) (hQ : Q (some (.long z)) T.heap locs) (hc : cells ≤ ck) (hs : slots ≤ sk) : oF p e below s ck sk Q (T.setTop (mkF m pc Ls (.long z :: rest))) :=
  own_ret X hlk (fun h => by rw [hret] at h; cases h) (fun fs hl => retOut X hx hret rfl (Or.inr (Or.inl ⟨rfl, rfl, _, rfl⟩)) hd hl) hQ hc hs
theorem own_retD (X : Stand p l e R s m args below meth c T locs cells slots) (hx : p.tables.exec = Jvm.exec) (hlk : meth.locks = false) {pc : Nat} {Ls : Array Slot} {z : UInt64} {rest : List Value} (hret : meth.sig.returnType = some .double)
    (hd : decode c.code pc = .ok (.dreturn, 1)) (hQ : Q (some (.double z)) T.heap locs) (hc : cells ≤ ck) (hs : slots ≤ sk) : oF p e below s ck sk Q (T.setTop (mkF m pc Ls (.double z :: rest))) :=
  own_ret X hlk (fun h => by rw [hret] at h; cases h) (fun fs hl => retOut X hx hret rfl (Or.inr (Or.inr (Or.inl ⟨rfl, rfl, _, rfl⟩))) hd hl) hQ hc hs
theorem own_retA (X : Stand p l e R s m args below meth c T locs cells slots) (hx : p.tables.exec = Jvm.exec) (hlk : meth.locks = false) {pc : Nat} {Ls : Array Slot} {w : Value} {t : FieldType} {rest : List Value} (hret : meth.sig.returnType = some t) (ht : t.isReference = true) (hr : w.isRef = true)
    (hd : decode c.code pc = .ok (.areturn, 1)) (hQ : Q (some w) T.heap locs) (hc : cells ≤ ck) (hs : slots ≤ sk) : oF p e below s ck sk Q (T.setTop (mkF m pc Ls (w :: rest))) :=
  own_ret X hlk (fun h => by rw [hret] at h; cases h) (fun fs hl => retOut X hx hret (by cases t <;> first | (cases ht; done) | (cases w <;> first | rfl | (cases hr; done))) (Or.inr (Or.inr (Or.inr (Or.inr ⟨rfl, ht, hr⟩)))) hd hl) hQ hc hs
theorem own_retN (X : Stand p l e R s m args below meth c T locs cells slots) (hx : p.tables.exec = Jvm.exec) (hlk : meth.locks = false) {pc : Nat} {Ls : Array Slot} {z : Int32} {t : FieldType} {rest : List Value} (hret : meth.sig.returnType = some t) (ht : t = .boolean ∨ t = .byte ∨ t = .char ∨ t = .short)
    (hd : decode c.code pc = .ok (.ireturn, 1)) (hQ : Q (some (.int (nar t z))) T.heap locs) (hc : cells ≤ ck) (hs : slots ≤ sk) : oF p e below s ck sk Q (T.setTop (mkF m pc Ls (.int z :: rest))) :=
  own_ret X hlk (fun h => by rw [hret] at h; cases h) (fun fs hl => retN X hx hret ht hd hl) hQ hc hs
theorem own_ret0 (X : Stand p l e R s m args below meth c T locs cells slots) (hx : p.tables.exec = Jvm.exec) (hlk : meth.locks = false) {pc : Nat} {Ls : Array Slot} (hret : meth.sig.returnType = none)
    (hd : decode c.code pc = .ok (.return_, 1)) (hQ : Q none T.heap locs) (hc : cells ≤ ck) (hs : slots ≤ sk) : oF p e below s ck sk Q (T.setTop (mkF m pc Ls [])) :=
  own_ret X hlk (fun _ => rfl) (fun fs hl => X.returnOut hx hret hd hl) hQ hc hs
/-- a body's contract: called with as' on the heap h it returns, and Q says what it leaves -/
def own_Con (l : Launch) (Z : State) (ws : List Jvm.Cond) (y : MethodName) (bytes : ByteArray) (maxL : Nat) (rt : Option FieldType) (rm : Room) (as' : Array Value) (h : Heap) (Q : Option Value → Heap → List Loc → Prop) : Prop :=
  MetFree l y (head1 (Jvm.Cond.code y bytes maxL rt :: ws) rm) (fun a U => a = as' ∧ Z.Warmed39 U.vm ∧ U.heap = h) (fun _ _ _ _ _ => True) (fun _ U o U' => ∃ v L, o = .returned v ∧ Q v U'.heap L ∧ FrameEnd U o U' L rm.cells rm.slots)
/-- it returns r, and the heap is as it was -/
def own_Q1 (r : Option Value) (h : Heap) : Option Value → Heap → List Loc → Prop := fun v h' L => v = r ∧ h' = h ∧ L = []
variable {Z : State} {a0 : Array Value} {h h' : Heap}
theorem own_body {ws : List Jvm.Cond} {y : MethodName} {bytes : ByteArray} {maxL : Nat} {rt : Option FieldType} {rm : Room} {as' : Array Value} (hpn : plainFor y = true)
    (H : ∀ (p : Program) (e : Env) (s : State) (m : MethodId) (below : List Frame) (meth : Method) (c : Code) (s₁ : State), Stand p l e rm s m as' below meth c s₁ [] 0 0 → p.tables.exec = Jvm.exec → c.code = bytes → c.maxLocals = maxL → meth.sig.returnType = rt → meth.locks = false → s.vm.findClass y.cls = some m.cls → meth.name = y.name → Z.Warmed39 s.vm → s₁.heap = h →
      oF p e below s rm.cells rm.slots Q (s₁.setTop (entryFrame m as' maxL))) : own_Con l Z ws y bytes maxL rt rm as' h Q := by
  refine MetFree.of_bodySF hpn hisR ?_
  intro p e s m args below meth c s₁ Bd hml0 hP hK
  obtain ⟨rfl, hZ, hh⟩ := hP
  exact H p e s m below meth c s₁ (Stand.of_body Bd) Bd.exec Bd.bytes hml0 Bd.returns (BodyLoose.notSynchronized Bd) (findClass_of_methodNamed Bd.named) (name_of_methodNamed Bd.named Bd.method).1 hZ (by rw [← hh, Bd.state]; rfl)
theorem own_callS (X : Stand p l e R s m args below meth c T locs cells slots) (hx : p.tables.exec = Jvm.exec) (hZ : Z.Warmed39 s.vm) {own : String} {index : Nat} {y : MethodName} {bytes : ByteArray} {maxL : Nat} {rt : Option FieldType} (hown : s.vm.findClass own = some m.cls)
    (w1 : (Jvm.Cond.methodLink own index y).before a0 Z = true) (w2 : (Jvm.Cond.static y).before a0 Z = true) (w4 : (Jvm.Cond.code y bytes maxL rt).before a0 Z = true) (w3 : (Jvm.Cond.initialized y.cls).before a0 Z = true) (hy : y.cls ≠ "java/lang/invoke/MethodHandle" ∧ y.cls ≠ "java/lang/invoke/VarHandle")
    (eT : T.heap = h) {rm : Room} {W : Nat} {argsL rest : List Value} (K : own_Con l Z [] y bytes maxL rt rm argsL.toArray h Q) (hf : rm.frames + 1 ≤ R.frames) (hl : W + (maxL + 11) + rm.locals ≤ R.locals)
    {g : JFrame} (hg : g.method = m) (hsize : g.locals.size = c.maxLocals) (hlen : ∀ sig, parseMethodDescriptor y.desc = some sig → argsL.length = sig.parameters.length)
    (hstack : g.stack = argsL.reverse ++ rest) (hW : 2 * g.monitorRoom + (rest.map fun v => v.category).sum ≤ W) (hdg : decode c.code g.pc = .ok (.invokestatic index, 3)) (hc : cells + rm.cells ≤ R.cells) (hs : slots + rm.slots ≤ R.slots) :
    ∃ (v : Option Value) (T' : State) (L : List Loc), Stand p l e R s m args below meth c T' (locs ++ L) (cells + rm.cells) (slots + rm.slots) ∧ Q v T'.heap L ∧
      ∀ target, Steps p.tables e below (T'.setTop { g with pc := g.pc + 3, stack := v.toList ++ rest }) target → Steps p.tables e below (T.setTop g) target := by
  obtain ⟨v, _, ⟨T', L', k', n'⟩, -, X', ⟨L, hQ, q1, q2, q3⟩, st⟩ := Jvm.LawKit.callS X hx hown (mvT hZ w1) (mvT hZ w2) (mvT hZ w3) (mvT hZ w4) hy (backOf (W := W) K hZ w4 w3 hf hl) hg hsize hlen hstack hW hdg (fun _ _ => ⟨rfl, eT, hc, hs⟩)
  dsimp only [Pt.U, Pt.locs, Pt.cells, Pt.slots] at X' q1 q2 q3 st hQ
  subst q1 q2 q3
  exact ⟨v, T', L, X', hQ, st⟩
theorem own_callSP (X : Stand p l e R s m args below meth c T locs cells slots) (hx : p.tables.exec = Jvm.exec) (hZ : Z.Warmed39 s.vm) {own : String} {index : Nat} {y : MethodName} {bytes : ByteArray} {maxL : Nat} {rt : Option FieldType} (hown : s.vm.findClass own = some m.cls)
    (w1 : (Jvm.Cond.methodLink own index y).before a0 Z = true) (w2 : (Jvm.Cond.static y).before a0 Z = true) (w4 : (Jvm.Cond.code y bytes maxL rt).before a0 Z = true) (w3 : (Jvm.Cond.initialized y.cls).before a0 Z = true) (hy : y.cls ≠ "java/lang/invoke/MethodHandle" ∧ y.cls ≠ "java/lang/invoke/VarHandle")
    (eT : T.heap = h) {rf rl : Nat} {W : Nat} {argsL rest : List Value} {r : Value} (K : own_Con l Z [] y bytes maxL rt { frames := rf, cells := 0, slots := 0, locals := rl } argsL.toArray h (own_Q1 (some r) h)) (hf : rf + 1 ≤ R.frames) (hl : W + (maxL + 11) + rl ≤ R.locals)
    {g : JFrame} (hg : g.method = m) (hsize : g.locals.size = c.maxLocals) (hlen : ∀ sig, parseMethodDescriptor y.desc = some sig → argsL.length = sig.parameters.length)
    (hstack : g.stack = argsL.reverse ++ rest) (hW : 2 * g.monitorRoom + (rest.map fun v => v.category).sum ≤ W) (hdg : decode c.code g.pc = .ok (.invokestatic index, 3)) (hc : cells ≤ R.cells) (hs : slots ≤ R.slots) :
    ∃ T' : State, Stand p l e R s m args below meth c T' locs cells slots ∧ T'.heap = h ∧
      ∀ target, Steps p.tables e below (T'.setTop { g with pc := g.pc + 3, stack := r :: rest }) target → Steps p.tables e below (T.setTop g) target := by
  obtain ⟨v, T', L, X', ⟨rfl, hh, rfl⟩, st⟩ := own_callS X hx hZ hown w1 w2 w4 w3 hy eT (W := W) K hf hl hg hsize hlen hstack hW hdg hc hs
  rw [List.append_nil] at X'
  exact ⟨T', X', hh, st⟩
theorem own_callI (X : Stand p l e R s m args below meth c T locs cells slots) (hx : p.tables.exec = Jvm.exec) (hZ : Z.Warmed39 s.vm) {own : String} {index : Nat} {y : MethodName} (hy1 : y.name = "<init>") {bytes : ByteArray} {maxL : Nat} (hown : s.vm.findClass own = some m.cls)
    (w1 : (Jvm.Cond.methodLink own index y).before a0 Z = true) (w2 : (Jvm.Cond.instanceMethod y).before a0 Z = true) (w4 : (Jvm.Cond.code y bytes maxL none).before a0 Z = true) (w3 : (Jvm.Cond.initialized y.cls).before a0 Z = true) (hy : y.cls ≠ "java/lang/invoke/MethodHandle" ∧ y.cls ≠ "java/lang/invoke/VarHandle")
    (eT : T.heap = h) {rm : Room} {W : Nat} {a : Addr} {argsL rest : List Value} (K : own_Con l Z [] y bytes maxL none rm (.ref a :: argsL).toArray h Q) (hf : rm.frames + 1 ≤ R.frames) (hl : W + (maxL + 11) + rm.locals ≤ R.locals)
    {g : JFrame} (hg : g.method = m) (hsize : g.locals.size = c.maxLocals) (hlen : ∀ sig, parseMethodDescriptor y.desc = some sig → argsL.length = sig.parameters.length)
    (hstack : g.stack = argsL.reverse ++ .ref a :: rest) (hW : 2 * g.monitorRoom + (rest.map fun v => v.category).sum ≤ W) (hdg : decode c.code g.pc = .ok (.invokespecial index, 3)) (hc : cells + rm.cells ≤ R.cells) (hs : slots + rm.slots ≤ R.slots) :
    ∃ (v : Option Value) (T' : State) (L : List Loc), Stand p l e R s m args below meth c T' (locs ++ L) (cells + rm.cells) (slots + rm.slots) ∧ Q v T'.heap L ∧
      ∀ target, Steps p.tables e below (T'.setTop { g with pc := g.pc + 3, stack := v.toList ++ rest }) target → Steps p.tables e below (T.setTop g) target := by
  obtain ⟨v, _, ⟨T', L', k', n'⟩, -, X', ⟨L, hQ, q1, q2, q3⟩, st⟩ := X.specialBack hx hy1 hown (mvT hZ w1) (mvT hZ w2) (mvT hZ w4) hy (backOf (W := W) K hZ w4 w3 hf hl) hg hsize (Steps.refl _) (a := a) hlen hstack hW hdg (fun _ _ => ⟨rfl, eT, hc, hs⟩)
  dsimp only [Pt.U, Pt.locs, Pt.cells, Pt.slots] at X' q1 q2 q3 st hQ
  subst q1 q2 q3
  exact ⟨v, T', L, X', hQ, fun t k => st.trans k⟩
theorem own_callIP (X : Stand p l e R s m args below meth c T locs cells slots) (hx : p.tables.exec = Jvm.exec) (hZ : Z.Warmed39 s.vm) {own : String} {index : Nat} {y : MethodName} (hy1 : y.name = "<init>") {bytes : ByteArray} {maxL : Nat} (hown : s.vm.findClass own = some m.cls)
    (w1 : (Jvm.Cond.methodLink own index y).before a0 Z = true) (w2 : (Jvm.Cond.instanceMethod y).before a0 Z = true) (w4 : (Jvm.Cond.code y bytes maxL none).before a0 Z = true) (w3 : (Jvm.Cond.initialized y.cls).before a0 Z = true) (hy : y.cls ≠ "java/lang/invoke/MethodHandle" ∧ y.cls ≠ "java/lang/invoke/VarHandle")
    (eT : T.heap = h) {rf rl : Nat} {W : Nat} {a : Addr} {argsL rest : List Value} (K : own_Con l Z [] y bytes maxL none { frames := rf, cells := 0, slots := 0, locals := rl } (.ref a :: argsL).toArray h (own_Q1 none h)) (hf : rf + 1 ≤ R.frames) (hl : W + (maxL + 11) + rl ≤ R.locals)
    {g : JFrame} (hg : g.method = m) (hsize : g.locals.size = c.maxLocals) (hlen : ∀ sig, parseMethodDescriptor y.desc = some sig → argsL.length = sig.parameters.length)
    (hstack : g.stack = argsL.reverse ++ .ref a :: rest) (hW : 2 * g.monitorRoom + (rest.map fun v => v.category).sum ≤ W) (hdg : decode c.code g.pc = .ok (.invokespecial index, 3)) (hc : cells ≤ R.cells) (hs : slots ≤ R.slots) :
    ∃ T' : State, Stand p l e R s m args below meth c T' locs cells slots ∧ T'.heap = h ∧
      ∀ target, Steps p.tables e below (T'.setTop { g with pc := g.pc + 3, stack := rest }) target → Steps p.tables e below (T.setTop g) target := by
  obtain ⟨v, T', L, X', ⟨rfl, hh, rfl⟩, st⟩ := own_callI X hx hZ hy1 hown w1 w2 w4 w3 hy eT (W := W) K hf hl hg hsize hlen hstack hW hdg hc hs
  rw [List.append_nil] at X'
  exact ⟨T', X', hh, st⟩
theorem own_callV (X : Stand p l e R s m args below meth c T locs cells slots) (hx : p.tables.exec = Jvm.exec) (hZ : Z.Warmed39 s.vm) {own C : String} {index : Nat} {y z : MethodName} {bytes : ByteArray} {maxL : Nat} {rt : Option FieldType} (hown : s.vm.findClass own = some m.cls)
    (w1 : (Jvm.Cond.methodLink own index y).before a0 Z = true) (w2 : (Jvm.Cond.declares y).before a0 Z = true) (hnf : NotFace s y) (ws : (Jvm.Cond.selects C y z).before a0 Z = true) (wi : (Jvm.Cond.instanceMethod z).before a0 Z = true) (hy : y.cls ≠ "java/lang/invoke/MethodHandle" ∧ y.cls ≠ "java/lang/invoke/VarHandle")
    (eT : T.heap = h) {b : Addr} (E : Exa Z h b C) {rm : Room} {W : Nat} {argsL rest : List Value} (K : own_Con l Z [] z bytes maxL rt rm (.ref b :: argsL).toArray h Q) (w4 : (Jvm.Cond.code z bytes maxL rt).before a0 Z = true) (w3 : (Jvm.Cond.initialized z.cls).before a0 Z = true) (hf : rm.frames + 1 ≤ R.frames) (hl : W + (maxL + 11) + rm.locals ≤ R.locals)
    {g : JFrame} (hg : g.method = m) (hsize : g.locals.size = c.maxLocals) (hlen : ∀ sig, parseMethodDescriptor y.desc = some sig → argsL.length = sig.parameters.length)
    (hstack : g.stack = argsL.reverse ++ .ref b :: rest) (hW : 2 * g.monitorRoom + (rest.map fun v => v.category).sum ≤ W) (hdg : decode c.code g.pc = .ok (.invokevirtual index, 3)) (hc : cells + rm.cells ≤ R.cells) (hs : slots + rm.slots ≤ R.slots) :
    ∃ (v : Option Value) (T' : State) (L : List Loc), Stand p l e R s m args below meth c T' (locs ++ L) (cells + rm.cells) (slots + rm.slots) ∧ Q v T'.heap L ∧
      ∀ target, Steps p.tables e below (T'.setTop { g with pc := g.pc + 3, stack := v.toList ++ rest }) target → Steps p.tables e below (T.setTop g) target := by
  obtain ⟨cq, kq, qa, qb, qc⟩ := isOf hZ eT E
  obtain ⟨v, _, ⟨T', L', k', n'⟩, -, X', ⟨L, hQ, q1, q2, q3⟩, st⟩ := X.virtualBack hx hown (mvT hZ w1) (mvT hZ w2) hnf (mvT hZ ws) (mvT hZ wi) hy (backOf (W := W) K hZ w4 w3 hf hl) qa qc hg hsize (Steps.refl _) hlen hstack hW hdg (fun _ _ => ⟨rfl, eT, hc, hs⟩)
  dsimp only [Pt.U, Pt.locs, Pt.cells, Pt.slots] at X' q1 q2 q3 st hQ
  subst q1 q2 q3
  exact ⟨v, T', L, X', hQ, fun t k => st.trans k⟩
theorem own_callVP (X : Stand p l e R s m args below meth c T locs cells slots) (hx : p.tables.exec = Jvm.exec) (hZ : Z.Warmed39 s.vm) {own C : String} {index : Nat} {y z : MethodName} {bytes : ByteArray} {maxL : Nat} {rt : Option FieldType} (hown : s.vm.findClass own = some m.cls)
    (w1 : (Jvm.Cond.methodLink own index y).before a0 Z = true) (w2 : (Jvm.Cond.declares y).before a0 Z = true) (hnf : NotFace s y) (ws : (Jvm.Cond.selects C y z).before a0 Z = true) (wi : (Jvm.Cond.instanceMethod z).before a0 Z = true) (hy : y.cls ≠ "java/lang/invoke/MethodHandle" ∧ y.cls ≠ "java/lang/invoke/VarHandle")
    (eT : T.heap = h) {b : Addr} (E : Exa Z h b C) {rf rl : Nat} {W : Nat} {argsL rest : List Value} {r : Value} (K : own_Con l Z [] z bytes maxL rt { frames := rf, cells := 0, slots := 0, locals := rl } (.ref b :: argsL).toArray h (own_Q1 (some r) h)) (w4 : (Jvm.Cond.code z bytes maxL rt).before a0 Z = true) (w3 : (Jvm.Cond.initialized z.cls).before a0 Z = true) (hf : rf + 1 ≤ R.frames) (hl : W + (maxL + 11) + rl ≤ R.locals)
    {g : JFrame} (hg : g.method = m) (hsize : g.locals.size = c.maxLocals) (hlen : ∀ sig, parseMethodDescriptor y.desc = some sig → argsL.length = sig.parameters.length)
    (hstack : g.stack = argsL.reverse ++ .ref b :: rest) (hW : 2 * g.monitorRoom + (rest.map fun v => v.category).sum ≤ W) (hdg : decode c.code g.pc = .ok (.invokevirtual index, 3)) (hc : cells ≤ R.cells) (hs : slots ≤ R.slots) :
    ∃ T' : State, Stand p l e R s m args below meth c T' locs cells slots ∧ T'.heap = h ∧
      ∀ target, Steps p.tables e below (T'.setTop { g with pc := g.pc + 3, stack := r :: rest }) target → Steps p.tables e below (T.setTop g) target := by
  obtain ⟨v, T', L, X', ⟨rfl, hh, rfl⟩, st⟩ := own_callV X hx hZ hown w1 w2 hnf ws wi hy eT E (W := W) K w4 w3 hf hl hg hsize hlen hstack hW hdg hc hs
  rw [List.append_nil] at X'
  exact ⟨T', X', hh, st⟩
theorem own_kext {h h' : Heap} (K : Keep h h' []) : Ext h h' := ⟨K.1, fun a c q => K.2.1 a c q nin0⟩
theorem own_callIB (X : Stand p l e R s m args below meth c T locs cells slots) (hx : p.tables.exec = Jvm.exec) (hZ : Z.Warmed39 s.vm) {own : String} {index : Nat} {y : MethodName} (hy1 : y.name = "<init>") {bytes : ByteArray} {maxL : Nat} (hown : s.vm.findClass own = some m.cls)
    (w1 : (Jvm.Cond.methodLink own index y).before a0 Z = true) (w2 : (Jvm.Cond.instanceMethod y).before a0 Z = true) (w4 : (Jvm.Cond.code y bytes maxL none).before a0 Z = true) (hy : y.cls ≠ "java/lang/invoke/MethodHandle" ∧ y.cls ≠ "java/lang/invoke/VarHandle")
    (eT : T.heap = h) {W kc ks : Nat} {a : Addr} {argsL rest : List Value} (K : Back l R p e below s args y 3 W (fun A a' => a' = (.ref a :: argsL).toArray ∧ A.U.heap = h ∧ A.cells + kc ≤ R.cells ∧ A.slots + ks ≤ R.slots) (fun A _ v B => ∃ L, Q v B.U.heap L ∧ B.locs = A.locs ++ L ∧ B.cells = A.cells + kc ∧ B.slots = A.slots + ks))
    {g : JFrame} (hg : g.method = m) (hsize : g.locals.size = c.maxLocals) (hlen : ∀ sig, parseMethodDescriptor y.desc = some sig → argsL.length = sig.parameters.length)
    (hstack : g.stack = argsL.reverse ++ .ref a :: rest) (hW : 2 * g.monitorRoom + (rest.map fun v => v.category).sum ≤ W) (hdg : decode c.code g.pc = .ok (.invokespecial index, 3)) (hc : cells + kc ≤ R.cells) (hs : slots + ks ≤ R.slots) :
    ∃ (v : Option Value) (T' : State) (L : List Loc), Stand p l e R s m args below meth c T' (locs ++ L) (cells + kc) (slots + ks) ∧ Q v T'.heap L ∧
      ∀ target, Steps p.tables e below (T'.setTop { g with pc := g.pc + 3, stack := v.toList ++ rest }) target → Steps p.tables e below (T.setTop g) target := by
  obtain ⟨v, _, ⟨T', L', k', n'⟩, -, X', ⟨L, hQ, q1, q2, q3⟩, st⟩ := X.specialBack hx hy1 hown (mvT hZ w1) (mvT hZ w2) (mvT hZ w4) hy K hg hsize (Steps.refl _) (a := a) hlen hstack hW hdg (fun _ _ => ⟨rfl, eT, hc, hs⟩)
  dsimp only [Pt.U, Pt.locs, Pt.cells, Pt.slots] at X' q1 q2 q3 st hQ
  subst q1 q2 q3
  exact ⟨v, T', L, X', hQ, fun t k => st.trans k⟩
theorem own_callVB (X : Stand p l e R s m args below meth c T locs cells slots) (hx : p.tables.exec = Jvm.exec) (hZ : Z.Warmed39 s.vm) {own C : String} {index : Nat} {y z : MethodName} (hown : s.vm.findClass own = some m.cls)
    (w1 : (Jvm.Cond.methodLink own index y).before a0 Z = true) (w2 : (Jvm.Cond.declares y).before a0 Z = true) (hnf : NotFace s y) (ws : (Jvm.Cond.selects C y z).before a0 Z = true) (wi : (Jvm.Cond.instanceMethod z).before a0 Z = true) (hy : y.cls ≠ "java/lang/invoke/MethodHandle" ∧ y.cls ≠ "java/lang/invoke/VarHandle")
    (eT : T.heap = h) {b : Addr} (E : Exa Z h b C) {W kc ks : Nat} {argsL rest : List Value} (K : Back l R p e below s args z 3 W (fun A a' => a' = (.ref b :: argsL).toArray ∧ A.U.heap = h ∧ A.cells + kc ≤ R.cells ∧ A.slots + ks ≤ R.slots) (fun A _ v B => ∃ L, Q v B.U.heap L ∧ B.locs = A.locs ++ L ∧ B.cells = A.cells + kc ∧ B.slots = A.slots + ks))
    {g : JFrame} (hg : g.method = m) (hsize : g.locals.size = c.maxLocals) (hlen : ∀ sig, parseMethodDescriptor y.desc = some sig → argsL.length = sig.parameters.length)
    (hstack : g.stack = argsL.reverse ++ .ref b :: rest) (hW : 2 * g.monitorRoom + (rest.map fun v => v.category).sum ≤ W) (hdg : decode c.code g.pc = .ok (.invokevirtual index, 3)) (hc : cells + kc ≤ R.cells) (hs : slots + ks ≤ R.slots) :
    ∃ (v : Option Value) (T' : State) (L : List Loc), Stand p l e R s m args below meth c T' (locs ++ L) (cells + kc) (slots + ks) ∧ Q v T'.heap L ∧
      ∀ target, Steps p.tables e below (T'.setTop { g with pc := g.pc + 3, stack := v.toList ++ rest }) target → Steps p.tables e below (T.setTop g) target := by
  obtain ⟨cq, kq, qa, qb, qc⟩ := isOf hZ eT E
  obtain ⟨v, _, ⟨T', L', k', n'⟩, -, X', ⟨L, hQ, q1, q2, q3⟩, st⟩ := X.virtualBack hx hown (mvT hZ w1) (mvT hZ w2) hnf (mvT hZ ws) (mvT hZ wi) hy K qa qc hg hsize (Steps.refl _) hlen hstack hW hdg (fun _ _ => ⟨rfl, eT, hc, hs⟩)
  dsimp only [Pt.U, Pt.locs, Pt.cells, Pt.slots] at X' q1 q2 q3 st hQ
  subst q1 q2 q3
  exact ⟨v, T', L, X', hQ, fun t k => st.trans k⟩
theorem own_cl_eq {x y : Int64} (h : x = y) : Jvm.Free.XT.cmpL x y = 0 := by
  subst h; unfold Jvm.Free.XT.cmpL
  rw [if_neg (by rw [Int64.lt_iff_toInt_lt]; omega), if_pos rfl]
theorem own_cl_eq_n {x y : Int64} (h : ¬ x = y) : ¬ Jvm.Free.XT.cmpL x y = 0 := by
  unfold Jvm.Free.XT.cmpL
  by_cases h1 : y < x
  · rw [if_pos h1]; decide
  · rw [if_neg h1, if_neg h]; decide
theorem own_cl_gt {x y : Int64} (h : y < x) : (0 : Int32) < Jvm.Free.XT.cmpL x y := by
  unfold Jvm.Free.XT.cmpL; rw [if_pos h]; decide
theorem own_cl_gt_n {x y : Int64} (h : ¬ y < x) : ¬ (0 : Int32) < Jvm.Free.XT.cmpL x y := by
  unfold Jvm.Free.XT.cmpL; rw [if_neg h]
  by_cases h1 : x = y
  · rw [if_pos h1]; decide
  · rw [if_neg h1]; decide
theorem own_cl_lt {x y : Int64} (h : x < y) : Jvm.Free.XT.cmpL x y < (0 : Int32) := by
  unfold Jvm.Free.XT.cmpL
  rw [if_neg (by rw [Int64.lt_iff_toInt_lt] at h ⊢; omega), if_neg (by intro q; subst q; rw [Int64.lt_iff_toInt_lt] at h; omega)]; decide
theorem own_cl_lt_n {x y : Int64} (h : ¬ x < y) : ¬ Jvm.Free.XT.cmpL x y < (0 : Int32) := by
  unfold Jvm.Free.XT.cmpL
  by_cases h1 : y < x
  · rw [if_pos h1]; decide
  · rw [if_neg h1]
    have h2 : x = y := by
      rw [Int64.lt_iff_toInt_lt] at h h1
      exact Int64.toInt_inj.mp (by omega)
    rw [if_pos h2]; decide
theorem own_eq_int {a : Array Value} {s : State} {t : Term} {k : Int32} (h : (Jvm.Cond.eq t (Term.int k)).value a s none s [] = some true) : t.eval a s none [] s = some (.int k) := by
  obtain ⟨x, y, hx, hy, k1, k2⟩ := cmp_v (Or.inl h)
  obtain rfl : y = .int k := Option.some.inj (hy.symm.trans (Term.int_eval k))
  obtain ⟨z, rfl⟩ := k2
  rw [hx, gotT (Cond.eq_ints hx hy) h]
end Own
section OwnFloat
open Jvm.FP.Core
/-- a finite double whose value is n / 2 ^ k -/
def own_V (x : UInt64) (n : Int) (k : Nat) : Prop := ∃ s c q, val64 x = .fin s c q ∧ signed s c * ((2 ^ (q + (k : Int)).toNat : Nat) : Int) = n * ((2 ^ (-(q + (k : Int))).toNat : Nat) : Int)
theorem own_canc {z a : Int} {p m : Nat} {E : Int} (hE : (p : Int) - m = E) (h : z * ((2 ^ p : Nat) : Int) = a * ((2 ^ m : Nat) : Int)) : z * ((2 ^ E.toNat : Nat) : Int) = a * ((2 ^ (-E).toNat : Nat) : Int) := by
  obtain ⟨t, e1, e2⟩ : ∃ t : Nat, p = E.toNat + t ∧ m = (-E).toNat + t := ⟨p - E.toNat, by omega, by omega⟩
  rw [e1, e2, Nat.pow_add, Nat.pow_add, Int.natCast_mul, Int.natCast_mul, ← Int.mul_assoc, ← Int.mul_assoc] at h
  exact Int.eq_of_mul_eq_mul_right (by have := Nat.two_pow_pos t; omega) h
theorem own_cancN {z a : Nat} {p m : Nat} {E : Int} (hE : (p : Int) - m = E) (h : z * 2 ^ p = a * 2 ^ m) : z * 2 ^ E.toNat = a * 2 ^ (-E).toNat := by
  have := own_canc (z := (z : Int)) (a := (a : Int)) hE (by exact_mod_cast h)
  exact_mod_cast this
theorem own_sgn {s : Bool} {A P M : Nat} {n : Int} (hM : 0 < M) (h : signed s A * (P : Int) = n * (M : Int)) : ∃ N : Nat, n = signed s N ∧ A * P = N * M := by
  have hM' : (0 : Int) < (M : Int) := by omega
  cases s with
  | false =>
    have h' : ((A * P : Nat) : Int) = n * (M : Int) := by rw [Int.natCast_mul]; exact h
    have hn : 0 ≤ n := by
      refine Int.le_of_not_gt fun q => ?_
      have := Int.mul_neg_of_neg_of_pos q hM'
      omega
    refine ⟨n.toNat, ?_, ?_⟩
    · show n = ((n.toNat : Nat) : Int); omega
    · have e : n = ((n.toNat : Nat) : Int) := by omega
      rw [e] at h'; exact_mod_cast h'
  | true =>
    have h0 : (-(A : Int)) * (P : Int) = n * (M : Int) := h
    have h' : ((A * P : Nat) : Int) = (-n) * (M : Int) := by rw [Int.natCast_mul, Int.neg_mul, ← h0, Int.neg_mul, Int.neg_neg]
    have hn : 0 ≤ -n := by
      refine Int.le_of_not_gt fun q => ?_
      have := Int.mul_neg_of_neg_of_pos q hM'
      omega
    refine ⟨(-n).toNat, ?_, ?_⟩
    · show n = -(((-n).toNat : Nat) : Int); omega
    · have e : -n = (((-n).toNat : Nat) : Int) := by omega
      rw [e] at h'; exact_mod_cast h'
theorem own_rr {s : Bool} {A B N k : Nat} {e : Int} (hN : N < 2 ^ 53) (hk : k ≤ 1000) (hB : 0 < B) (h : A * 2 ^ (e + (k : Int)).toNat = N * B * 2 ^ (-(e + (k : Int))).toNat) :
    ∃ c q, roundRatio b64 s A B e = .fin s c q ∧ c * 2 ^ (q + (k : Int)).toNat = N * 2 ^ (-(q + (k : Int))).toNat := by
  have hqmin : b64.qmin = -1074 := by decide
  have hqmax : b64.qmax = 971 := by decide
  by_cases h0 : N = 0
  · refine ⟨0, b64.qmin, ?_, by rw [h0, Nat.zero_mul, Nat.zero_mul]⟩
    rw [h0, Nat.zero_mul, Nat.zero_mul] at h
    have := Nat.two_pow_pos (e + (k : Int)).toNat
    rcases Nat.mul_eq_zero.mp h with q | q
    · unfold roundRatio; rw [if_pos q]
    · omega
  · have l1 : 2 ^ N.log2 ≤ N := Nat.log2_self_le h0
    have l2 : N < 2 ^ (N.log2 + 1) := Nat.lt_log2_self
    have l3 : N.log2 < 53 := by
      refine Nat.lt_of_not_le fun q => ?_
      have := Nat.pow_le_pow_right (show 0 < 2 by decide) q
      omega
    generalize N.log2 = L at l1 l2 l3
    obtain ⟨t, ht⟩ : ∃ t, L + t = 52 := ⟨52 - L, by omega⟩
    have c1 : 2 ^ 52 ≤ N * 2 ^ t := by
      have := Nat.mul_le_mul_right (2 ^ t) l1
      rwa [← Nat.pow_add, ht] at this
    have c2 : N * 2 ^ t < 2 ^ 53 := by
      have := Nat.mul_lt_mul_of_pos_right l2 (Nat.two_pow_pos t)
      rwa [← Nat.pow_add, show L + 1 + t = 53 by omega] at this
    refine ⟨N * 2 ^ t, -(k : Int) - t, ?_, ?_⟩
    · refine roundRatio_exact good_b64 hB ⟨c2, by omega, by omega, Or.inr c1⟩ ?_
      have := own_cancN (z := A) (a := N * 2 ^ t * B) (p := (e + (k : Int)).toNat + t) (m := (-(e + (k : Int))).toNat) (E := e - (-(k : Int) - t)) (by omega) (by
        rw [Nat.pow_add, ← Nat.mul_assoc, h]; ac_rfl)
      rw [show -(e - (-(k : Int) - t)) = -(k : Int) - t - e by omega] at this
      exact this
    · rw [show (-(k : Int) - t + (k : Int)).toNat = 0 by omega, show (-(-(k : Int) - t + (k : Int))).toNat = t by omega, Nat.pow_zero, Nat.mul_one]
theorem own_abs_signed (s : Bool) (N : Nat) : (signed s N).natAbs = N := by cases s <;> simp [signed]
theorem own_V_rr {x : UInt64} {s : Bool} {A B k : Nat} {e n : Int} (hx : val64 x = roundRatio b64 s A B e) (hB : 0 < B) (hk : k ≤ 1000) (hn : n.natAbs < 2 ^ 53)
    (h : signed s A * ((2 ^ (e + (k : Int)).toNat : Nat) : Int) = n * ((B * 2 ^ (-(e + (k : Int))).toNat : Nat) : Int)) : own_V x n k := by
  obtain ⟨N, rfl, hN⟩ := own_sgn (Nat.mul_pos hB (Nat.two_pow_pos _)) h
  rw [own_abs_signed] at hn
  obtain ⟨c, q, h1, h2⟩ := own_rr (s := s) hn hk hB (by rw [hN]; ac_rfl)
  refine ⟨s, c, q, hx.trans h1, ?_⟩
  cases s
  · show ((c : Nat) : Int) * _ = ((N : Nat) : Int) * _; exact_mod_cast h2
  · show (-((c : Nat) : Int)) * _ = (-((N : Nat) : Int)) * _
    rw [Int.neg_mul, Int.neg_mul]; congr 1; exact_mod_cast h2
theorem own_V_round {x : UInt64} {s : Bool} {A k : Nat} {e n : Int} (hx : val64 x = round b64 (.fin s A e)) (hk : k ≤ 1000) (hn : n.natAbs < 2 ^ 53)
    (h : signed s A * ((2 ^ (e + (k : Int)).toNat : Nat) : Int) = n * ((2 ^ (-(e + (k : Int))).toNat : Nat) : Int)) : own_V x n k :=
  own_V_rr (B := 1) hx (by decide) hk hn (by rw [Nat.one_mul]; exact h)
theorem own_V_int {x : UInt64} {n : Int} (hx : val64 x = round b64 (ofInt n)) (hn : n.natAbs < 2 ^ 53) : own_V x n 0 := by
  refine own_V_round (s := decide (n < 0)) (A := n.natAbs) (e := 0) hx (by decide) hn ?_
  simp only [Int.natCast_zero, Int.add_zero, Int.toNat_zero, Int.neg_zero, Nat.pow_zero]
  by_cases h : n < 0
  · rw [decide_eq_true h]; show -((n.natAbs : Nat) : Int) * _ = _; omega
  · rw [decide_eq_false h]; show ((n.natAbs : Nat) : Int) * _ = _; omega
theorem own_V_i2d (x : Int32) : own_V (FP.i2d x) x.toInt 0 := own_V_int (val64_i2d x) (by have := Int32.toInt_lt x; have := Int32.le_toInt x; omega)
theorem own_V_l2d {x : Int64} (h : x.toInt.natAbs < 2 ^ 53) : own_V (FP.l2d x) x.toInt 0 := own_V_int (val64_l2d x) h
theorem own_V_up {x : UInt64} {n : Int} {k : Nat} (j : Nat) (h : own_V x n k) : own_V x (n * ((2 ^ j : Nat) : Int)) (k + j) := by
  obtain ⟨s, c, q, h1, h2⟩ := h
  refine ⟨s, c, q, h1, ?_⟩
  refine own_canc (p := (q + (k : Int)).toNat + j) (m := (-(q + (k : Int))).toNat) (by omega) ?_
  rw [Nat.pow_add, Int.natCast_mul, ← Int.mul_assoc, h2, Int.mul_assoc, Int.mul_assoc, Int.mul_comm ((2 ^ j : Nat) : Int)]
theorem own_V_down {x : UInt64} {n : Int} {k : Nat} (j : Nat) (h : own_V x (n * ((2 ^ j : Nat) : Int)) (k + j)) : own_V x n k := by
  obtain ⟨s, c, q, h1, h2⟩ := h
  refine ⟨s, c, q, h1, ?_⟩
  refine own_canc (p := (q + ((k + j : Nat) : Int)).toNat) (m := j + (-(q + ((k + j : Nat) : Int))).toNat) (by omega) ?_
  rw [h2, Nat.pow_add, Int.natCast_mul, ← Int.mul_assoc]
theorem own_signed_mul (s : Bool) (c k : Nat) : signed s (c * k) = signed s c * (k : Int) := signed_mul s c k
theorem own_units {s : Bool} {c k : Nat} {q e n : Int} (he : e ≤ q) (h : signed s c * ((2 ^ (q + (k : Int)).toNat : Nat) : Int) = n * ((2 ^ (-(q + (k : Int))).toNat : Nat) : Int)) :
    signed s (inUnits c q e) * ((2 ^ (e + (k : Int)).toNat : Nat) : Int) = n * ((2 ^ (-(e + (k : Int))).toNat : Nat) : Int) := by
  refine own_canc (p := (q + (k : Int)).toNat) (m := (-(q + (k : Int))).toNat + (q - e).toNat) (by omega) ?_
  unfold inUnits
  rw [signed_mul, Nat.pow_add, Int.natCast_mul, ← Int.mul_assoc, ← h, Int.mul_assoc, Int.mul_assoc, Int.mul_comm ((2 ^ (q - e).toNat : Nat) : Int)]
theorem own_sum_sign (s t : Bool) (v : Int) : signed (sumSign s t v) v.natAbs = v := by
  unfold sumSign
  by_cases h : v = 0
  · rw [h]; simp [signed]
  · rw [if_neg h]
    by_cases h' : v < 0
    · rw [decide_eq_true h']; show -((v.natAbs : Nat) : Int) = v; omega
    · rw [decide_eq_false h']; show ((v.natAbs : Nat) : Int) = v; omega
theorem own_V_sum {x y z : UInt64} {a b : Int} {k : Nat} (hz : ∀ s c q t d r, val64 x = .fin s c q → val64 y = .fin t d r → val64 z = round b64 (exactSum (.fin s c q) (.fin t d r))) (hx : own_V x a k) (hy : own_V y b k) (hk : k ≤ 1000) (hn : (a + b).natAbs < 2 ^ 53) : own_V z (a + b) k := by
  obtain ⟨s, c, q, h1, h2⟩ := hx
  obtain ⟨t, d, r, g1, g2⟩ := hy
  refine own_V_round (hz _ _ _ _ _ _ h1 g1) hk hn ?_
  rw [own_sum_sign]
  unfold sumUnits
  rw [Int.add_mul, own_units (Int.min_le_left q r) h2, own_units (Int.min_le_right q r) g2, Int.add_mul]
theorem own_V_add {x y : UInt64} {a b : Int} {k : Nat} (hx : own_V x a k) (hy : own_V y b k) (hk : k ≤ 1000) (hn : (a + b).natAbs < 2 ^ 53) : own_V (FP.dadd x y) (a + b) k :=
  own_V_sum (fun _ _ _ _ _ _ h1 h2 => by rw [← h1, ← h2]; exact val64_dadd x y) hx hy hk hn
theorem own_V_sub {x y : UInt64} {a b : Int} {k : Nat} (hx : own_V x a k) (hy : own_V y b k) (hk : k ≤ 1000) (hn : (a - b).natAbs < 2 ^ 53) : own_V (FP.dsub x y) (a - b) k := by
  obtain ⟨s, c, q, h1, h2⟩ := hx
  obtain ⟨t, d, r, g1, g2⟩ := hy
  have hv : val64 (FP.dsub x y) = round b64 (exactSum (.fin s c q) (.fin (!t) d r)) := by
    rw [← h1, show Datum.fin (!t) d r = negate (val64 y) by rw [g1]; rfl]; exact val64_dsub x y
  refine own_V_round hv hk hn ?_
  have g3 : signed (!t) d * ((2 ^ (r + (k : Int)).toNat : Nat) : Int) = (-b) * ((2 ^ (-(r + (k : Int))).toNat : Nat) : Int) := by
    rw [show signed (!t) d = -(signed t d) by cases t <;> simp [signed], Int.neg_mul, g2, Int.neg_mul]
  rw [own_sum_sign]
  unfold sumUnits
  rw [Int.add_mul, own_units (Int.min_le_left q r) h2, own_units (Int.min_le_right q r) g3, ← Int.add_mul, Int.sub_eq_add_neg]
theorem own_signed_prod (s t : Bool) (c d : Nat) : signed (s != t) (c * d) = signed s c * signed t d := by
  cases s <;> cases t <;> simp [signed, Int.neg_mul, Int.mul_neg]
theorem own_V_mul {x y : UInt64} {a b : Int} {k l : Nat} (hx : own_V x a k) (hy : own_V y b l) (hk : k + l ≤ 1000) (hn : (a * b).natAbs < 2 ^ 53) : own_V (FP.dmul x y) (a * b) (k + l) := by
  obtain ⟨s, c, q, h1, h2⟩ := hx
  obtain ⟨t, d, r, g1, g2⟩ := hy
  have hv : val64 (FP.dmul x y) = round b64 (.fin (s != t) (c * d) (q + r)) := by
    rw [show Datum.fin (s != t) (c * d) (q + r) = exactProduct (val64 x) (val64 y) by rw [h1, g1]; rfl]; exact val64_dmul x y
  refine own_V_round hv hk hn ?_
  refine own_canc (p := (q + (k : Int)).toNat + (r + (l : Int)).toNat) (m := (-(q + (k : Int))).toNat + (-(r + (l : Int))).toNat) (by omega) ?_
  rw [own_signed_prod, Nat.pow_add, Nat.pow_add, Int.natCast_mul, Int.natCast_mul]
  calc signed s c * signed t d * (((2 ^ (q + (k : Int)).toNat : Nat) : Int) * ((2 ^ (r + (l : Int)).toNat : Nat) : Int))
      = (signed s c * ((2 ^ (q + (k : Int)).toNat : Nat) : Int)) * (signed t d * ((2 ^ (r + (l : Int)).toNat : Nat) : Int)) := by ac_rfl
    _ = (a * ((2 ^ (-(q + (k : Int))).toNat : Nat) : Int)) * (b * ((2 ^ (-(r + (l : Int))).toNat : Nat) : Int)) := by rw [h2, g2]
    _ = _ := by ac_rfl
theorem own_V_div {x y : UInt64} {a b n : Int} {k l j : Nat} (hx : own_V x a k) (hy : own_V y b l) (hb : b ≠ 0) (hj : j ≤ 1000) (hn : n.natAbs < 2 ^ 53) (h : a * ((2 ^ (l + j) : Nat) : Int) = n * b * ((2 ^ k : Nat) : Int)) : own_V (FP.ddiv x y) n j := by
  obtain ⟨s, c, q, h1, h2⟩ := hx
  obtain ⟨t, d, r, g1, g2⟩ := hy
  obtain ⟨A, rfl, hA⟩ := own_sgn (Nat.two_pow_pos _) h2
  obtain ⟨B, rfl, hB⟩ := own_sgn (Nat.two_pow_pos _) g2
  have hB0 : 0 < B := Nat.pos_of_ne_zero fun q => hb (by rw [q]; exact signed_zero t)
  have hd : 0 < d := Nat.pos_of_ne_zero fun q => by
    rw [q, Nat.zero_mul] at hB
    have := Nat.mul_pos hB0 (Nat.two_pow_pos (-(r + (l : Int))).toNat)
    omega
  have hv : val64 (FP.ddiv x y) = roundRatio b64 (s != t) c d (q - r) := by
    have := val64_ddiv x y
    rw [h1, g1] at this
    rw [show val64 (FP.ddiv x y) = quotient b64 (.fin s c q) (.fin t d r) from this]
    show (if d = 0 then _ else _) = _
    rw [if_neg (by omega)]
  have hs : signed (s != t) A * ((2 ^ (l + j) : Nat) : Int) = n * ((B * 2 ^ k : Nat) : Int) := by
    rw [Int.natCast_mul, ← Int.mul_assoc]
    cases s <;> cases t
    · exact h
    · have h' : ((A : Nat) : Int) * ((2 ^ (l + j) : Nat) : Int) = n * (-((B : Nat) : Int)) * ((2 ^ k : Nat) : Int) := h
      show (-((A : Nat) : Int)) * _ = _
      rw [Int.neg_mul, h', Int.mul_neg, Int.neg_mul, Int.neg_neg]
    · have h' : (-((A : Nat) : Int)) * ((2 ^ (l + j) : Nat) : Int) = n * ((B : Nat) : Int) * ((2 ^ k : Nat) : Int) := h
      show (-((A : Nat) : Int)) * _ = _
      exact h'
    · have h' : (-((A : Nat) : Int)) * ((2 ^ (l + j) : Nat) : Int) = n * (-((B : Nat) : Int)) * ((2 ^ k : Nat) : Int) := h
      show ((A : Nat) : Int) * _ = _
      rw [Int.neg_mul, Int.mul_neg, Int.neg_mul] at h'
      exact Int.neg_inj.mp h'
  obtain ⟨N, rfl, hN⟩ := own_sgn (Nat.mul_pos hB0 (Nat.two_pow_pos k)) hs
  rw [own_abs_signed] at hn
  obtain ⟨c', q', r1, r2⟩ := own_rr (s := s != t) (A := c) (B := d) (N := N) (k := j) (e := q - r) hn hj hd (by
    refine own_cancN (p := (q + (k : Int)).toNat + (l + j) + (-(r + (l : Int))).toNat) (m := (r + (l : Int)).toNat + k + (-(q + (k : Int))).toNat) (by omega) ?_
    have pw : ∀ u v w : Nat, 2 ^ (u + v + w) = 2 ^ u * 2 ^ v * 2 ^ w := fun u v w => by rw [Nat.pow_add, Nat.pow_add]
    rw [pw, pw]
    calc c * (2 ^ (q + (k : Int)).toNat * 2 ^ (l + j) * 2 ^ (-(r + (l : Int))).toNat)
        = (c * 2 ^ (q + (k : Int)).toNat) * (2 ^ (l + j) * 2 ^ (-(r + (l : Int))).toNat) := by ac_rfl
      _ = (A * 2 ^ (l + j)) * (2 ^ (-(q + (k : Int))).toNat * 2 ^ (-(r + (l : Int))).toNat) := by rw [hA]; ac_rfl
      _ = (B * 2 ^ (-(r + (l : Int))).toNat) * (N * 2 ^ k * 2 ^ (-(q + (k : Int))).toNat) := by rw [hN]; ac_rfl
      _ = _ := by rw [← hB]; ac_rfl)
  refine ⟨s != t, c', q', hv.trans r1, ?_⟩
  cases s != t
  · show ((c' : Nat) : Int) * _ = ((N : Nat) : Int) * _; exact_mod_cast r2
  · show (-((c' : Nat) : Int)) * _ = (-((N : Nat) : Int)) * _
    rw [Int.neg_mul, Int.neg_mul]; congr 1; exact_mod_cast r2
theorem own_cmp_scale {z w a b : Int} {P M : Nat} (hP : 0 < P) (hM : 0 < M) (h1 : z * (P : Int) = a * (M : Int)) (h2 : w * (P : Int) = b * (M : Int)) : compare z w = compare a b := by
  have hP' : (0 : Int) < (P : Int) := by omega
  have hM' : (0 : Int) < (M : Int) := by omega
  have key : ∀ {z w a b : Int}, z * (P : Int) = a * (M : Int) → w * (P : Int) = b * (M : Int) → z < w → a < b := by
    intro z w a b h1 h2 h
    have := Int.mul_lt_mul_of_pos_right h hP'
    rw [h1, h2] at this
    exact Int.lt_of_mul_lt_mul_right this (Int.le_of_lt hM')
  rcases Int.lt_trichotomy z w with h | h | h
  · rw [show compare z w = .lt from Int.compare_eq_lt.mpr h, show compare a b = .lt from Int.compare_eq_lt.mpr (key h1 h2 h)]
  · subst h
    have : a = b := Int.eq_of_mul_eq_mul_right (Int.ne_of_gt hM') (h1.symm.trans h2)
    rw [this, show compare z z = .eq from Int.compare_eq_eq.mpr rfl, show compare b b = .eq from Int.compare_eq_eq.mpr rfl]
  · rw [show compare z w = .gt from Int.compare_eq_gt.mpr h, show compare a b = .gt from Int.compare_eq_gt.mpr (key h2 h1 h)]
theorem own_V_cmp {x y : UInt64} {a b : Int} {k : Nat} (hx : own_V x a k) (hy : own_V y b k) : FP.dcmp x y = some (compare a b) := by
  obtain ⟨s, c, q, h1, h2⟩ := hx
  obtain ⟨t, d, r, g1, g2⟩ := hy
  show order (val64 x) (val64 y) = _
  rw [h1, g1]
  show some (compare _ _) = _
  rw [own_cmp_scale (Nat.two_pow_pos _) (Nat.two_pow_pos _) (own_units (Int.min_le_left q r) h2) (own_units (Int.min_le_right q r) g2)]
theorem own_V_nn {x : UInt64} {n : Int} {k : Nat} (h : own_V x n k) : val64 x ≠ .nan := by
  obtain ⟨s, c, q, h1, -⟩ := h
  rw [h1]; intro q; cases q
theorem own_V_no {x : UInt64} {n : Int} {k : Nat} (h : own_V x n k) : Jvm.Free.Fl.NoNaN64 x := Jvm.Free.Fl.noNaN64_no.mpr (decide_eq_false (own_V_nn h))
def own_ci (a b : Int) : Int32 := if a < b then -1 else if a = b then 0 else 1
theorem own_V_ci {x y : UInt64} {a b : Int} {k : Nat} (o : CmpOp) (hx : own_V x a k) (hy : own_V y b k) : cmpValue (FP.dcmp x y) o = own_ci a b := by
  rw [own_V_cmp hx hy]; unfold own_ci
  rcases Int.lt_trichotomy a b with h | h | h
  · rw [show compare a b = .lt from Int.compare_eq_lt.mpr h, if_pos h]; rfl
  · rw [show compare a b = .eq from Int.compare_eq_eq.mpr h, if_neg (by omega), if_pos h]; rfl
  · rw [show compare a b = .gt from Int.compare_eq_gt.mpr h, if_neg (by omega), if_neg (by omega)]; rfl
theorem own_ci_self (a : Int) : own_ci a a = 0 := by unfold own_ci; rw [if_neg (by omega), if_pos rfl]
end OwnFloat


theorem own_dr_0 : decode jdk_30_method_1_code 0 = .ok (.aload_n 0, 1) := by decide +kernel
theorem own_dr_1 : decode jdk_30_method_1_code 1 = .ok (.invokespecial 1, 3) := by decide +kernel
theorem own_dr_4 : decode jdk_30_method_1_code 4 = .ok (.return_, 1) := by decide +kernel
theorem own_pn_Record : plainName "java/lang/Record" = true := by first | (simp [plainName, overriddenIn]; done) | decide +kernel
theorem own_efr (m : MethodId) (x0 : Addr) : entryFrame m #[(.ref x0)] 1 = mkF m 0 #[.val (.ref x0)] [] := by first | (simp [entryFrame, mkF, argsToLocals, Value.category, maxLocals]; done) | rfl
theorem own_pd0 : parseMethodDescriptor "()V" = some ⟨[], none⟩ := by decide +kernel
set_option maxRecDepth 65536 in
set_option maxHeartbeats 40000000 in
theorem own_rm_recinit (l : Launch) (Z : State) (a0 : Array Value) (hw : ∀ d ∈ tables_1, d.before a0 Z = true) (r0 : Addr) (h0 : Heap) : own_Con l Z [] (⟨"java/lang/Record", "<init>", "()V"⟩ : MethodName) jdk_30_method_1_code 1 none ({ frames := 1, cells := 0, slots := 0, locals := 12 } : Room) #[(.ref r0)] h0 (own_Q1 (none) h0) := by
  refine own_body (plainFor_of_name own_pn_Record) ?_
  intro p e s m below meth c s₁ X0 hx hby hml hret hlk hown hnm hZ e0
  refine oS (u' := s₁.setTop (mkF m 0 #[.val (.ref r0)] [])) (fun _ kst => castTop (own_efr m r0) kst) ?_
  refine oS (u' := s₁.setTop (mkF m 1 #[.val (.ref r0)] [(.ref r0)])) (fun _ kst => XS.aloadN X0.here hx rfl (hb hby own_dr_0) rfl rfl kst) ?_
  obtain ⟨T1, X1, e1, st1⟩ := initO X0 hx hZ hown (hw _ (List.mem_of_getElem? (i := 12) rfl)) (hw _ (List.mem_of_getElem? (i := 13) rfl)) (hw _ (List.mem_of_getElem? (i := 14) rfl)) e0 (g := (mkF m 1 #[.val (.ref r0)] [(.ref r0)])) rfl (by rw [hml]; rfl) rfl (hb hby own_dr_1) (by decide) (W := 0) (by show 2 * 0 + _ ≤ _; exact Nat.le_of_eq rfl) (by decide)
  refine oS (u' := T1.setTop (mkF m 4 #[.val (.ref r0)] [])) st1 ?_
  refine own_ret0 X1 hx hlk hret (hb hby own_dr_4) ?_ (by decide) (by decide)
  exact ⟨rfl, e1, rfl⟩
theorem own_dt_0 : decode prog_16_method_1_code 0 = .ok (.aload_n 0, 1) := by decide +kernel
theorem own_dt_1 : decode prog_16_method_1_code 1 = .ok (.invokespecial 1, 3) := by decide +kernel
theorem own_dt_4 : decode prog_16_method_1_code 4 = .ok (.aload_n 0, 1) := by decide +kernel
theorem own_dt_5 : decode prog_16_method_1_code 5 = .ok (.dload_n 1, 1) := by decide +kernel
theorem own_dt_6 : decode prog_16_method_1_code 6 = .ok (.putfield 7, 3) := by decide +kernel
theorem own_dt_9 : decode prog_16_method_1_code 9 = .ok (.aload_n 0, 1) := by decide +kernel
theorem own_dt_10 : decode prog_16_method_1_code 10 = .ok (.dload_n 3, 1) := by decide +kernel
theorem own_dt_11 : decode prog_16_method_1_code 11 = .ok (.putfield 13, 3) := by decide +kernel
theorem own_dt_14 : decode prog_16_method_1_code 14 = .ok (.aload_n 0, 1) := by decide +kernel
theorem own_dt_15 : decode prog_16_method_1_code 15 = .ok (.dload 5, 2) := by decide +kernel
theorem own_dt_17 : decode prog_16_method_1_code 17 = .ok (.putfield 16, 3) := by decide +kernel
theorem own_dt_20 : decode prog_16_method_1_code 20 = .ok (.return_, 1) := by decide +kernel
theorem own_pn_SideBySide_Throughputs : plainName "com/example/untwist_forms/untwistforms/bench/SideBySide$Throughputs" = true := by first | (simp [plainName, overriddenIn]; done) | decide +kernel
theorem own_eft (m : MethodId) (x0 : Addr) (x1 : UInt64) (x2 : UInt64) (x3 : UInt64) : entryFrame m #[(.ref x0), (.double x1), (.double x2), (.double x3)] 7 = mkF m 0 #[.val (.ref x0), .val (.double x1), .second, .val (.double x2), .second, .val (.double x3), .second] [] := by first | (simp [entryFrame, mkF, argsToLocals, Value.category, maxLocals]; done) | rfl
set_option maxRecDepth 65536 in
set_option maxHeartbeats 40000000 in
theorem own_rm_thinit (l : Launch) (Z : State) (a0 : Array Value) (hw : ∀ d ∈ tables_1, d.before a0 Z = true) (r0 : Addr) (p1 : UInt64) (p2 : UInt64) (p3 : UInt64) (h0 : Heap) (n0 : Nat) (Z0 : n0 ≤ h0.size) (E0 : Exa Z h0 r0 "com/example/untwist_forms/untwistforms/bench/SideBySide$Throughputs") (F0 : Fld Z h0 r0 "com/example/untwist_forms/untwistforms/bench/SideBySide$Throughputs" "median" "D" (.double (0 : UInt64))) (F1 : Fld Z h0 r0 "com/example/untwist_forms/untwistforms/bench/SideBySide$Throughputs" "lowest" "D" (.double (0 : UInt64))) (F2 : Fld Z h0 r0 "com/example/untwist_forms/untwistforms/bench/SideBySide$Throughputs" "highest" "D" (.double (0 : UInt64))) (g0 : n0 ≤ r0) : own_Con l Z [] (⟨"com/example/untwist_forms/untwistforms/bench/SideBySide$Throughputs", "<init>", "(DDD)V"⟩ : MethodName) prog_16_method_1_code 7 none ({ frames := 2, cells := 0, slots := 0, locals := 24 } : Room) #[(.ref r0), (.double p1), (.double p2), (.double p3)] h0 (fun v h L => v = none ∧ Fr n0 L ∧ Keep h0 h [r0] ∧ Fld Z h r0 "com/example/untwist_forms/untwistforms/bench/SideBySide$Throughputs" "median" "D" (.double p1) ∧ Fld Z h r0 "com/example/untwist_forms/untwistforms/bench/SideBySide$Throughputs" "lowest" "D" (.double p2) ∧ Fld Z h r0 "com/example/untwist_forms/untwistforms/bench/SideBySide$Throughputs" "highest" "D" (.double p3)) := by
  refine own_body (plainFor_of_name own_pn_SideBySide_Throughputs) ?_
  intro p e s m below meth c s₁ X0 hx hby hml hret hlk hown hnm hZ e0
  have N0 := Fr.nil n0
  have K0 : Keep h0 h0 [r0] := Keep.refl _ _
  refine oS (u' := s₁.setTop (mkF m 0 #[.val (.ref r0), .val (.double p1), .second, .val (.double p2), .second, .val (.double p3), .second] [])) (fun _ kst => castTop (own_eft m r0 p1 p2 p3) kst) ?_
  refine oS (u' := s₁.setTop (mkF m 1 #[.val (.ref r0), .val (.double p1), .second, .val (.double p2), .second, .val (.double p3), .second] [(.ref r0)])) (fun _ kst => XS.aloadN X0.here hx rfl (hb hby own_dt_0) rfl rfl kst) ?_
  obtain ⟨T2, X2, e2, st2⟩ := own_callIP X0 hx hZ (y := (⟨"java/lang/Record", "<init>", "()V"⟩ : MethodName)) rfl hown (hw _ (List.mem_of_getElem? (i := 7) rfl)) (hw _ (List.mem_of_getElem? (i := 8) rfl)) (hw _ (List.mem_of_getElem? (i := 11) rfl)) (hw _ (List.mem_of_getElem? (i := 10) rfl)) (by decide) e0 (W := 0) (own_rm_recinit l Z a0 hw r0 h0) (by decide) (by decide) (g := (mkF m 1 #[.val (.ref r0), .val (.double p1), .second, .val (.double p2), .second, .val (.double p3), .second] [(.ref r0)])) rfl (by rw [hml]; rfl) (a := r0) (argsL := []) (rest := []) (lenOf own_pd0 rfl) rfl (by show 2 * 0 + _ ≤ _; exact Nat.le_of_eq rfl) (hb hby own_dt_1) (by decide) (by decide)
  refine oS (u' := T2.setTop (mkF m 4 #[.val (.ref r0), .val (.double p1), .second, .val (.double p2), .second, .val (.double p3), .second] [])) st2 ?_
  refine oS (u' := T2.setTop (mkF m 5 #[.val (.ref r0), .val (.double p1), .second, .val (.double p2), .second, .val (.double p3), .second] [(.ref r0)])) (fun _ kst => XS.aloadN X2.here hx rfl (hb hby own_dt_4) rfl rfl kst) ?_
  refine oS (u' := T2.setTop (mkF m 6 #[.val (.ref r0), .val (.double p1), .second, .val (.double p2), .second, .val (.double p3), .second] [(.double p1), (.ref r0)])) (fun _ kst => XS.dloadN X2.here hx rfl (hb hby own_dt_5) rfl kst) ?_
  obtain ⟨T3, h3, X3, e3, W3, st3⟩ := putF X2 hx hZ hown (host := "") (Or.inl (hw _ (List.mem_of_getElem? (i := 15) rfl))) Via.refl e2 F0 E0 (Or.inr ⟨(hw _ (List.mem_of_getElem? (i := 16) rfl)), rfl, hnm⟩) (hw _ (List.mem_of_getElem? (i := 2) rfl)) (ty := .double) (by decide) rfl rfl (g := (mkF m 6 #[.val (.ref r0), .val (.double p1), .second, .val (.double p2), .second, .val (.double p3), .second] [(.double p1), (.ref r0)])) rfl rfl (hb hby own_dt_6)
  have f3_E_r0 := E0.wr W3
  have f3_F_r0_median := F0.same W3
  have f3_F_r0_lowest := F1.other W3 (Or.inr (slot_ne (Or.inr (hw _ (List.mem_of_getElem? (i := 18) rfl))) (Or.inr (hw _ (List.mem_of_getElem? (i := 16) rfl))) (by decide) (t := .double) (t' := .double) (by decide) (by decide)))
  have f3_F_r0_highest := F2.other W3 (Or.inr (slot_ne (Or.inr (hw _ (List.mem_of_getElem? (i := 20) rfl))) (Or.inr (hw _ (List.mem_of_getElem? (i := 16) rfl))) (by decide) (t := .double) (t' := .double) (by decide) (by decide)))
  have K3 := K0.wr W3 (Or.inl (List.mem_of_getElem? (i := 0) rfl))
  have Z3 := Nat.le_trans Z0 (Keep.of_wr W3).1
  have N3 := Fr.snoc X3 N0 g0
  refine oS (u' := T3.setTop (mkF m 9 #[.val (.ref r0), .val (.double p1), .second, .val (.double p2), .second, .val (.double p3), .second] [])) st3 ?_
  refine oS (u' := T3.setTop (mkF m 10 #[.val (.ref r0), .val (.double p1), .second, .val (.double p2), .second, .val (.double p3), .second] [(.ref r0)])) (fun _ kst => XS.aloadN X3.here hx rfl (hb hby own_dt_9) rfl rfl kst) ?_
  refine oS (u' := T3.setTop (mkF m 11 #[.val (.ref r0), .val (.double p1), .second, .val (.double p2), .second, .val (.double p3), .second] [(.double p2), (.ref r0)])) (fun _ kst => XS.dloadN X3.here hx rfl (hb hby own_dt_10) rfl kst) ?_
  obtain ⟨T4, h4, X4, e4, W4, st4⟩ := putF X3 hx hZ hown (host := "") (Or.inl (hw _ (List.mem_of_getElem? (i := 17) rfl))) Via.refl e3 f3_F_r0_lowest f3_E_r0 (Or.inr ⟨(hw _ (List.mem_of_getElem? (i := 18) rfl)), rfl, hnm⟩) (hw _ (List.mem_of_getElem? (i := 2) rfl)) (ty := .double) (by decide) rfl rfl (g := (mkF m 11 #[.val (.ref r0), .val (.double p1), .second, .val (.double p2), .second, .val (.double p3), .second] [(.double p2), (.ref r0)])) rfl rfl (hb hby own_dt_11)
  have f4_E_r0 := f3_E_r0.wr W4
  have f4_F_r0_median := f3_F_r0_median.other W4 (Or.inr (slot_ne (Or.inr (hw _ (List.mem_of_getElem? (i := 16) rfl))) (Or.inr (hw _ (List.mem_of_getElem? (i := 18) rfl))) (by decide) (t := .double) (t' := .double) (by decide) (by decide)))
  have f4_F_r0_lowest := f3_F_r0_lowest.same W4
  have f4_F_r0_highest := f3_F_r0_highest.other W4 (Or.inr (slot_ne (Or.inr (hw _ (List.mem_of_getElem? (i := 20) rfl))) (Or.inr (hw _ (List.mem_of_getElem? (i := 18) rfl))) (by decide) (t := .double) (t' := .double) (by decide) (by decide)))
  have K4 := K3.wr W4 (Or.inl (List.mem_of_getElem? (i := 0) rfl))
  have Z4 := Nat.le_trans Z3 (Keep.of_wr W4).1
  have N4 := Fr.snoc X4 N3 g0
  refine oS (u' := T4.setTop (mkF m 14 #[.val (.ref r0), .val (.double p1), .second, .val (.double p2), .second, .val (.double p3), .second] [])) st4 ?_
  refine oS (u' := T4.setTop (mkF m 15 #[.val (.ref r0), .val (.double p1), .second, .val (.double p2), .second, .val (.double p3), .second] [(.ref r0)])) (fun _ kst => XS.aloadN X4.here hx rfl (hb hby own_dt_14) rfl rfl kst) ?_
  refine oS (u' := T4.setTop (mkF m 17 #[.val (.ref r0), .val (.double p1), .second, .val (.double p2), .second, .val (.double p3), .second] [(.double p3), (.ref r0)])) (fun _ kst => XS.dload X4.here hx rfl (hb hby own_dt_15) rfl kst) ?_
  obtain ⟨T5, h5, X5, e5, W5, st5⟩ := putF X4 hx hZ hown (host := "") (Or.inl (hw _ (List.mem_of_getElem? (i := 19) rfl))) Via.refl e4 f4_F_r0_highest f4_E_r0 (Or.inr ⟨(hw _ (List.mem_of_getElem? (i := 20) rfl)), rfl, hnm⟩) (hw _ (List.mem_of_getElem? (i := 2) rfl)) (ty := .double) (by decide) rfl rfl (g := (mkF m 17 #[.val (.ref r0), .val (.double p1), .second, .val (.double p2), .second, .val (.double p3), .second] [(.double p3), (.ref r0)])) rfl rfl (hb hby own_dt_17)
  have f5_E_r0 := f4_E_r0.wr W5
  have f5_F_r0_median := f4_F_r0_median.other W5 (Or.inr (slot_ne (Or.inr (hw _ (List.mem_of_getElem? (i := 16) rfl))) (Or.inr (hw _ (List.mem_of_getElem? (i := 20) rfl))) (by decide) (t := .double) (t' := .double) (by decide) (by decide)))
  have f5_F_r0_lowest := f4_F_r0_lowest.other W5 (Or.inr (slot_ne (Or.inr (hw _ (List.mem_of_getElem? (i := 18) rfl))) (Or.inr (hw _ (List.mem_of_getElem? (i := 20) rfl))) (by decide) (t := .double) (t' := .double) (by decide) (by decide)))
  have f5_F_r0_highest := f4_F_r0_highest.same W5
  have K5 := K4.wr W5 (Or.inl (List.mem_of_getElem? (i := 0) rfl))
  have Z5 := Nat.le_trans Z4 (Keep.of_wr W5).1
  have N5 := Fr.snoc X5 N4 g0
  refine oS (u' := T5.setTop (mkF m 20 #[.val (.ref r0), .val (.double p1), .second, .val (.double p2), .second, .val (.double p3), .second] [])) st5 ?_
  refine own_ret0 X5 hx hlk hret (hb hby own_dt_20) ?_ (by decide) (by decide)
  show _ ∧ _
  rw [e5]
  exact ⟨rfl, N5, K5, f5_F_r0_median, f5_F_r0_lowest, f5_F_r0_highest⟩
theorem own_dc_0 : decode prog_15_method_1_code 0 = .ok (.aload_n 0, 1) := by decide +kernel
theorem own_dc_1 : decode prog_15_method_1_code 1 = .ok (.invokespecial 1, 3) := by decide +kernel
theorem own_dc_4 : decode prog_15_method_1_code 4 = .ok (.aload_n 0, 1) := by decide +kernel
theorem own_dc_5 : decode prog_15_method_1_code 5 = .ok (.aload_n 1, 1) := by decide +kernel
theorem own_dc_6 : decode prog_15_method_1_code 6 = .ok (.putfield 7, 3) := by decide +kernel
theorem own_dc_9 : decode prog_15_method_1_code 9 = .ok (.aload_n 0, 1) := by decide +kernel
theorem own_dc_10 : decode prog_15_method_1_code 10 = .ok (.aload_n 2, 1) := by decide +kernel
theorem own_dc_11 : decode prog_15_method_1_code 11 = .ok (.putfield 13, 3) := by decide +kernel
theorem own_dc_14 : decode prog_15_method_1_code 14 = .ok (.return_, 1) := by decide +kernel
theorem own_pn_SideBySide_Comparison : plainName "com/example/untwist_forms/untwistforms/bench/SideBySide$Comparison" = true := by first | (simp [plainName, overriddenIn]; done) | decide +kernel
theorem own_efc (m : MethodId) (x0 : Addr) (x1 : Addr) (x2 : Addr) : entryFrame m #[(.ref x0), (.ref x1), (.ref x2)] 3 = mkF m 0 #[.val (.ref x0), .val (.ref x1), .val (.ref x2)] [] := by first | (simp [entryFrame, mkF, argsToLocals, Value.category, maxLocals]; done) | rfl
set_option maxRecDepth 65536 in
set_option maxHeartbeats 40000000 in
theorem own_rm_cminit (l : Launch) (Z : State) (a0 : Array Value) (hw : ∀ d ∈ tables_1, d.before a0 Z = true) (r0 : Addr) (p1 : Addr) (p2 : Addr) (h0 : Heap) (n0 : Nat) (Z0 : n0 ≤ h0.size) (E0 : Exa Z h0 r0 "com/example/untwist_forms/untwistforms/bench/SideBySide$Comparison") (F0 : Fld Z h0 r0 "com/example/untwist_forms/untwistforms/bench/SideBySide$Comparison" "ours" "Lcom/example/untwist_forms/untwistforms/bench/SideBySide$Throughputs;" .null) (F1 : Fld Z h0 r0 "com/example/untwist_forms/untwistforms/bench/SideBySide$Comparison" "peer" "Lcom/example/untwist_forms/untwistforms/bench/SideBySide$Throughputs;" .null) (g0 : n0 ≤ r0) : own_Con l Z [] (⟨"com/example/untwist_forms/untwistforms/bench/SideBySide$Comparison", "<init>", "(Lcom/example/untwist_forms/untwistforms/bench/SideBySide$Throughputs;Lcom/example/untwist_forms/untwistforms/bench/SideBySide$Throughputs;)V"⟩ : MethodName) prog_15_method_1_code 3 none ({ frames := 2, cells := 0, slots := 0, locals := 24 } : Room) #[(.ref r0), (.ref p1), (.ref p2)] h0 (fun v h L => v = none ∧ Fr n0 L ∧ Keep h0 h [r0] ∧ Fld Z h r0 "com/example/untwist_forms/untwistforms/bench/SideBySide$Comparison" "ours" "Lcom/example/untwist_forms/untwistforms/bench/SideBySide$Throughputs;" (.ref p1) ∧ Fld Z h r0 "com/example/untwist_forms/untwistforms/bench/SideBySide$Comparison" "peer" "Lcom/example/untwist_forms/untwistforms/bench/SideBySide$Throughputs;" (.ref p2)) := by
  refine own_body (plainFor_of_name own_pn_SideBySide_Comparison) ?_
  intro p e s m below meth c s₁ X0 hx hby hml hret hlk hown hnm hZ e0
  have N0 := Fr.nil n0
  have K0 : Keep h0 h0 [r0] := Keep.refl _ _
  refine oS (u' := s₁.setTop (mkF m 0 #[.val (.ref r0), .val (.ref p1), .val (.ref p2)] [])) (fun _ kst => castTop (own_efc m r0 p1 p2) kst) ?_
  refine oS (u' := s₁.setTop (mkF m 1 #[.val (.ref r0), .val (.ref p1), .val (.ref p2)] [(.ref r0)])) (fun _ kst => XS.aloadN X0.here hx rfl (hb hby own_dc_0) rfl rfl kst) ?_
  obtain ⟨T6, X6, e6, st6⟩ := own_callIP X0 hx hZ (y := (⟨"java/lang/Record", "<init>", "()V"⟩ : MethodName)) rfl hown (hw _ (List.mem_of_getElem? (i := 27) rfl)) (hw _ (List.mem_of_getElem? (i := 8) rfl)) (hw _ (List.mem_of_getElem? (i := 11) rfl)) (hw _ (List.mem_of_getElem? (i := 10) rfl)) (by decide) e0 (W := 0) (own_rm_recinit l Z a0 hw r0 h0) (by decide) (by decide) (g := (mkF m 1 #[.val (.ref r0), .val (.ref p1), .val (.ref p2)] [(.ref r0)])) rfl (by rw [hml]; rfl) (a := r0) (argsL := []) (rest := []) (lenOf own_pd0 rfl) rfl (by show 2 * 0 + _ ≤ _; exact Nat.le_of_eq rfl) (hb hby own_dc_1) (by decide) (by decide)
  refine oS (u' := T6.setTop (mkF m 4 #[.val (.ref r0), .val (.ref p1), .val (.ref p2)] [])) st6 ?_
  refine oS (u' := T6.setTop (mkF m 5 #[.val (.ref r0), .val (.ref p1), .val (.ref p2)] [(.ref r0)])) (fun _ kst => XS.aloadN X6.here hx rfl (hb hby own_dc_4) rfl rfl kst) ?_
  refine oS (u' := T6.setTop (mkF m 6 #[.val (.ref r0), .val (.ref p1), .val (.ref p2)] [(.ref p1), (.ref r0)])) (fun _ kst => XS.aloadN X6.here hx rfl (hb hby own_dc_5) rfl rfl kst) ?_
  obtain ⟨T7, h7, X7, e7, W7, st7⟩ := putF X6 hx hZ hown (host := "") (Or.inl (hw _ (List.mem_of_getElem? (i := 28) rfl))) Via.refl e6 F0 E0 (Or.inr ⟨(hw _ (List.mem_of_getElem? (i := 29) rfl)), rfl, hnm⟩) (hw _ (List.mem_of_getElem? (i := 22) rfl)) (ty := (.object "com/example/untwist_forms/untwistforms/bench/SideBySide$Throughputs")) (by decide) rfl rfl (g := (mkF m 6 #[.val (.ref r0), .val (.ref p1), .val (.ref p2)] [(.ref p1), (.ref r0)])) rfl rfl (hb hby own_dc_6)
  have f7_E_r0 := E0.wr W7
  have f7_F_r0_ours := F0.same W7
  have f7_F_r0_peer := F1.other W7 (Or.inr (slot_ne (Or.inr (hw _ (List.mem_of_getElem? (i := 31) rfl))) (Or.inr (hw _ (List.mem_of_getElem? (i := 29) rfl))) (by decide) (t := (.object "com/example/untwist_forms/untwistforms/bench/SideBySide$Throughputs")) (t' := (.object "com/example/untwist_forms/untwistforms/bench/SideBySide$Throughputs")) (by decide) (by decide)))
  have K7 := K0.wr W7 (Or.inl (List.mem_of_getElem? (i := 0) rfl))
  have Z7 := Nat.le_trans Z0 (Keep.of_wr W7).1
  have N7 := Fr.snoc X7 N0 g0
  refine oS (u' := T7.setTop (mkF m 9 #[.val (.ref r0), .val (.ref p1), .val (.ref p2)] [])) st7 ?_
  refine oS (u' := T7.setTop (mkF m 10 #[.val (.ref r0), .val (.ref p1), .val (.ref p2)] [(.ref r0)])) (fun _ kst => XS.aloadN X7.here hx rfl (hb hby own_dc_9) rfl rfl kst) ?_
  refine oS (u' := T7.setTop (mkF m 11 #[.val (.ref r0), .val (.ref p1), .val (.ref p2)] [(.ref p2), (.ref r0)])) (fun _ kst => XS.aloadN X7.here hx rfl (hb hby own_dc_10) rfl rfl kst) ?_
  obtain ⟨T8, h8, X8, e8, W8, st8⟩ := putF X7 hx hZ hown (host := "") (Or.inl (hw _ (List.mem_of_getElem? (i := 30) rfl))) Via.refl e7 f7_F_r0_peer f7_E_r0 (Or.inr ⟨(hw _ (List.mem_of_getElem? (i := 31) rfl)), rfl, hnm⟩) (hw _ (List.mem_of_getElem? (i := 22) rfl)) (ty := (.object "com/example/untwist_forms/untwistforms/bench/SideBySide$Throughputs")) (by decide) rfl rfl (g := (mkF m 11 #[.val (.ref r0), .val (.ref p1), .val (.ref p2)] [(.ref p2), (.ref r0)])) rfl rfl (hb hby own_dc_11)
  have f8_E_r0 := f7_E_r0.wr W8
  have f8_F_r0_ours := f7_F_r0_ours.other W8 (Or.inr (slot_ne (Or.inr (hw _ (List.mem_of_getElem? (i := 29) rfl))) (Or.inr (hw _ (List.mem_of_getElem? (i := 31) rfl))) (by decide) (t := (.object "com/example/untwist_forms/untwistforms/bench/SideBySide$Throughputs")) (t' := (.object "com/example/untwist_forms/untwistforms/bench/SideBySide$Throughputs")) (by decide) (by decide)))
  have f8_F_r0_peer := f7_F_r0_peer.same W8
  have K8 := K7.wr W8 (Or.inl (List.mem_of_getElem? (i := 0) rfl))
  have Z8 := Nat.le_trans Z7 (Keep.of_wr W8).1
  have N8 := Fr.snoc X8 N7 g0
  refine oS (u' := T8.setTop (mkF m 14 #[.val (.ref r0), .val (.ref p1), .val (.ref p2)] [])) st8 ?_
  refine own_ret0 X8 hx hlk hret (hb hby own_dc_14) ?_ (by decide) (by decide)
  show _ ∧ _
  rw [e8]
  exact ⟨rfl, N8, K8, f8_F_r0_ours, f8_F_r0_peer⟩
theorem own_dm_0 : decode prog_16_method_6_code 0 = .ok (.aload_n 0, 1) := by decide +kernel
theorem own_dm_1 : decode prog_16_method_6_code 1 = .ok (.getfield 7, 3) := by decide +kernel
theorem own_dm_4 : decode prog_16_method_6_code 4 = .ok (.dreturn, 1) := by decide +kernel
theorem own_efm (m : MethodId) (x0 : Addr) : entryFrame m #[(.ref x0)] 1 = mkF m 0 #[.val (.ref x0)] [] := by first | (simp [entryFrame, mkF, argsToLocals, Value.category, maxLocals]; done) | rfl
set_option maxRecDepth 65536 in
set_option maxHeartbeats 40000000 in
theorem own_rm_median (l : Launch) (Z : State) (a0 : Array Value) (hw : ∀ d ∈ tables_1, d.before a0 Z = true) (r0 : Addr) (v : UInt64) (h0 : Heap) (F1 : Fld Z h0 r0 "com/example/untwist_forms/untwistforms/bench/SideBySide$Throughputs" "median" "D" (.double v)) : own_Con l Z [] (⟨"com/example/untwist_forms/untwistforms/bench/SideBySide$Throughputs", "median", "()D"⟩ : MethodName) prog_16_method_6_code 1 (some .double) ({ frames := 0, cells := 0, slots := 0, locals := 0 } : Room) #[(.ref r0)] h0 (own_Q1 (some (.double v)) h0) := by
  refine own_body (plainFor_of_name own_pn_SideBySide_Throughputs) ?_
  intro p e s m below meth c s₁ X0 hx hby hml hret hlk hown hnm hZ e0
  refine oS (u' := s₁.setTop (mkF m 0 #[.val (.ref r0)] [])) (fun _ kst => castTop (own_efm m r0) kst) ?_
  refine oS (u' := s₁.setTop (mkF m 1 #[.val (.ref r0)] [(.ref r0)])) (fun _ kst => XS.aloadN X0.here hx rfl (hb hby own_dm_0) rfl rfl kst) ?_
  obtain ⟨T9, X9, e9, st9⟩ := getF X0 hx hZ hown (host := "") (Or.inl (hw _ (List.mem_of_getElem? (i := 15) rfl))) Via.refl e0 F1 (g := (mkF m 1 #[.val (.ref r0)] [(.ref r0)])) rfl rfl (hb hby own_dm_1)
  refine oS (u' := T9.setTop (mkF m 4 #[.val (.ref r0)] [(.double v)])) st9 ?_
  refine own_retD X9 hx hlk hret (hb hby own_dm_4) ?_ (by decide) (by decide)
  exact ⟨rfl, e9, rfl⟩
theorem own_dq_0 : decode prog_15_method_2_code 0 = .ok (.aload_n 0, 1) := by decide +kernel
theorem own_dq_1 : decode prog_15_method_2_code 1 = .ok (.getfield 7, 3) := by decide +kernel
theorem own_dq_4 : decode prog_15_method_2_code 4 = .ok (.invokevirtual 16, 3) := by decide +kernel
theorem own_dq_7 : decode prog_15_method_2_code 7 = .ok (.aload_n 0, 1) := by decide +kernel
theorem own_dq_8 : decode prog_15_method_2_code 8 = .ok (.getfield 13, 3) := by decide +kernel
theorem own_dq_11 : decode prog_15_method_2_code 11 = .ok (.invokevirtual 16, 3) := by decide +kernel
theorem own_dq_14 : decode prog_15_method_2_code 14 = .ok (.ddiv, 1) := by decide +kernel
theorem own_dq_15 : decode prog_15_method_2_code 15 = .ok (.dreturn, 1) := by decide +kernel
theorem own_efq (m : MethodId) (x0 : Addr) : entryFrame m #[(.ref x0)] 1 = mkF m 0 #[.val (.ref x0)] [] := by first | (simp [entryFrame, mkF, argsToLocals, Value.category, maxLocals]; done) | rfl
theorem own_pd1 : parseMethodDescriptor "()D" = some ⟨[], some .double⟩ := by decide +kernel
set_option maxRecDepth 65536 in
set_option maxHeartbeats 40000000 in
theorem own_rm_ratio (l : Launch) (Z : State) (a0 : Array Value) (hw : ∀ d ∈ tables_1, d.before a0 Z = true) (r0 : Addr) (u : Addr) (v : Addr) (x : UInt64) (y : UInt64) (h0 : Heap) (Fu : Fld Z h0 r0 "com/example/untwist_forms/untwistforms/bench/SideBySide$Comparison" "ours" "Lcom/example/untwist_forms/untwistforms/bench/SideBySide$Throughputs;" (.ref u)) (Fv : Fld Z h0 r0 "com/example/untwist_forms/untwistforms/bench/SideBySide$Comparison" "peer" "Lcom/example/untwist_forms/untwistforms/bench/SideBySide$Throughputs;" (.ref v)) (Eu : Exa Z h0 u "com/example/untwist_forms/untwistforms/bench/SideBySide$Throughputs") (Ev : Exa Z h0 v "com/example/untwist_forms/untwistforms/bench/SideBySide$Throughputs") (Mu : Fld Z h0 u "com/example/untwist_forms/untwistforms/bench/SideBySide$Throughputs" "median" "D" (.double x)) (Mv : Fld Z h0 v "com/example/untwist_forms/untwistforms/bench/SideBySide$Throughputs" "median" "D" (.double y)) (no : Jvm.Free.Fl.NoNaN64 (FP.ddiv x y)) : own_Con l Z [] (⟨"com/example/untwist_forms/untwistforms/bench/SideBySide$Comparison", "ratio", "()D"⟩ : MethodName) prog_15_method_2_code 1 (some .double) ({ frames := 1, cells := 0, slots := 0, locals := 14 } : Room) #[(.ref r0)] h0 (own_Q1 (some (.double (FP.ddiv x y))) h0) := by
  refine own_body (plainFor_of_name own_pn_SideBySide_Comparison) ?_
  intro p e s m below meth c s₁ X0 hx hby hml hret hlk hown hnm hZ e0
  refine oS (u' := s₁.setTop (mkF m 0 #[.val (.ref r0)] [])) (fun _ kst => castTop (own_efq m r0) kst) ?_
  refine oS (u' := s₁.setTop (mkF m 1 #[.val (.ref r0)] [(.ref r0)])) (fun _ kst => XS.aloadN X0.here hx rfl (hb hby own_dq_0) rfl rfl kst) ?_
  obtain ⟨T10, X10, e10, st10⟩ := getF X0 hx hZ hown (host := "") (Or.inl (hw _ (List.mem_of_getElem? (i := 28) rfl))) Via.refl e0 Fu (g := (mkF m 1 #[.val (.ref r0)] [(.ref r0)])) rfl rfl (hb hby own_dq_1)
  refine oS (u' := T10.setTop (mkF m 4 #[.val (.ref r0)] [(.ref u)])) st10 ?_
  obtain ⟨T11, X11, e11, st11⟩ := own_callVP X10 hx hZ (y := (⟨"com/example/untwist_forms/untwistforms/bench/SideBySide$Throughputs", "median", "()D"⟩ : MethodName)) (z := (⟨"com/example/untwist_forms/untwistforms/bench/SideBySide$Throughputs", "median", "()D"⟩ : MethodName)) hown (hw _ (List.mem_of_getElem? (i := 37) rfl)) (hw _ (List.mem_of_getElem? (i := 38) rfl)) (notFace_of_selects (args := #[]) (mvT hZ (hw _ (List.mem_of_getElem? (i := 40) rfl)))) (hw _ (List.mem_of_getElem? (i := 40) rfl)) (hw _ (List.mem_of_getElem? (i := 39) rfl)) (by decide) e10 Eu (W := 0) (own_rm_median l Z a0 hw u x h0 Mu) (hw _ (List.mem_of_getElem? (i := 41) rfl)) (hw _ (List.mem_of_getElem? (i := 3) rfl)) (by decide) (by decide) (g := (mkF m 4 #[.val (.ref r0)] [(.ref u)])) rfl (by rw [hml]; rfl) (b := u) (argsL := []) (rest := []) (lenOf own_pd1 rfl) rfl (by show 2 * 0 + _ ≤ _; exact Nat.le_of_eq rfl) (hb hby own_dq_4) (by decide) (by decide)
  refine oS (u' := T11.setTop (mkF m 7 #[.val (.ref r0)] [(.double x)])) st11 ?_
  refine oS (u' := T11.setTop (mkF m 8 #[.val (.ref r0)] [(.ref r0), (.double x)])) (fun _ kst => XS.aloadN X11.here hx rfl (hb hby own_dq_7) rfl rfl kst) ?_
  obtain ⟨T12, X12, e12, st12⟩ := getF X11 hx hZ hown (host := "") (Or.inl (hw _ (List.mem_of_getElem? (i := 30) rfl))) Via.refl e11 Fv (g := (mkF m 8 #[.val (.ref r0)] [(.ref r0), (.double x)])) rfl rfl (hb hby own_dq_8)
  refine oS (u' := T12.setTop (mkF m 11 #[.val (.ref r0)] [(.ref v), (.double x)])) st12 ?_
  obtain ⟨T13, X13, e13, st13⟩ := own_callVP X12 hx hZ (y := (⟨"com/example/untwist_forms/untwistforms/bench/SideBySide$Throughputs", "median", "()D"⟩ : MethodName)) (z := (⟨"com/example/untwist_forms/untwistforms/bench/SideBySide$Throughputs", "median", "()D"⟩ : MethodName)) hown (hw _ (List.mem_of_getElem? (i := 37) rfl)) (hw _ (List.mem_of_getElem? (i := 38) rfl)) (notFace_of_selects (args := #[]) (mvT hZ (hw _ (List.mem_of_getElem? (i := 40) rfl)))) (hw _ (List.mem_of_getElem? (i := 40) rfl)) (hw _ (List.mem_of_getElem? (i := 39) rfl)) (by decide) e12 Ev (W := 2) (own_rm_median l Z a0 hw v y h0 Mv) (hw _ (List.mem_of_getElem? (i := 41) rfl)) (hw _ (List.mem_of_getElem? (i := 3) rfl)) (by decide) (by decide) (g := (mkF m 11 #[.val (.ref r0)] [(.ref v), (.double x)])) rfl (by rw [hml]; rfl) (b := v) (argsL := []) (rest := [(.double x)]) (lenOf own_pd1 rfl) rfl (by show 2 * 0 + _ ≤ _; exact Nat.le_of_eq rfl) (hb hby own_dq_11) (by decide) (by decide)
  refine oS (u' := T13.setTop (mkF m 14 #[.val (.ref r0)] [(.double y), (.double x)])) st13 ?_
  refine oS (u' := T13.setTop (mkF m 15 #[.val (.ref r0)] [(.double (FP.ddiv x y))])) (fun _ kst => XS.ddivS X13.here hx rfl (hb hby own_dq_14) rfl no rfl kst) ?_
  refine own_retD X13 hx hlk hret (hb hby own_dq_15) ?_ (by decide) (by decide)
  exact ⟨rfl, e13, rfl⟩
theorem own_mask20 (x : Int32) : 1 ≤ ((x &&& (1048575 : Int32)) + (1 : Int32)).toInt ∧ ((x &&& (1048575 : Int32)) + (1 : Int32)).toInt ≤ 1048576 := by
  have e1 : (x &&& (1048575 : Int32)).toInt = x.toInt % 2 ^ 20 := Jvm.Kit.i32_mask x 1048575 (k := 20) (by decide) (by decide)
  rw [Jvm.Kit.i32_add (by rw [e1, show (1 : Int32).toInt = 1 from rfl]; omega) (by rw [e1, show (1 : Int32).toInt = 1 from rfl]; omega), e1, show (1 : Int32).toInt = 1 from rfl]; omega
theorem own_abs_mul {k b : Int} (h1 : -2147483648 ≤ k) (h2 : k < 2147483648) (h3 : 1 ≤ b) (h4 : b ≤ 1048576) : (k * b).natAbs < 2 ^ 53 := by
  have e : (k * b).natAbs = k.natAbs * b.natAbs := Int.natAbs_mul k b
  have := Nat.mul_le_mul (show k.natAbs ≤ 2147483648 by omega) (show b.natAbs ≤ 1048576 by omega)
  omega
theorem own_prod_int {k b : Int32} (h3 : 1 ≤ b.toInt) (h4 : b.toInt ≤ 1048576) : (k.toInt64 * b.toInt64).toInt = k.toInt * b.toInt := by
  have h1 := Int32.le_toInt k
  have h2 := Int32.toInt_lt k
  have hb := own_abs_mul (k := k.toInt) (b := b.toInt) (by omega) (by omega) h3 h4
  have := Int64.toInt_mul k.toInt64 b.toInt64
  rw [Int32.toInt_toInt64, Int32.toInt_toInt64] at this
  rw [this]
  exact Int.bmod_eq_of_le (by omega) (by omega)
theorem own_V_q {k b : Int32} (h3 : 1 ≤ b.toInt) (h4 : b.toInt ≤ 1048576) : own_V (FP.ddiv (FP.l2d (k.toInt64 * b.toInt64)) (FP.i2d b)) k.toInt 0 := by
  have h1 := Int32.le_toInt k
  have h2 := Int32.toInt_lt k
  have hb := own_abs_mul (k := k.toInt) (b := b.toInt) (by omega) (by omega) h3 h4
  have e := own_prod_int (k := k) h3 h4
  refine own_V_div (a := k.toInt * b.toInt) (b := b.toInt) (k := 0) (l := 0) ?_ (own_V_i2d b) (by omega) (by decide) (by omega) rfl
  rw [← e]
  exact own_V_l2d (by rw [e]; exact hb)
theorem own_m3 {k b : Int32} (h3 : 1 ≤ b.toInt) (h4 : b.toInt ≤ 1048576) : cmpValue (FP.dcmp (FP.ddiv (FP.l2d (k.toInt64 * b.toInt64)) (FP.i2d b)) (FP.i2d k)) .l = (0 : Int32) :=
  (own_V_ci .l (own_V_q h3 h4) (own_V_i2d k)).trans (own_ci_self _)

theorem own_pn_ComparisonRatioPinLaw : plainName "com/example/untwist_forms/untwistforms/bench/ComparisonRatioPinLaw" = true := by first | (simp [plainName, overriddenIn]; done) | decide +kernel
theorem own_ef0 (m : MethodId) (x0 : Int32) (x1 : Int32) (x2 : Int32) (x3 : Int32) (x4 : Int32) (x5 : Int32) : entryFrame m #[(.int x0), (.int x1), (.int x2), (.int x3), (.int x4), (.int x5)] maxLocals = mkF m 0 #[.val (.int x0), .val (.int x1), .val (.int x2), .val (.int x3), .val (.int x4), .val (.int x5), .unset, .unset, .unset, .unset, .unset, .unset, .unset] [] := by first | (simp [entryFrame, mkF, argsToLocals, Value.category, maxLocals]; done) | rfl
theorem own_pd2 : parseMethodDescriptor "(DDD)V" = some ⟨[.double, .double, .double], none⟩ := by decide +kernel
theorem own_pd3 : parseMethodDescriptor "(Lcom/example/untwist_forms/untwistforms/bench/SideBySide$Throughputs;Lcom/example/untwist_forms/untwistforms/bench/SideBySide$Throughputs;)V" = some ⟨[(.object "com/example/untwist_forms/untwistforms/bench/SideBySide$Throughputs"), (.object "com/example/untwist_forms/untwistforms/bench/SideBySide$Throughputs")], none⟩ := by decide +kernel
set_option maxRecDepth 65536 in
set_option maxHeartbeats 40000000 in
theorem own_law (l : Launch) (Z : State) (a0 : Array Value) (hw : ∀ d ∈ tables_1, d.before a0 Z = true) (p1 : Int32) (p2 : Int32) (p3 : Int32) (p4 : Int32) (p5 : Int32) (p6 : Int32) (h0 : Heap) (n0 : Nat) (Z0 : n0 ≤ h0.size) : own_Con l Z tables_1 x code maxLocals ret room_1 #[(.int p1), (.int p2), (.int p3), (.int p4), (.int p5), (.int p6)] h0 (fun v _ L => v = some (.int (1 : Int32)) ∧ Fr n0 L) := by
  refine own_body (plainFor_of_name own_pn_ComparisonRatioPinLaw) ?_
  intro p e s m below meth c s₁ X0 hx hby hml hret hlk hown hnm hZ e0
  have N0 := Fr.nil n0
  refine oS (u' := s₁.setTop (mkF m 0 #[.val (.int p1), .val (.int p2), .val (.int p3), .val (.int p4), .val (.int p5), .val (.int p6), .unset, .unset, .unset, .unset, .unset, .unset, .unset] [])) (fun _ kst => castTop (own_ef0 m p1 p2 p3 p4 p5 p6) kst) ?_
  refine oS (u' := s₁.setTop (mkF m 1 #[.val (.int p1), .val (.int p2), .val (.int p3), .val (.int p4), .val (.int p5), .val (.int p6), .unset, .unset, .unset, .unset, .unset, .unset, .unset] [(.int p2)])) (fun _ kst => XS.iloadN X0.here hx rfl (hb hby at_0) rfl kst) ?_
  refine oS (u' := s₁.setTop (mkF m 3 #[.val (.int p1), .val (.int p2), .val (.int p3), .val (.int p4), .val (.int p5), .val (.int p6), .unset, .unset, .unset, .unset, .unset, .unset, .unset] [(.int (1048575 : Int32)), (.int p2)])) (fun _ kst => X0.ldcInt hx hown (mvT hZ (hw _ (List.mem_of_getElem? (i := 0) rfl))) (g := (mkF m 1 #[.val (.int p1), .val (.int p2), .val (.int p3), .val (.int p4), .val (.int p5), .val (.int p6), .unset, .unset, .unset, .unset, .unset, .unset, .unset] [(.int p2)])) rfl (hb hby at_1) _ kst) ?_
  refine oS (u' := s₁.setTop (mkF m 4 #[.val (.int p1), .val (.int p2), .val (.int p3), .val (.int p4), .val (.int p5), .val (.int p6), .unset, .unset, .unset, .unset, .unset, .unset, .unset] [(.int (p2 &&& (1048575 : Int32)))])) (fun _ kst => XS.iand X0.here hx rfl (hb hby at_3) rfl kst) ?_
  refine oS (u' := s₁.setTop (mkF m 5 #[.val (.int p1), .val (.int p2), .val (.int p3), .val (.int p4), .val (.int p5), .val (.int p6), .unset, .unset, .unset, .unset, .unset, .unset, .unset] [(.int (1 : Int32)), (.int (p2 &&& (1048575 : Int32)))])) (fun _ kst => XS.iconst X0.here hx rfl (hb hby at_4) kst) ?_
  refine oS (u' := s₁.setTop (mkF m 6 #[.val (.int p1), .val (.int p2), .val (.int p3), .val (.int p4), .val (.int p5), .val (.int p6), .unset, .unset, .unset, .unset, .unset, .unset, .unset] [(.int ((p2 &&& (1048575 : Int32)) + (1 : Int32)))])) (fun _ kst => XS.iadd X0.here hx rfl (hb hby at_5) rfl kst) ?_
  refine oS (u' := s₁.setTop (mkF m 8 #[.val (.int p1), .val (.int p2), .val (.int p3), .val (.int p4), .val (.int p5), .val (.int p6), .val (.int ((p2 &&& (1048575 : Int32)) + (1 : Int32))), .unset, .unset, .unset, .unset, .unset, .unset] [])) (fun _ kst => XS.istore X0.here hx rfl (hb hby at_6) rfl (l' := #[.val (.int p1), .val (.int p2), .val (.int p3), .val (.int p4), .val (.int p5), .val (.int p6), .val (.int ((p2 &&& (1048575 : Int32)) + (1 : Int32))), .unset, .unset, .unset, .unset, .unset, .unset]) rfl kst) ?_
  refine oS (u' := s₁.setTop (mkF m 9 #[.val (.int p1), .val (.int p2), .val (.int p3), .val (.int p4), .val (.int p5), .val (.int p6), .val (.int ((p2 &&& (1048575 : Int32)) + (1 : Int32))), .unset, .unset, .unset, .unset, .unset, .unset] [(.int p1)])) (fun _ kst => XS.iloadN X0.here hx rfl (hb hby at_8) rfl kst) ?_
  refine oS (u' := s₁.setTop (mkF m 10 #[.val (.int p1), .val (.int p2), .val (.int p3), .val (.int p4), .val (.int p5), .val (.int p6), .val (.int ((p2 &&& (1048575 : Int32)) + (1 : Int32))), .unset, .unset, .unset, .unset, .unset, .unset] [(.long p1.toInt64)])) (fun _ kst => XS.i2l X0.here hx rfl (hb hby at_9) rfl kst) ?_
  refine oS (u' := s₁.setTop (mkF m 12 #[.val (.int p1), .val (.int p2), .val (.int p3), .val (.int p4), .val (.int p5), .val (.int p6), .val (.int ((p2 &&& (1048575 : Int32)) + (1 : Int32))), .unset, .unset, .unset, .unset, .unset, .unset] [(.int ((p2 &&& (1048575 : Int32)) + (1 : Int32))), (.long p1.toInt64)])) (fun _ kst => XS.iload X0.here hx rfl (hb hby at_10) rfl kst) ?_
  refine oS (u' := s₁.setTop (mkF m 13 #[.val (.int p1), .val (.int p2), .val (.int p3), .val (.int p4), .val (.int p5), .val (.int p6), .val (.int ((p2 &&& (1048575 : Int32)) + (1 : Int32))), .unset, .unset, .unset, .unset, .unset, .unset] [(.long ((p2 &&& (1048575 : Int32)) + (1 : Int32)).toInt64), (.long p1.toInt64)])) (fun _ kst => XS.i2l X0.here hx rfl (hb hby at_12) rfl kst) ?_
  refine oS (u' := s₁.setTop (mkF m 14 #[.val (.int p1), .val (.int p2), .val (.int p3), .val (.int p4), .val (.int p5), .val (.int p6), .val (.int ((p2 &&& (1048575 : Int32)) + (1 : Int32))), .unset, .unset, .unset, .unset, .unset, .unset] [(.long (p1.toInt64 * ((p2 &&& (1048575 : Int32)) + (1 : Int32)).toInt64))])) (fun _ kst => XS.lmul X0.here hx rfl (hb hby at_13) rfl kst) ?_
  refine oS (u' := s₁.setTop (mkF m 16 #[.val (.int p1), .val (.int p2), .val (.int p3), .val (.int p4), .val (.int p5), .val (.int p6), .val (.int ((p2 &&& (1048575 : Int32)) + (1 : Int32))), .val (.long (p1.toInt64 * ((p2 &&& (1048575 : Int32)) + (1 : Int32)).toInt64)), .second, .unset, .unset, .unset, .unset] [])) (fun _ kst => XS.lstore X0.here hx rfl (hb hby at_14) rfl (l' := #[.val (.int p1), .val (.int p2), .val (.int p3), .val (.int p4), .val (.int p5), .val (.int p6), .val (.int ((p2 &&& (1048575 : Int32)) + (1 : Int32))), .val (.long (p1.toInt64 * ((p2 &&& (1048575 : Int32)) + (1 : Int32)).toInt64)), .second, .unset, .unset, .unset, .unset]) rfl kst) ?_
  obtain ⟨T14, h14, X14, e14, E14, A14, D14, -, st14⟩ := newO X0 hx hZ hown (hw _ (List.mem_of_getElem? (i := 1) rfl)) (hw _ (List.mem_of_getElem? (i := 2) rfl)) (hw _ (List.mem_of_getElem? (i := 3) rfl)) e0 (g := (mkF m 16 #[.val (.int p1), .val (.int p2), .val (.int p3), .val (.int p4), .val (.int p5), .val (.int p6), .val (.int ((p2 &&& (1048575 : Int32)) + (1 : Int32))), .val (.long (p1.toInt64 * ((p2 &&& (1048575 : Int32)) + (1 : Int32)).toInt64)), .second, .unset, .unset, .unset, .unset] [])) rfl (hb hby at_16) (by decide) (by decide)
  obtain ⟨b14, g14⟩ : ∃ z, z = h0.size := ⟨_, rfl⟩
  rw [← g14] at A14 D14 st14
  have gb_b14 : n0 ≤ b14 := Nat.le_trans Z0 (Nat.le_of_eq g14.symm)
  have Z14 := Nat.le_trans Z0 E14.1
  have f14_F_median : Fld Z h14 b14 "com/example/untwist_forms/untwistforms/bench/SideBySide$Throughputs" "median" "D" (.double (0 : UInt64)) := D14 (Or.inr (hw _ (List.mem_of_getElem? (i := 16) rfl))) (ty := .double) (by decide)
  have f14_F_lowest : Fld Z h14 b14 "com/example/untwist_forms/untwistforms/bench/SideBySide$Throughputs" "lowest" "D" (.double (0 : UInt64)) := D14 (Or.inr (hw _ (List.mem_of_getElem? (i := 18) rfl))) (ty := .double) (by decide)
  have f14_F_highest : Fld Z h14 b14 "com/example/untwist_forms/untwistforms/bench/SideBySide$Throughputs" "highest" "D" (.double (0 : UInt64)) := D14 (Or.inr (hw _ (List.mem_of_getElem? (i := 20) rfl))) (ty := .double) (by decide)
  refine oS (u' := T14.setTop (mkF m 19 #[.val (.int p1), .val (.int p2), .val (.int p3), .val (.int p4), .val (.int p5), .val (.int p6), .val (.int ((p2 &&& (1048575 : Int32)) + (1 : Int32))), .val (.long (p1.toInt64 * ((p2 &&& (1048575 : Int32)) + (1 : Int32)).toInt64)), .second, .unset, .unset, .unset, .unset] [(.ref b14)])) st14 ?_
  refine oS (u' := T14.setTop (mkF m 20 #[.val (.int p1), .val (.int p2), .val (.int p3), .val (.int p4), .val (.int p5), .val (.int p6), .val (.int ((p2 &&& (1048575 : Int32)) + (1 : Int32))), .val (.long (p1.toInt64 * ((p2 &&& (1048575 : Int32)) + (1 : Int32)).toInt64)), .second, .unset, .unset, .unset, .unset] [(.ref b14), (.ref b14)])) (fun _ kst => XS.dup X14.here hx rfl (hb hby at_19) rfl rfl kst) ?_
  refine oS (u' := T14.setTop (mkF m 22 #[.val (.int p1), .val (.int p2), .val (.int p3), .val (.int p4), .val (.int p5), .val (.int p6), .val (.int ((p2 &&& (1048575 : Int32)) + (1 : Int32))), .val (.long (p1.toInt64 * ((p2 &&& (1048575 : Int32)) + (1 : Int32)).toInt64)), .second, .unset, .unset, .unset, .unset] [(.long (p1.toInt64 * ((p2 &&& (1048575 : Int32)) + (1 : Int32)).toInt64)), (.ref b14), (.ref b14)])) (fun _ kst => XS.lload X14.here hx rfl (hb hby at_20) rfl kst) ?_
  refine oS (u' := T14.setTop (mkF m 23 #[.val (.int p1), .val (.int p2), .val (.int p3), .val (.int p4), .val (.int p5), .val (.int p6), .val (.int ((p2 &&& (1048575 : Int32)) + (1 : Int32))), .val (.long (p1.toInt64 * ((p2 &&& (1048575 : Int32)) + (1 : Int32)).toInt64)), .second, .unset, .unset, .unset, .unset] [(.double (FP.l2d (p1.toInt64 * ((p2 &&& (1048575 : Int32)) + (1 : Int32)).toInt64))), (.ref b14), (.ref b14)])) (fun _ kst => XS.l2dS X14.here hx rfl (hb hby at_22) rfl rfl kst) ?_
  refine oS (u' := T14.setTop (mkF m 24 #[.val (.int p1), .val (.int p2), .val (.int p3), .val (.int p4), .val (.int p5), .val (.int p6), .val (.int ((p2 &&& (1048575 : Int32)) + (1 : Int32))), .val (.long (p1.toInt64 * ((p2 &&& (1048575 : Int32)) + (1 : Int32)).toInt64)), .second, .unset, .unset, .unset, .unset] [(.int p3), (.double (FP.l2d (p1.toInt64 * ((p2 &&& (1048575 : Int32)) + (1 : Int32)).toInt64))), (.ref b14), (.ref b14)])) (fun _ kst => XS.iloadN X14.here hx rfl (hb hby at_23) rfl kst) ?_
  refine oS (u' := T14.setTop (mkF m 25 #[.val (.int p1), .val (.int p2), .val (.int p3), .val (.int p4), .val (.int p5), .val (.int p6), .val (.int ((p2 &&& (1048575 : Int32)) + (1 : Int32))), .val (.long (p1.toInt64 * ((p2 &&& (1048575 : Int32)) + (1 : Int32)).toInt64)), .second, .unset, .unset, .unset, .unset] [(.double (FP.i2d p3)), (.double (FP.l2d (p1.toInt64 * ((p2 &&& (1048575 : Int32)) + (1 : Int32)).toInt64))), (.ref b14), (.ref b14)])) (fun _ kst => XS.i2dS X14.here hx rfl (hb hby at_24) rfl rfl kst) ?_
  refine oS (u' := T14.setTop (mkF m 26 #[.val (.int p1), .val (.int p2), .val (.int p3), .val (.int p4), .val (.int p5), .val (.int p6), .val (.int ((p2 &&& (1048575 : Int32)) + (1 : Int32))), .val (.long (p1.toInt64 * ((p2 &&& (1048575 : Int32)) + (1 : Int32)).toInt64)), .second, .unset, .unset, .unset, .unset] [(.int p4), (.double (FP.i2d p3)), (.double (FP.l2d (p1.toInt64 * ((p2 &&& (1048575 : Int32)) + (1 : Int32)).toInt64))), (.ref b14), (.ref b14)])) (fun _ kst => XS.iloadN X14.here hx rfl (hb hby at_25) rfl kst) ?_
  refine oS (u' := T14.setTop (mkF m 27 #[.val (.int p1), .val (.int p2), .val (.int p3), .val (.int p4), .val (.int p5), .val (.int p6), .val (.int ((p2 &&& (1048575 : Int32)) + (1 : Int32))), .val (.long (p1.toInt64 * ((p2 &&& (1048575 : Int32)) + (1 : Int32)).toInt64)), .second, .unset, .unset, .unset, .unset] [(.double (FP.i2d p4)), (.double (FP.i2d p3)), (.double (FP.l2d (p1.toInt64 * ((p2 &&& (1048575 : Int32)) + (1 : Int32)).toInt64))), (.ref b14), (.ref b14)])) (fun _ kst => XS.i2dS X14.here hx rfl (hb hby at_26) rfl rfl kst) ?_
  obtain ⟨v15, T15, L15, X15, hQ15, st15⟩ := own_callI X14 hx hZ (y := (⟨"com/example/untwist_forms/untwistforms/bench/SideBySide$Throughputs", "<init>", "(DDD)V"⟩ : MethodName)) rfl hown (hw _ (List.mem_of_getElem? (i := 4) rfl)) (hw _ (List.mem_of_getElem? (i := 5) rfl)) (hw _ (List.mem_of_getElem? (i := 6) rfl)) (hw _ (List.mem_of_getElem? (i := 3) rfl)) (by decide) e14 (W := 1) (own_rm_thinit l Z a0 hw b14 (FP.l2d (p1.toInt64 * ((p2 &&& (1048575 : Int32)) + (1 : Int32)).toInt64)) (FP.i2d p3) (FP.i2d p4) h14 n0 Z14 A14 f14_F_median f14_F_lowest f14_F_highest gb_b14) (by decide) (by decide) (g := (mkF m 27 #[.val (.int p1), .val (.int p2), .val (.int p3), .val (.int p4), .val (.int p5), .val (.int p6), .val (.int ((p2 &&& (1048575 : Int32)) + (1 : Int32))), .val (.long (p1.toInt64 * ((p2 &&& (1048575 : Int32)) + (1 : Int32)).toInt64)), .second, .unset, .unset, .unset, .unset] [(.double (FP.i2d p4)), (.double (FP.i2d p3)), (.double (FP.l2d (p1.toInt64 * ((p2 &&& (1048575 : Int32)) + (1 : Int32)).toInt64))), (.ref b14), (.ref b14)])) rfl (by rw [hml]; rfl) (a := b14) (argsL := [(.double (FP.l2d (p1.toInt64 * ((p2 &&& (1048575 : Int32)) + (1 : Int32)).toInt64))), (.double (FP.i2d p3)), (.double (FP.i2d p4))]) (rest := [(.ref b14)]) (lenOf own_pd2 rfl) rfl (by show 2 * 0 + _ ≤ _; exact Nat.le_of_eq rfl) (hb hby at_27) (by decide) (by decide)
  obtain ⟨rfl, Nq15, Kq15, q15_0, q15_1, q15_2⟩ := hQ15
  have f15_E_b14 := A14.keep Kq15
  have Z15 := Nat.le_trans Z14 Kq15.1
  have N15 := Fr.app N0 Nq15
  refine oS (u' := T15.setTop (mkF m 30 #[.val (.int p1), .val (.int p2), .val (.int p3), .val (.int p4), .val (.int p5), .val (.int p6), .val (.int ((p2 &&& (1048575 : Int32)) + (1 : Int32))), .val (.long (p1.toInt64 * ((p2 &&& (1048575 : Int32)) + (1 : Int32)).toInt64)), .second, .unset, .unset, .unset, .unset] [(.ref b14)])) st15 ?_
  refine oS (u' := T15.setTop (mkF m 32 #[.val (.int p1), .val (.int p2), .val (.int p3), .val (.int p4), .val (.int p5), .val (.int p6), .val (.int ((p2 &&& (1048575 : Int32)) + (1 : Int32))), .val (.long (p1.toInt64 * ((p2 &&& (1048575 : Int32)) + (1 : Int32)).toInt64)), .second, .val (.ref b14), .unset, .unset, .unset] [])) (fun _ kst => XS.astore X15.here hx rfl (hb hby at_30) rfl rfl (l' := #[.val (.int p1), .val (.int p2), .val (.int p3), .val (.int p4), .val (.int p5), .val (.int p6), .val (.int ((p2 &&& (1048575 : Int32)) + (1 : Int32))), .val (.long (p1.toInt64 * ((p2 &&& (1048575 : Int32)) + (1 : Int32)).toInt64)), .second, .val (.ref b14), .unset, .unset, .unset]) rfl kst) ?_
  obtain ⟨T16, h16, X16, e16, E16, A16, D16, -, st16⟩ := newO X15 hx hZ hown (hw _ (List.mem_of_getElem? (i := 1) rfl)) (hw _ (List.mem_of_getElem? (i := 2) rfl)) (hw _ (List.mem_of_getElem? (i := 3) rfl)) rfl (g := (mkF m 32 #[.val (.int p1), .val (.int p2), .val (.int p3), .val (.int p4), .val (.int p5), .val (.int p6), .val (.int ((p2 &&& (1048575 : Int32)) + (1 : Int32))), .val (.long (p1.toInt64 * ((p2 &&& (1048575 : Int32)) + (1 : Int32)).toInt64)), .second, .val (.ref b14), .unset, .unset, .unset] [])) rfl (hb hby at_32) (by decide) (by decide)
  obtain ⟨b16, g16⟩ : ∃ z, z = T15.heap.size := ⟨_, rfl⟩
  rw [← g16] at A16 D16 st16
  have ne_b14_b16 : b14 ≠ b16 := Nat.ne_of_lt (Nat.lt_of_lt_of_le (f15_E_b14).lt (Nat.le_of_eq g16.symm))
  have f16_E_b14 := f15_E_b14.ext E16
  have f16_F_b14_median := q15_0.ext E16
  have f16_F_b14_lowest := q15_1.ext E16
  have f16_F_b14_highest := q15_2.ext E16
  have gb_b16 : n0 ≤ b16 := Nat.le_trans Z15 (Nat.le_of_eq g16.symm)
  have Z16 := Nat.le_trans Z15 E16.1
  have f16_F_median : Fld Z h16 b16 "com/example/untwist_forms/untwistforms/bench/SideBySide$Throughputs" "median" "D" (.double (0 : UInt64)) := D16 (Or.inr (hw _ (List.mem_of_getElem? (i := 16) rfl))) (ty := .double) (by decide)
  have f16_F_lowest : Fld Z h16 b16 "com/example/untwist_forms/untwistforms/bench/SideBySide$Throughputs" "lowest" "D" (.double (0 : UInt64)) := D16 (Or.inr (hw _ (List.mem_of_getElem? (i := 18) rfl))) (ty := .double) (by decide)
  have f16_F_highest : Fld Z h16 b16 "com/example/untwist_forms/untwistforms/bench/SideBySide$Throughputs" "highest" "D" (.double (0 : UInt64)) := D16 (Or.inr (hw _ (List.mem_of_getElem? (i := 20) rfl))) (ty := .double) (by decide)
  refine oS (u' := T16.setTop (mkF m 35 #[.val (.int p1), .val (.int p2), .val (.int p3), .val (.int p4), .val (.int p5), .val (.int p6), .val (.int ((p2 &&& (1048575 : Int32)) + (1 : Int32))), .val (.long (p1.toInt64 * ((p2 &&& (1048575 : Int32)) + (1 : Int32)).toInt64)), .second, .val (.ref b14), .unset, .unset, .unset] [(.ref b16)])) st16 ?_
  refine oS (u' := T16.setTop (mkF m 36 #[.val (.int p1), .val (.int p2), .val (.int p3), .val (.int p4), .val (.int p5), .val (.int p6), .val (.int ((p2 &&& (1048575 : Int32)) + (1 : Int32))), .val (.long (p1.toInt64 * ((p2 &&& (1048575 : Int32)) + (1 : Int32)).toInt64)), .second, .val (.ref b14), .unset, .unset, .unset] [(.ref b16), (.ref b16)])) (fun _ kst => XS.dup X16.here hx rfl (hb hby at_35) rfl rfl kst) ?_
  refine oS (u' := T16.setTop (mkF m 38 #[.val (.int p1), .val (.int p2), .val (.int p3), .val (.int p4), .val (.int p5), .val (.int p6), .val (.int ((p2 &&& (1048575 : Int32)) + (1 : Int32))), .val (.long (p1.toInt64 * ((p2 &&& (1048575 : Int32)) + (1 : Int32)).toInt64)), .second, .val (.ref b14), .unset, .unset, .unset] [(.int ((p2 &&& (1048575 : Int32)) + (1 : Int32))), (.ref b16), (.ref b16)])) (fun _ kst => XS.iload X16.here hx rfl (hb hby at_36) rfl kst) ?_
  refine oS (u' := T16.setTop (mkF m 39 #[.val (.int p1), .val (.int p2), .val (.int p3), .val (.int p4), .val (.int p5), .val (.int p6), .val (.int ((p2 &&& (1048575 : Int32)) + (1 : Int32))), .val (.long (p1.toInt64 * ((p2 &&& (1048575 : Int32)) + (1 : Int32)).toInt64)), .second, .val (.ref b14), .unset, .unset, .unset] [(.double (FP.i2d ((p2 &&& (1048575 : Int32)) + (1 : Int32)))), (.ref b16), (.ref b16)])) (fun _ kst => XS.i2dS X16.here hx rfl (hb hby at_38) rfl rfl kst) ?_
  refine oS (u' := T16.setTop (mkF m 41 #[.val (.int p1), .val (.int p2), .val (.int p3), .val (.int p4), .val (.int p5), .val (.int p6), .val (.int ((p2 &&& (1048575 : Int32)) + (1 : Int32))), .val (.long (p1.toInt64 * ((p2 &&& (1048575 : Int32)) + (1 : Int32)).toInt64)), .second, .val (.ref b14), .unset, .unset, .unset] [(.int p5), (.double (FP.i2d ((p2 &&& (1048575 : Int32)) + (1 : Int32)))), (.ref b16), (.ref b16)])) (fun _ kst => XS.iload X16.here hx rfl (hb hby at_39) rfl kst) ?_
  refine oS (u' := T16.setTop (mkF m 42 #[.val (.int p1), .val (.int p2), .val (.int p3), .val (.int p4), .val (.int p5), .val (.int p6), .val (.int ((p2 &&& (1048575 : Int32)) + (1 : Int32))), .val (.long (p1.toInt64 * ((p2 &&& (1048575 : Int32)) + (1 : Int32)).toInt64)), .second, .val (.ref b14), .unset, .unset, .unset] [(.double (FP.i2d p5)), (.double (FP.i2d ((p2 &&& (1048575 : Int32)) + (1 : Int32)))), (.ref b16), (.ref b16)])) (fun _ kst => XS.i2dS X16.here hx rfl (hb hby at_41) rfl rfl kst) ?_
  refine oS (u' := T16.setTop (mkF m 44 #[.val (.int p1), .val (.int p2), .val (.int p3), .val (.int p4), .val (.int p5), .val (.int p6), .val (.int ((p2 &&& (1048575 : Int32)) + (1 : Int32))), .val (.long (p1.toInt64 * ((p2 &&& (1048575 : Int32)) + (1 : Int32)).toInt64)), .second, .val (.ref b14), .unset, .unset, .unset] [(.int p6), (.double (FP.i2d p5)), (.double (FP.i2d ((p2 &&& (1048575 : Int32)) + (1 : Int32)))), (.ref b16), (.ref b16)])) (fun _ kst => XS.iload X16.here hx rfl (hb hby at_42) rfl kst) ?_
  refine oS (u' := T16.setTop (mkF m 45 #[.val (.int p1), .val (.int p2), .val (.int p3), .val (.int p4), .val (.int p5), .val (.int p6), .val (.int ((p2 &&& (1048575 : Int32)) + (1 : Int32))), .val (.long (p1.toInt64 * ((p2 &&& (1048575 : Int32)) + (1 : Int32)).toInt64)), .second, .val (.ref b14), .unset, .unset, .unset] [(.double (FP.i2d p6)), (.double (FP.i2d p5)), (.double (FP.i2d ((p2 &&& (1048575 : Int32)) + (1 : Int32)))), (.ref b16), (.ref b16)])) (fun _ kst => XS.i2dS X16.here hx rfl (hb hby at_44) rfl rfl kst) ?_
  obtain ⟨v17, T17, L17, X17, hQ17, st17⟩ := own_callI X16 hx hZ (y := (⟨"com/example/untwist_forms/untwistforms/bench/SideBySide$Throughputs", "<init>", "(DDD)V"⟩ : MethodName)) rfl hown (hw _ (List.mem_of_getElem? (i := 4) rfl)) (hw _ (List.mem_of_getElem? (i := 5) rfl)) (hw _ (List.mem_of_getElem? (i := 6) rfl)) (hw _ (List.mem_of_getElem? (i := 3) rfl)) (by decide) e16 (W := 1) (own_rm_thinit l Z a0 hw b16 (FP.i2d ((p2 &&& (1048575 : Int32)) + (1 : Int32))) (FP.i2d p5) (FP.i2d p6) h16 n0 Z16 A16 f16_F_median f16_F_lowest f16_F_highest gb_b16) (by decide) (by decide) (g := (mkF m 45 #[.val (.int p1), .val (.int p2), .val (.int p3), .val (.int p4), .val (.int p5), .val (.int p6), .val (.int ((p2 &&& (1048575 : Int32)) + (1 : Int32))), .val (.long (p1.toInt64 * ((p2 &&& (1048575 : Int32)) + (1 : Int32)).toInt64)), .second, .val (.ref b14), .unset, .unset, .unset] [(.double (FP.i2d p6)), (.double (FP.i2d p5)), (.double (FP.i2d ((p2 &&& (1048575 : Int32)) + (1 : Int32)))), (.ref b16), (.ref b16)])) rfl (by rw [hml]; rfl) (a := b16) (argsL := [(.double (FP.i2d ((p2 &&& (1048575 : Int32)) + (1 : Int32)))), (.double (FP.i2d p5)), (.double (FP.i2d p6))]) (rest := [(.ref b16)]) (lenOf own_pd2 rfl) rfl (by show 2 * 0 + _ ≤ _; exact Nat.le_of_eq rfl) (hb hby at_45) (by decide) (by decide)
  obtain ⟨rfl, Nq17, Kq17, q17_0, q17_1, q17_2⟩ := hQ17
  have f17_E_b14 := f16_E_b14.keep Kq17
  have f17_F_b14_median := f16_F_b14_median.keep Kq17 (ninS ne_b14_b16 nin0)
  have f17_F_b14_lowest := f16_F_b14_lowest.keep Kq17 (ninS ne_b14_b16 nin0)
  have f17_F_b14_highest := f16_F_b14_highest.keep Kq17 (ninS ne_b14_b16 nin0)
  have f17_E_b16 := A16.keep Kq17
  have Z17 := Nat.le_trans Z16 Kq17.1
  have N17 := Fr.app N15 Nq17
  refine oS (u' := T17.setTop (mkF m 48 #[.val (.int p1), .val (.int p2), .val (.int p3), .val (.int p4), .val (.int p5), .val (.int p6), .val (.int ((p2 &&& (1048575 : Int32)) + (1 : Int32))), .val (.long (p1.toInt64 * ((p2 &&& (1048575 : Int32)) + (1 : Int32)).toInt64)), .second, .val (.ref b14), .unset, .unset, .unset] [(.ref b16)])) st17 ?_
  refine oS (u' := T17.setTop (mkF m 50 #[.val (.int p1), .val (.int p2), .val (.int p3), .val (.int p4), .val (.int p5), .val (.int p6), .val (.int ((p2 &&& (1048575 : Int32)) + (1 : Int32))), .val (.long (p1.toInt64 * ((p2 &&& (1048575 : Int32)) + (1 : Int32)).toInt64)), .second, .val (.ref b14), .val (.ref b16), .unset, .unset] [])) (fun _ kst => XS.astore X17.here hx rfl (hb hby at_48) rfl rfl (l' := #[.val (.int p1), .val (.int p2), .val (.int p3), .val (.int p4), .val (.int p5), .val (.int p6), .val (.int ((p2 &&& (1048575 : Int32)) + (1 : Int32))), .val (.long (p1.toInt64 * ((p2 &&& (1048575 : Int32)) + (1 : Int32)).toInt64)), .second, .val (.ref b14), .val (.ref b16), .unset, .unset]) rfl kst) ?_
  obtain ⟨T18, h18, X18, e18, E18, A18, D18, -, st18⟩ := newO X17 hx hZ hown (hw _ (List.mem_of_getElem? (i := 21) rfl)) (hw _ (List.mem_of_getElem? (i := 22) rfl)) (hw _ (List.mem_of_getElem? (i := 23) rfl)) rfl (g := (mkF m 50 #[.val (.int p1), .val (.int p2), .val (.int p3), .val (.int p4), .val (.int p5), .val (.int p6), .val (.int ((p2 &&& (1048575 : Int32)) + (1 : Int32))), .val (.long (p1.toInt64 * ((p2 &&& (1048575 : Int32)) + (1 : Int32)).toInt64)), .second, .val (.ref b14), .val (.ref b16), .unset, .unset] [])) rfl (hb hby at_50) (by decide) (by decide)
  obtain ⟨b18, g18⟩ : ∃ z, z = T17.heap.size := ⟨_, rfl⟩
  rw [← g18] at A18 D18 st18
  have ne_b14_b18 : b14 ≠ b18 := Nat.ne_of_lt (Nat.lt_of_lt_of_le (f17_E_b14).lt (Nat.le_of_eq g18.symm))
  have ne_b16_b18 : b16 ≠ b18 := Nat.ne_of_lt (Nat.lt_of_lt_of_le (f17_E_b16).lt (Nat.le_of_eq g18.symm))
  have f18_E_b14 := f17_E_b14.ext E18
  have f18_F_b14_median := f17_F_b14_median.ext E18
  have f18_F_b14_lowest := f17_F_b14_lowest.ext E18
  have f18_F_b14_highest := f17_F_b14_highest.ext E18
  have f18_E_b16 := f17_E_b16.ext E18
  have f18_F_b16_median := q17_0.ext E18
  have f18_F_b16_lowest := q17_1.ext E18
  have f18_F_b16_highest := q17_2.ext E18
  have gb_b18 : n0 ≤ b18 := Nat.le_trans Z17 (Nat.le_of_eq g18.symm)
  have Z18 := Nat.le_trans Z17 E18.1
  have f18_F_ours : Fld Z h18 b18 "com/example/untwist_forms/untwistforms/bench/SideBySide$Comparison" "ours" "Lcom/example/untwist_forms/untwistforms/bench/SideBySide$Throughputs;" .null := D18 (Or.inr (hw _ (List.mem_of_getElem? (i := 29) rfl))) (ty := (.object "com/example/untwist_forms/untwistforms/bench/SideBySide$Throughputs")) (by decide)
  have f18_F_peer : Fld Z h18 b18 "com/example/untwist_forms/untwistforms/bench/SideBySide$Comparison" "peer" "Lcom/example/untwist_forms/untwistforms/bench/SideBySide$Throughputs;" .null := D18 (Or.inr (hw _ (List.mem_of_getElem? (i := 31) rfl))) (ty := (.object "com/example/untwist_forms/untwistforms/bench/SideBySide$Throughputs")) (by decide)
  refine oS (u' := T18.setTop (mkF m 53 #[.val (.int p1), .val (.int p2), .val (.int p3), .val (.int p4), .val (.int p5), .val (.int p6), .val (.int ((p2 &&& (1048575 : Int32)) + (1 : Int32))), .val (.long (p1.toInt64 * ((p2 &&& (1048575 : Int32)) + (1 : Int32)).toInt64)), .second, .val (.ref b14), .val (.ref b16), .unset, .unset] [(.ref b18)])) st18 ?_
  refine oS (u' := T18.setTop (mkF m 54 #[.val (.int p1), .val (.int p2), .val (.int p3), .val (.int p4), .val (.int p5), .val (.int p6), .val (.int ((p2 &&& (1048575 : Int32)) + (1 : Int32))), .val (.long (p1.toInt64 * ((p2 &&& (1048575 : Int32)) + (1 : Int32)).toInt64)), .second, .val (.ref b14), .val (.ref b16), .unset, .unset] [(.ref b18), (.ref b18)])) (fun _ kst => XS.dup X18.here hx rfl (hb hby at_53) rfl rfl kst) ?_
  refine oS (u' := T18.setTop (mkF m 56 #[.val (.int p1), .val (.int p2), .val (.int p3), .val (.int p4), .val (.int p5), .val (.int p6), .val (.int ((p2 &&& (1048575 : Int32)) + (1 : Int32))), .val (.long (p1.toInt64 * ((p2 &&& (1048575 : Int32)) + (1 : Int32)).toInt64)), .second, .val (.ref b14), .val (.ref b16), .unset, .unset] [(.ref b14), (.ref b18), (.ref b18)])) (fun _ kst => XS.aload X18.here hx rfl (hb hby at_54) rfl rfl kst) ?_
  refine oS (u' := T18.setTop (mkF m 58 #[.val (.int p1), .val (.int p2), .val (.int p3), .val (.int p4), .val (.int p5), .val (.int p6), .val (.int ((p2 &&& (1048575 : Int32)) + (1 : Int32))), .val (.long (p1.toInt64 * ((p2 &&& (1048575 : Int32)) + (1 : Int32)).toInt64)), .second, .val (.ref b14), .val (.ref b16), .unset, .unset] [(.ref b16), (.ref b14), (.ref b18), (.ref b18)])) (fun _ kst => XS.aload X18.here hx rfl (hb hby at_56) rfl rfl kst) ?_
  obtain ⟨v19, T19, L19, X19, hQ19, st19⟩ := own_callI X18 hx hZ (y := (⟨"com/example/untwist_forms/untwistforms/bench/SideBySide$Comparison", "<init>", "(Lcom/example/untwist_forms/untwistforms/bench/SideBySide$Throughputs;Lcom/example/untwist_forms/untwistforms/bench/SideBySide$Throughputs;)V"⟩ : MethodName)) rfl hown (hw _ (List.mem_of_getElem? (i := 24) rfl)) (hw _ (List.mem_of_getElem? (i := 25) rfl)) (hw _ (List.mem_of_getElem? (i := 26) rfl)) (hw _ (List.mem_of_getElem? (i := 23) rfl)) (by decide) e18 (W := 1) (own_rm_cminit l Z a0 hw b18 b14 b16 h18 n0 Z18 A18 f18_F_ours f18_F_peer gb_b18) (by decide) (by decide) (g := (mkF m 58 #[.val (.int p1), .val (.int p2), .val (.int p3), .val (.int p4), .val (.int p5), .val (.int p6), .val (.int ((p2 &&& (1048575 : Int32)) + (1 : Int32))), .val (.long (p1.toInt64 * ((p2 &&& (1048575 : Int32)) + (1 : Int32)).toInt64)), .second, .val (.ref b14), .val (.ref b16), .unset, .unset] [(.ref b16), (.ref b14), (.ref b18), (.ref b18)])) rfl (by rw [hml]; rfl) (a := b18) (argsL := [(.ref b14), (.ref b16)]) (rest := [(.ref b18)]) (lenOf own_pd3 rfl) rfl (by show 2 * 0 + _ ≤ _; exact Nat.le_of_eq rfl) (hb hby at_58) (by decide) (by decide)
  obtain ⟨rfl, Nq19, Kq19, q19_0, q19_1⟩ := hQ19
  have f19_E_b14 := f18_E_b14.keep Kq19
  have f19_F_b14_median := f18_F_b14_median.keep Kq19 (ninS ne_b14_b18 nin0)
  have f19_F_b14_lowest := f18_F_b14_lowest.keep Kq19 (ninS ne_b14_b18 nin0)
  have f19_F_b14_highest := f18_F_b14_highest.keep Kq19 (ninS ne_b14_b18 nin0)
  have f19_E_b16 := f18_E_b16.keep Kq19
  have f19_F_b16_median := f18_F_b16_median.keep Kq19 (ninS ne_b16_b18 nin0)
  have f19_F_b16_lowest := f18_F_b16_lowest.keep Kq19 (ninS ne_b16_b18 nin0)
  have f19_F_b16_highest := f18_F_b16_highest.keep Kq19 (ninS ne_b16_b18 nin0)
  have f19_E_b18 := A18.keep Kq19
  have Z19 := Nat.le_trans Z18 Kq19.1
  have N19 := Fr.app N17 Nq19
  refine oS (u' := T19.setTop (mkF m 61 #[.val (.int p1), .val (.int p2), .val (.int p3), .val (.int p4), .val (.int p5), .val (.int p6), .val (.int ((p2 &&& (1048575 : Int32)) + (1 : Int32))), .val (.long (p1.toInt64 * ((p2 &&& (1048575 : Int32)) + (1 : Int32)).toInt64)), .second, .val (.ref b14), .val (.ref b16), .unset, .unset] [(.ref b18)])) st19 ?_
  obtain ⟨T20, X20, e20, st20⟩ := own_callVP X19 hx hZ (y := (⟨"com/example/untwist_forms/untwistforms/bench/SideBySide$Comparison", "ratio", "()D"⟩ : MethodName)) (z := (⟨"com/example/untwist_forms/untwistforms/bench/SideBySide$Comparison", "ratio", "()D"⟩ : MethodName)) hown (hw _ (List.mem_of_getElem? (i := 32) rfl)) (hw _ (List.mem_of_getElem? (i := 33) rfl)) (notFace_of_selects (args := #[]) (mvT hZ (hw _ (List.mem_of_getElem? (i := 35) rfl)))) (hw _ (List.mem_of_getElem? (i := 35) rfl)) (hw _ (List.mem_of_getElem? (i := 34) rfl)) (by decide) rfl f19_E_b18 (W := 0) (own_rm_ratio l Z a0 hw b18 b14 b16 (FP.l2d (p1.toInt64 * ((p2 &&& (1048575 : Int32)) + (1 : Int32)).toInt64)) (FP.i2d ((p2 &&& (1048575 : Int32)) + (1 : Int32))) T19.heap q19_0 q19_1 f19_E_b14 f19_E_b16 f19_F_b14_median f19_F_b16_median (own_V_no (own_V_q (own_mask20 p2).1 (own_mask20 p2).2))) (hw _ (List.mem_of_getElem? (i := 36) rfl)) (hw _ (List.mem_of_getElem? (i := 23) rfl)) (by decide) (by decide) (g := (mkF m 61 #[.val (.int p1), .val (.int p2), .val (.int p3), .val (.int p4), .val (.int p5), .val (.int p6), .val (.int ((p2 &&& (1048575 : Int32)) + (1 : Int32))), .val (.long (p1.toInt64 * ((p2 &&& (1048575 : Int32)) + (1 : Int32)).toInt64)), .second, .val (.ref b14), .val (.ref b16), .unset, .unset] [(.ref b18)])) rfl (by rw [hml]; rfl) (b := b18) (argsL := []) (rest := []) (lenOf own_pd1 rfl) rfl (by show 2 * 0 + _ ≤ _; exact Nat.le_of_eq rfl) (hb hby at_61) (by decide) (by decide)
  refine oS (u' := T20.setTop (mkF m 64 #[.val (.int p1), .val (.int p2), .val (.int p3), .val (.int p4), .val (.int p5), .val (.int p6), .val (.int ((p2 &&& (1048575 : Int32)) + (1 : Int32))), .val (.long (p1.toInt64 * ((p2 &&& (1048575 : Int32)) + (1 : Int32)).toInt64)), .second, .val (.ref b14), .val (.ref b16), .unset, .unset] [(.double (FP.ddiv (FP.l2d (p1.toInt64 * ((p2 &&& (1048575 : Int32)) + (1 : Int32)).toInt64)) (FP.i2d ((p2 &&& (1048575 : Int32)) + (1 : Int32)))))])) st20 ?_
  refine oS (u' := T20.setTop (mkF m 66 #[.val (.int p1), .val (.int p2), .val (.int p3), .val (.int p4), .val (.int p5), .val (.int p6), .val (.int ((p2 &&& (1048575 : Int32)) + (1 : Int32))), .val (.long (p1.toInt64 * ((p2 &&& (1048575 : Int32)) + (1 : Int32)).toInt64)), .second, .val (.ref b14), .val (.ref b16), .val (.double (FP.ddiv (FP.l2d (p1.toInt64 * ((p2 &&& (1048575 : Int32)) + (1 : Int32)).toInt64)) (FP.i2d ((p2 &&& (1048575 : Int32)) + (1 : Int32))))), .second] [])) (fun _ kst => XS.dstore X20.here hx rfl (hb hby at_64) rfl (l' := #[.val (.int p1), .val (.int p2), .val (.int p3), .val (.int p4), .val (.int p5), .val (.int p6), .val (.int ((p2 &&& (1048575 : Int32)) + (1 : Int32))), .val (.long (p1.toInt64 * ((p2 &&& (1048575 : Int32)) + (1 : Int32)).toInt64)), .second, .val (.ref b14), .val (.ref b16), .val (.double (FP.ddiv (FP.l2d (p1.toInt64 * ((p2 &&& (1048575 : Int32)) + (1 : Int32)).toInt64)) (FP.i2d ((p2 &&& (1048575 : Int32)) + (1 : Int32))))), .second]) rfl kst) ?_
  refine oS (u' := T20.setTop (mkF m 68 #[.val (.int p1), .val (.int p2), .val (.int p3), .val (.int p4), .val (.int p5), .val (.int p6), .val (.int ((p2 &&& (1048575 : Int32)) + (1 : Int32))), .val (.long (p1.toInt64 * ((p2 &&& (1048575 : Int32)) + (1 : Int32)).toInt64)), .second, .val (.ref b14), .val (.ref b16), .val (.double (FP.ddiv (FP.l2d (p1.toInt64 * ((p2 &&& (1048575 : Int32)) + (1 : Int32)).toInt64)) (FP.i2d ((p2 &&& (1048575 : Int32)) + (1 : Int32))))), .second] [(.double (FP.ddiv (FP.l2d (p1.toInt64 * ((p2 &&& (1048575 : Int32)) + (1 : Int32)).toInt64)) (FP.i2d ((p2 &&& (1048575 : Int32)) + (1 : Int32)))))])) (fun _ kst => XS.dload X20.here hx rfl (hb hby at_66) rfl kst) ?_
  refine oS (u' := T20.setTop (mkF m 69 #[.val (.int p1), .val (.int p2), .val (.int p3), .val (.int p4), .val (.int p5), .val (.int p6), .val (.int ((p2 &&& (1048575 : Int32)) + (1 : Int32))), .val (.long (p1.toInt64 * ((p2 &&& (1048575 : Int32)) + (1 : Int32)).toInt64)), .second, .val (.ref b14), .val (.ref b16), .val (.double (FP.ddiv (FP.l2d (p1.toInt64 * ((p2 &&& (1048575 : Int32)) + (1 : Int32)).toInt64)) (FP.i2d ((p2 &&& (1048575 : Int32)) + (1 : Int32))))), .second] [(.int p1), (.double (FP.ddiv (FP.l2d (p1.toInt64 * ((p2 &&& (1048575 : Int32)) + (1 : Int32)).toInt64)) (FP.i2d ((p2 &&& (1048575 : Int32)) + (1 : Int32)))))])) (fun _ kst => XS.iloadN X20.here hx rfl (hb hby at_68) rfl kst) ?_
  refine oS (u' := T20.setTop (mkF m 70 #[.val (.int p1), .val (.int p2), .val (.int p3), .val (.int p4), .val (.int p5), .val (.int p6), .val (.int ((p2 &&& (1048575 : Int32)) + (1 : Int32))), .val (.long (p1.toInt64 * ((p2 &&& (1048575 : Int32)) + (1 : Int32)).toInt64)), .second, .val (.ref b14), .val (.ref b16), .val (.double (FP.ddiv (FP.l2d (p1.toInt64 * ((p2 &&& (1048575 : Int32)) + (1 : Int32)).toInt64)) (FP.i2d ((p2 &&& (1048575 : Int32)) + (1 : Int32))))), .second] [(.double (FP.i2d p1)), (.double (FP.ddiv (FP.l2d (p1.toInt64 * ((p2 &&& (1048575 : Int32)) + (1 : Int32)).toInt64)) (FP.i2d ((p2 &&& (1048575 : Int32)) + (1 : Int32)))))])) (fun _ kst => XS.i2dS X20.here hx rfl (hb hby at_69) rfl rfl kst) ?_
  refine oS (u' := T20.setTop (mkF m 71 #[.val (.int p1), .val (.int p2), .val (.int p3), .val (.int p4), .val (.int p5), .val (.int p6), .val (.int ((p2 &&& (1048575 : Int32)) + (1 : Int32))), .val (.long (p1.toInt64 * ((p2 &&& (1048575 : Int32)) + (1 : Int32)).toInt64)), .second, .val (.ref b14), .val (.ref b16), .val (.double (FP.ddiv (FP.l2d (p1.toInt64 * ((p2 &&& (1048575 : Int32)) + (1 : Int32)).toInt64)) (FP.i2d ((p2 &&& (1048575 : Int32)) + (1 : Int32))))), .second] [(.int (0 : Int32))])) (fun _ kst => XS.dcmpS X20.here hx rfl (hb hby at_70) rfl (own_m3 (own_mask20 p2).1 (own_mask20 p2).2) kst) ?_
  refine oS (u' := T20.setTop (mkF m 74 #[.val (.int p1), .val (.int p2), .val (.int p3), .val (.int p4), .val (.int p5), .val (.int p6), .val (.int ((p2 &&& (1048575 : Int32)) + (1 : Int32))), .val (.long (p1.toInt64 * ((p2 &&& (1048575 : Int32)) + (1 : Int32)).toInt64)), .second, .val (.ref b14), .val (.ref b16), .val (.double (FP.ddiv (FP.l2d (p1.toInt64 * ((p2 &&& (1048575 : Int32)) + (1 : Int32)).toInt64)) (FP.i2d ((p2 &&& (1048575 : Int32)) + (1 : Int32))))), .second] [])) (fun _ kst => XS.ifNo X20.here hx rfl (hb hby at_71) rfl ((if0 _ _).trans (teq rfl).2) kst) ?_
  refine oS (u' := T20.setTop (mkF m 75 #[.val (.int p1), .val (.int p2), .val (.int p3), .val (.int p4), .val (.int p5), .val (.int p6), .val (.int ((p2 &&& (1048575 : Int32)) + (1 : Int32))), .val (.long (p1.toInt64 * ((p2 &&& (1048575 : Int32)) + (1 : Int32)).toInt64)), .second, .val (.ref b14), .val (.ref b16), .val (.double (FP.ddiv (FP.l2d (p1.toInt64 * ((p2 &&& (1048575 : Int32)) + (1 : Int32)).toInt64)) (FP.i2d ((p2 &&& (1048575 : Int32)) + (1 : Int32))))), .second] [(.int (1 : Int32))])) (fun _ kst => XS.iconst X20.here hx rfl (hb hby at_74) kst) ?_
  refine oS (u' := T20.setTop (mkF m 79 #[.val (.int p1), .val (.int p2), .val (.int p3), .val (.int p4), .val (.int p5), .val (.int p6), .val (.int ((p2 &&& (1048575 : Int32)) + (1 : Int32))), .val (.long (p1.toInt64 * ((p2 &&& (1048575 : Int32)) + (1 : Int32)).toInt64)), .second, .val (.ref b14), .val (.ref b16), .val (.double (FP.ddiv (FP.l2d (p1.toInt64 * ((p2 &&& (1048575 : Int32)) + (1 : Int32)).toInt64)) (FP.i2d ((p2 &&& (1048575 : Int32)) + (1 : Int32))))), .second] [(.int (1 : Int32))])) (fun _ kst => XS.goto X20.here hx rfl (pc0 := 75) (pc' := 79) rfl (hb hby at_75) (by decide) (by decide) kst) ?_
  refine own_retN X20 hx hlk (t := .boolean) hret (by simp) (hb hby at_79) ?_ (by decide) (by decide)
  exact ⟨rfl, N19⟩
set_option maxRecDepth 65536 in
set_option maxHeartbeats 40000000 in
theorem comes_1 {Post : Tables → Env → Array Value → State → Outcome → State → Prop} (hpost : ∀ tb e args s v u, (limb_1_1.after args s (.returned v) u = true ∧ limb_1_2.after args s (.returned v) u = true ∧ True) → FrameEnd s (.returned v) u (Jvm.fieldLocs frame_1_writes args s ++ Jvm.arrayLocs frame_1_arrays args s ++ Jvm.staticLocs frame_1_statics s) 16 128 → Post tb e args s (.returned v) u) :
    ArmFor flags0 classFile x code maxLocals ret World_1 tables_1 room_1 Calls_1 rest_1 Pre_1 Post := by
  intro l hfl _ _ p e ha hc hk s m args below hf hA hF happ hP
  obtain ⟨hcalls, hrest, hpre⟩ := hP
  obtain ⟨-, -, -, hnamed, -, -, -, hat⟩ := (Spec.applies_iff hf).mp happ
  obtain ⟨hg, hn⟩ := and_e (Cond.before_iff.mp (show (Jvm.Cond.and given_1 narrow_1).before args s = true from hpre))
  obtain ⟨g0, gg0⟩ := and_e hg
  obtain ⟨g1, gg1⟩ := and_e gg0
  obtain ⟨g2, gg2⟩ := and_e gg1
  obtain ⟨g3, gg3⟩ := and_e gg2
  obtain ⟨g4, gg4⟩ := and_e gg3
  obtain ⟨g5, gg5⟩ := and_e gg4
  obtain ⟨w0, w1, w2, w3, w4, w5, rfl⟩ : ∃ w0 w1 w2 w3 w4 w5 : Value, args = #[w0, w1, w2, w3, w4, w5] := by
    have hs : args.size = 6 := by simpa [Cond.value, given_1] using g0
    obtain ⟨L⟩ := args
    match L, hs with
    | [w0, w1, w2, w3, w4, w5], _ => exact ⟨w0, w1, w2, w3, w4, w5, rfl⟩
  have hw := fun d (hd : d ∈ tables_1) => atoms_spec (ws := Jvm.Cond.code x code maxLocals ret :: tables_1) hat d (List.mem_cons_of_mem _ hd)
  have hfit : Fit s := fun {y c} hc i hi => by
    obtain ⟨ha, rfl⟩ := Array.getElem?_eq_some_iff.mp hc
    have q := List.all_eq_true.mp ((Array.all_eq_true_iff_forall_mem.mp hF) _ (Array.getElem_mem ha)) i (List.mem_range.mpr hi)
    simpa [Array.getElem?_eq_getElem hi] using q
  obtain ⟨i0, ei0⟩ := is_v g1
  obtain rfl : w0 = (.int i0) := Option.some.inj ei0
  obtain ⟨i1, ei1⟩ := is_v g2
  obtain rfl : w1 = (.int i1) := Option.some.inj ei1
  obtain ⟨i2, ei2⟩ := is_v g3
  obtain rfl : w2 = (.int i2) := Option.some.inj ei2
  obtain ⟨i3, ei3⟩ := is_v g4
  obtain rfl : w3 = (.int i3) := Option.some.inj ei3
  obtain ⟨i4, ei4⟩ := is_v g5
  obtain rfl : w4 = (.int i4) := Option.some.inj ei4
  obtain ⟨i5, ei5⟩ := is_v gg5
  obtain rfl : w5 = (.int i5) := Option.some.inj ei5
  obtain ⟨n, o, h1, h2, h3, _, L, rfl, ⟨rfl, N⟩, hq⟩ := own_law l s _ hw i0 i1 i2 i3 i4 i5 s.heap s.heap.size (Nat.le_refl _) p e ha hc hk s m _ below hf ((Spec.applies_iff_loose hf).mp happ).1 ⟨rfl, State.Warmed39.refl s, rfl⟩ trivial
  refine ⟨n, _, h1, h2, h3, hpost _ _ _ _ _ _ ⟨Cond.after_iff.mpr rfl, Cond.after_iff.mpr (eq_i res_at (Term.int_eval (1)) rfl), trivial⟩ ⟨hq.1, hq.2.1, (hq.2.2.sift fun y hy => Or.inr (N y hy)).mono (by decide) (by decide)⟩⟩
theorem main_1_1 : Claimed_1_1 := comes_1 fun _ _ _ _ _ _ h hF => ⟨h.1, hF⟩
theorem main_1_2 : Claimed_1_2 := comes_1 fun _ _ _ _ _ _ h hF => ⟨h.2.1, hF⟩
end Jvm.Pilot.@@N@@
namespace Jvm.Pilot.@@N@@
open Jvm Jvm.ClassFile Sem Op Lib Jvm.Free Jvm.Stand Jvm.Pilot.@@N@@.Jvm.D
/-! MADE BY PROGRAM (witnessworld.py) out of the Statement's table words and the real class files: 11 classes; the members and pool entries that the words name. The judged class is class 1, her method 1. -/
namespace start1
open Jvm.ClassFile
def u (s : String) : CpInfo := .utf8 (stringToUtf16 s)
/-- a pool by its gaps: so many unusable entries, then the entry; so many at the end -/
def gap : Nat → List CpInfo → List CpInfo
  | 0, r => r
  | n + 1, r => .unusable :: gap n r
def poolList (es : List (Nat × CpInfo)) (last : Nat) : List CpInfo := es.foldr (fun e r => gap e.1 (e.2 :: r)) (gap last [])
def pool (es : List (Nat × CpInfo)) (last : Nat) : Array CpInfo := ⟨poolList es last⟩
def fileOf (pool : Array CpInfo) (this : Nat) (attrs : Array Attribute := #[]) (ms : Array MethodInfo := #[]) (fl : Nat := 33) (sup : Nat := 0) (ifs : Array Nat := #[]) (fds : Array FieldInfo := #[]) : ClassFile where
  minorVersion := 0
  majorVersion := 65
  constantPool := pool
  accessFlags := fl
  thisClass := this
  superClass := sup
  interfaces := ifs
  fields := fds
  methods := ms
  attributes := attrs
def plain (name : String) (sup : Option ClassId) : Class where
  name := name
  kind := .ordinary
  loader := none
  accessFlags := 33
  super := sup
  interfaces := #[]
  cf := none
  fields := #[]
  methods := #[]
  instanceTypes := #[]
  staticTypes := #[]
  resolved := #[]
  callSites := []
  init := .initialized
  statics := none
  mirror := none

def pool0 : Array CpInfo := pool [(5, u "<init>"), (0, u "()V"), (1, .class_ 10), (1, u "java/lang/Object")] 113

def k0c0 : Code := { maxStack := 0, maxLocals := 1, code := object_method_1_code, exceptionTable := #[], attributes := #[] }
def k0m0 : Method := { name := "<init>", desc := "()V", sig := { parameters := [], returnType := none }, accessFlags := 1, code := some k0c0 }
/-- java/lang/Object -/
def k0 : Class := { plain "java/lang/Object" none with
  accessFlags := 33
  interfaces := #[]
  cf := some (fileOf pool0 8 #[] #[{ accessFlags := 1, nameIndex := 5, descriptorIndex := 6, attributes := #[] }] 33 0 #[] #[])
  fields := #[]
  methods := #[k0m0]
  instanceTypes := #[]
  staticTypes := #[]
  resolved := Array.replicate 124 none
  statics := none }

def pool1 : Array CpInfo := pool [(2, .class_ 4), (1, u "java/lang/Object"), (0, u "<init>"), (0, u "()V"), (0, .integer 1048575), (0, .class_ 9), (0, u "com/example/untwist_forms/untwistforms/bench/SideBySide$Throughputs"), (0, .methodref 8 11), (0, .nameAndType 5 12), (0, u "(DDD)V"), (0, .class_ 14), (0, u "com/example/untwist_forms/untwistforms/bench/SideBySide$Comparison"), (0, .methodref 13 16), (0, .nameAndType 5 17), (0, u "(Lcom/example/untwist_forms/untwistforms/bench/SideBySide$Throughputs;Lcom/example/untwist_forms/untwistforms/bench/SideBySide$Throughputs;)V"), (0, .methodref 13 19), (0, .nameAndType 20 21), (0, u "ratio"), (0, u "()D"), (0, .class_ 23), (0, u "com/example/untwist_forms/untwistforms/bench/ComparisonRatioPinLaw"), (2, u "law"), (0, u "(IIIIII)Z")] 8

def k1m0 : Method := { name := "<init>", desc := "()V", sig := { parameters := [], returnType := none }, accessFlags := 2, code := none }
def k1c1 : Code := { maxStack := 8, maxLocals := 13, code := code, exceptionTable := #[], attributes := #[] }
def k1m1 : Method := { name := "law", desc := "(IIIIII)Z", sig := { parameters := [.int, .int, .int, .int, .int, .int], returnType := some .boolean }, accessFlags := 9, code := some k1c1 }
/-- com/example/untwist_forms/untwistforms/bench/ComparisonRatioPinLaw -/
def k1 : Class := { plain "com/example/untwist_forms/untwistforms/bench/ComparisonRatioPinLaw" (some 0) with
  accessFlags := 49
  interfaces := #[]
  cf := some (fileOf pool1 22 #[] #[{ accessFlags := 2, nameIndex := 5, descriptorIndex := 6, attributes := #[] }, { accessFlags := 9, nameIndex := 26, descriptorIndex := 27, attributes := #[] }] 49 2 #[] #[])
  fields := #[]
  methods := #[k1m0, k1m1]
  instanceTypes := #[]
  staticTypes := #[]
  resolved := Array.replicate 36 none
  statics := none }

def pool2 : Array CpInfo := pool [(1, .methodref 2 3), (0, .class_ 4), (0, .nameAndType 5 6), (0, u "java/lang/Object"), (0, u "<init>"), (0, u "()V"), (0, .class_ 8), (0, u "java/lang/Record")] 13

def k2c0 : Code := { maxStack := 1, maxLocals := 1, code := jdk_30_method_1_code, exceptionTable := #[], attributes := #[] }
def k2m0 : Method := { name := "<init>", desc := "()V", sig := { parameters := [], returnType := none }, accessFlags := 4, code := some k2c0 }
/-- java/lang/Record -/
def k2 : Class := { plain "java/lang/Record" (some 0) with
  accessFlags := 1057
  interfaces := #[]
  cf := some (fileOf pool2 7 #[] #[{ accessFlags := 4, nameIndex := 5, descriptorIndex := 6, attributes := #[] }] 1057 2 #[] #[])
  fields := #[]
  methods := #[k2m0]
  instanceTypes := #[]
  staticTypes := #[]
  resolved := Array.replicate 22 none
  statics := none }

def pool3 : Array CpInfo := pool [(1, .methodref 2 3), (0, .class_ 4), (0, .nameAndType 5 6), (0, u "java/lang/Record"), (0, u "<init>"), (0, u "()V"), (0, .fieldref 8 9), (0, .class_ 10), (0, .nameAndType 11 12), (0, u "com/example/untwist_forms/untwistforms/bench/SideBySide$Throughputs"), (0, u "median"), (0, u "D"), (0, .fieldref 8 14), (0, .nameAndType 15 12), (0, u "lowest"), (0, .fieldref 8 17), (0, .nameAndType 18 12), (0, u "highest"), (13, .class_ 34), (1, u "com/example/untwist_forms/untwistforms/bench/SideBySide"), (3, u "(DDD)V"), (39, u "()D")] 24

def k3c0 : Code := { maxStack := 3, maxLocals := 7, code := prog_16_method_1_code, exceptionTable := #[], attributes := #[] }
def k3m0 : Method := { name := "<init>", desc := "(DDD)V", sig := { parameters := [.double, .double, .double], returnType := none }, accessFlags := 0, code := some k3c0 }
def k3c1 : Code := { maxStack := 2, maxLocals := 1, code := prog_16_method_6_code, exceptionTable := #[], attributes := #[] }
def k3m1 : Method := { name := "median", desc := "()D", sig := { parameters := [], returnType := some .double }, accessFlags := 1, code := some k3c1 }
/-- com/example/untwist_forms/untwistforms/bench/SideBySide$Throughputs -/
def k3 : Class := { plain "com/example/untwist_forms/untwistforms/bench/SideBySide$Throughputs" (some 2) with
  accessFlags := 48
  interfaces := #[]
  cf := some (fileOf pool3 8 #[.nestHost 32] #[{ accessFlags := 0, nameIndex := 5, descriptorIndex := 38, attributes := #[] }, { accessFlags := 1, nameIndex := 11, descriptorIndex := 78, attributes := #[] }] 48 2 #[] #[{ accessFlags := 18, nameIndex := 11, descriptorIndex := 12, attributes := #[] }, { accessFlags := 18, nameIndex := 15, descriptorIndex := 12, attributes := #[] }, { accessFlags := 18, nameIndex := 18, descriptorIndex := 12, attributes := #[] }])
  fields := #[{ name := "median", type := .double, accessFlags := 18, slot := 0, constantValue := 0 }, { name := "lowest", type := .double, accessFlags := 18, slot := 1, constantValue := 0 }, { name := "highest", type := .double, accessFlags := 18, slot := 2, constantValue := 0 }]
  methods := #[k3m0, k3m1]
  instanceTypes := #[.double, .double, .double]
  staticTypes := #[]
  resolved := Array.replicate 103 none
  statics := none }

def pool4 : Array CpInfo := pool [(1, .methodref 2 3), (0, .class_ 4), (0, .nameAndType 5 6), (0, u "java/lang/Record"), (0, u "<init>"), (0, u "()V"), (0, .fieldref 8 9), (0, .class_ 10), (0, .nameAndType 11 12), (0, u "com/example/untwist_forms/untwistforms/bench/SideBySide$Comparison"), (0, u "ours"), (0, u "Lcom/example/untwist_forms/untwistforms/bench/SideBySide$Throughputs;"), (0, .fieldref 8 14), (0, .nameAndType 15 12), (0, u "peer"), (0, .methodref 17 18), (0, .class_ 19), (0, .nameAndType 20 21), (0, u "com/example/untwist_forms/untwistforms/bench/SideBySide$Throughputs"), (0, u "median"), (0, u "()D"), (2, u "ratio"), (37, u "(Lcom/example/untwist_forms/untwistforms/bench/SideBySide$Throughputs;Lcom/example/untwist_forms/untwistforms/bench/SideBySide$Throughputs;)V"), (12, .class_ 76), (0, u "com/example/untwist_forms/untwistforms/bench/SideBySide")] 29

def k4c0 : Code := { maxStack := 2, maxLocals := 3, code := prog_15_method_1_code, exceptionTable := #[], attributes := #[] }
def k4m0 : Method := { name := "<init>", desc := "(Lcom/example/untwist_forms/untwistforms/bench/SideBySide$Throughputs;Lcom/example/untwist_forms/untwistforms/bench/SideBySide$Throughputs;)V", sig := { parameters := [(.object "com/example/untwist_forms/untwistforms/bench/SideBySide$Throughputs"), (.object "com/example/untwist_forms/untwistforms/bench/SideBySide$Throughputs")], returnType := none }, accessFlags := 0, code := some k4c0 }
def k4c1 : Code := { maxStack := 4, maxLocals := 1, code := prog_15_method_2_code, exceptionTable := #[], attributes := #[] }
def k4m1 : Method := { name := "ratio", desc := "()D", sig := { parameters := [], returnType := some .double }, accessFlags := 0, code := some k4c1 }
/-- com/example/untwist_forms/untwistforms/bench/SideBySide$Comparison -/
def k4 : Class := { plain "com/example/untwist_forms/untwistforms/bench/SideBySide$Comparison" (some 2) with
  accessFlags := 48
  interfaces := #[]
  cf := some (fileOf pool4 8 #[.nestHost 75] #[{ accessFlags := 0, nameIndex := 5, descriptorIndex := 62, attributes := #[] }, { accessFlags := 0, nameIndex := 24, descriptorIndex := 21, attributes := #[] }] 48 2 #[] #[{ accessFlags := 18, nameIndex := 11, descriptorIndex := 12, attributes := #[] }, { accessFlags := 18, nameIndex := 15, descriptorIndex := 12, attributes := #[] }])
  fields := #[{ name := "ours", type := (.object "com/example/untwist_forms/untwistforms/bench/SideBySide$Throughputs"), accessFlags := 18, slot := 0, constantValue := 0 }, { name := "peer", type := (.object "com/example/untwist_forms/untwistforms/bench/SideBySide$Throughputs"), accessFlags := 18, slot := 1, constantValue := 0 }]
  methods := #[k4m0, k4m1]
  instanceTypes := #[(.object "com/example/untwist_forms/untwistforms/bench/SideBySide$Throughputs"), (.object "com/example/untwist_forms/untwistforms/bench/SideBySide$Throughputs")]
  staticTypes := #[]
  resolved := Array.replicate 106 none
  statics := none }

def pool5 : Array CpInfo := pool [(1, u "java/lang/Cloneable"), (0, .class_ 1), (0, u "java/lang/Object"), (0, .class_ 3)] 3

/-- java/lang/Cloneable -/
def k5 : Class := { plain "java/lang/Cloneable" (some 0) with
  accessFlags := 1537
  interfaces := #[]
  cf := some (fileOf pool5 2 #[] #[] 1537 4 #[] #[])
  fields := #[]
  methods := #[]
  instanceTypes := #[]
  staticTypes := #[]
  resolved := Array.replicate 8 none
  statics := none }

def pool6 : Array CpInfo := pool [(1, u "java/io/Serializable"), (0, .class_ 1), (0, u "java/lang/Object"), (0, .class_ 3)] 3

/-- java/io/Serializable -/
def k6 : Class := { plain "java/io/Serializable" (some 0) with
  accessFlags := 1537
  interfaces := #[]
  cf := some (fileOf pool6 2 #[] #[] 1537 4 #[] #[])
  fields := #[]
  methods := #[]
  instanceTypes := #[]
  staticTypes := #[]
  resolved := Array.replicate 8 none
  statics := none }

/-- the primitive byte -/
def k7 : Class := { plain "byte" none with kind := .primitive 'B', accessFlags := 0x411 }
/-- [B -/
def k8 : Class := { plain "[B" (some 0) with kind := .array 7 .byte, interfaces := #[5, 6], accessFlags := 1041 }

/-- the primitive int -/
def k9 : Class := { plain "int" none with kind := .primitive 'I', accessFlags := 0x411 }
/-- [I -/
def k10 : Class := { plain "[I" (some 0) with kind := .array 9 .int, interfaces := #[5, 6], accessFlags := 1041 }

def heap : Heap := #[]
def classes : Array Class := #[k0, k1, k2, k3, k4, k5, k6, k7, k8, k9, k10]
def interned : List (Array UInt16 × Addr) := []
def slotsUsed : Nat := 0
def theMethod : MethodId := ⟨1, 1⟩
def args0 : Array Value := #[.int 5, .int 6, .int 7, .int 8, .int 9, .int 10]
def aboutOver (below : List Frame) : State where
  vm := { classes := classes, interned := interned.toArray }
  heap := heap
  slotsUsed := slotsUsed
  threads := #[{ frames := .invoking theMethod args0 :: below }]
def below0 : List Frame := [.native { method := ⟨0, 0⟩, args := #[] }]
def about1 : State := aboutOver below0
def p0 : Program := .bare "" "" ""
def e0 : Env := launch0.env 0 0 0
theorem w_frames : about1.frames = Frame.invoking theMethod args0 :: below0 := rfl
set_option maxRecDepth 65536 in
theorem w_args : argsFit about1.vm theMethod args0 = true := by decide +kernel
set_option maxRecDepth 65536 in
theorem w_heap : heapFits about1 = true := by decide +kernel
set_option maxRecDepth 65536 in
theorem w_runnable : about1.curStatus? = some .runnable := by decide +kernel
set_option maxRecDepth 65536 in
theorem w_alone : about1.alone = true := by decide +kernel
set_option maxRecDepth 65536 in
theorem w_named : about1.methodNamed? x = some theMethod := by decide +kernel
set_option maxRecDepth 65536 in
theorem w_hears : about1.hears theMethod below0 = true := by decide +kernel
set_option maxRecDepth 65536 in
theorem w_ripe : about1.ripe theMethod args0 below0 = true := by decide +kernel
theorem w_running : about1.status = .running := rfl
set_option maxRecDepth 65536 in
theorem w_room : about1.hasRoom e0.platform room_1 = true :=
  launch0.hasRoom_least _ room_1 (by decide +kernel) (by decide +kernel) (by decide +kernel) (by decide +kernel) (by decide +kernel) (by decide +kernel)
theorem allAtoms_all (ts : List Jvm.Cond) (a : Array Jvm.Value) (st : Jvm.State) : (allAtoms ts).before a st = ts.all (fun c => c.before a st) := by
  induction ts with
  | nil => rfl
  | cons c t ih =>
    show (Jvm.Cond.and c (allAtoms t)).before a st = _
    rw [Jvm.Cond.before_and, ih, List.all_cons]
def words1 : List Jvm.Cond := Jvm.Cond.code x code maxLocals ret :: tables_1
/-- a 'code' word, met by the world's own term for the bytes: nothing is compared byte by byte -/
theorem code_word {y : MethodName} {bytes : ByteArray} {mx : Nat} {rt : Option FieldType} {a : Array Value} {s : State} {m : MethodId} {meth : Method} {c : Code} (h1 : s.methodNamed? y = some m) (h2 : s.vm.method? m = some meth) (h3 : meth.code = some c) (h4 : c.code = bytes)
    (h5 : (c.maxLocals == mx && c.exceptionTable.isEmpty && decide (c.maxStack ≤ mostOperands) && decide (meth.sig.returnType = rt) && !meth.locks && decide (parseMethodDescriptor y.desc = some meth.sig)) = true) : (Jvm.Cond.code y bytes mx rt).before a s = true := by
  simp only [Bool.and_eq_true, beq_iff_eq, Bool.not_eq_true', decide_eq_true_eq] at h5
  obtain ⟨⟨⟨⟨⟨g1, g2⟩, g3⟩, g4⟩, g5⟩, g6⟩ := h5
  simp [Cond.before, Cond.holds, Cond.value, h1, h2, h3, h4, g1, g2, g3, g4, g5, g6]
def isCode : Jvm.Cond → Bool
  | .code _ _ _ _ => true
  | _ => false
theorem all_split {L : List Jvm.Cond} {P : Jvm.Cond → Bool} (h1 : L.all (fun c => isCode c || P c) = true) (h2 : ∀ c ∈ L.filter isCode, P c = true) : L.all P = true := by
  refine List.all_eq_true.mpr fun c hc => ?_
  have h := List.all_eq_true.mp h1 c hc
  rcases Bool.eq_false_or_eq_true (isCode c) with hi | hi
  · exact h2 c (List.mem_filter.mpr ⟨hc, hi⟩)
  · simpa [hi] using h
set_option maxRecDepth 65536 in
theorem w_c0 : (Jvm.Cond.code x code maxLocals ret).before args0 about1 = true := code_word (m := ⟨1, 1⟩) (meth := k1m1) (c := k1c1) (by decide +kernel) rfl rfl rfl (by decide +kernel)
set_option maxRecDepth 65536 in
theorem w_c1 : (Jvm.Cond.code ({ cls := "com/example/untwist_forms/untwistforms/bench/SideBySide$Throughputs", name := "<init>", desc := "(DDD)V" } : Jvm.MethodName) prog_16_method_1_code (7 : Nat) (Option.none : Option Jvm.ClassFile.FieldType)).before args0 about1 = true := code_word (m := ⟨3, 0⟩) (meth := k3m0) (c := k3c0) (by decide +kernel) rfl rfl rfl (by decide +kernel)
set_option maxRecDepth 65536 in
theorem w_c2 : (Jvm.Cond.code ({ cls := "java/lang/Record", name := "<init>", desc := "()V" } : Jvm.MethodName) jdk_30_method_1_code (1 : Nat) (Option.none : Option Jvm.ClassFile.FieldType)).before args0 about1 = true := code_word (m := ⟨2, 0⟩) (meth := k2m0) (c := k2c0) (by decide +kernel) rfl rfl rfl (by decide +kernel)
set_option maxRecDepth 65536 in
theorem w_c3 : (Jvm.Cond.code ({ cls := "java/lang/Object", name := "<init>", desc := "()V" } : Jvm.MethodName) object_method_1_code (1 : Nat) (Option.none : Option Jvm.ClassFile.FieldType)).before args0 about1 = true := code_word (m := ⟨0, 0⟩) (meth := k0m0) (c := k0c0) (by decide +kernel) rfl rfl rfl (by decide +kernel)
set_option maxRecDepth 65536 in
theorem w_c4 : (Jvm.Cond.code ({ cls := "com/example/untwist_forms/untwistforms/bench/SideBySide$Comparison", name := "<init>", desc := "(Lcom/example/untwist_forms/untwistforms/bench/SideBySide$Throughputs;Lcom/example/untwist_forms/untwistforms/bench/SideBySide$Throughputs;)V" } : Jvm.MethodName) prog_15_method_1_code (3 : Nat) (Option.none : Option Jvm.ClassFile.FieldType)).before args0 about1 = true := code_word (m := ⟨4, 0⟩) (meth := k4m0) (c := k4c0) (by decide +kernel) rfl rfl rfl (by decide +kernel)
set_option maxRecDepth 65536 in
theorem w_c5 : (Jvm.Cond.code ({ cls := "com/example/untwist_forms/untwistforms/bench/SideBySide$Comparison", name := "ratio", desc := "()D" } : Jvm.MethodName) prog_15_method_2_code (1 : Nat) (Option.some Jvm.ClassFile.FieldType.double)).before args0 about1 = true := code_word (m := ⟨4, 1⟩) (meth := k4m1) (c := k4c1) (by decide +kernel) rfl rfl rfl (by decide +kernel)
set_option maxRecDepth 65536 in
theorem w_c6 : (Jvm.Cond.code ({ cls := "com/example/untwist_forms/untwistforms/bench/SideBySide$Throughputs", name := "median", desc := "()D" } : Jvm.MethodName) prog_16_method_6_code (1 : Nat) (Option.some Jvm.ClassFile.FieldType.double)).before args0 about1 = true := code_word (m := ⟨3, 1⟩) (meth := k3m1) (c := k3c1) (by decide +kernel) rfl rfl rfl (by decide +kernel)
def codes1 : List Jvm.Cond := [Jvm.Cond.code x code maxLocals ret, Jvm.Cond.code ({ cls := "com/example/untwist_forms/untwistforms/bench/SideBySide$Throughputs", name := "<init>", desc := "(DDD)V" } : Jvm.MethodName) prog_16_method_1_code (7 : Nat) (Option.none : Option Jvm.ClassFile.FieldType), Jvm.Cond.code ({ cls := "java/lang/Record", name := "<init>", desc := "()V" } : Jvm.MethodName) jdk_30_method_1_code (1 : Nat) (Option.none : Option Jvm.ClassFile.FieldType), Jvm.Cond.code ({ cls := "java/lang/Object", name := "<init>", desc := "()V" } : Jvm.MethodName) object_method_1_code (1 : Nat) (Option.none : Option Jvm.ClassFile.FieldType), Jvm.Cond.code ({ cls := "com/example/untwist_forms/untwistforms/bench/SideBySide$Comparison", name := "<init>", desc := "(Lcom/example/untwist_forms/untwistforms/bench/SideBySide$Throughputs;Lcom/example/untwist_forms/untwistforms/bench/SideBySide$Throughputs;)V" } : Jvm.MethodName) prog_15_method_1_code (3 : Nat) (Option.none : Option Jvm.ClassFile.FieldType), Jvm.Cond.code ({ cls := "com/example/untwist_forms/untwistforms/bench/SideBySide$Comparison", name := "ratio", desc := "()D" } : Jvm.MethodName) prog_15_method_2_code (1 : Nat) (Option.some Jvm.ClassFile.FieldType.double), Jvm.Cond.code ({ cls := "com/example/untwist_forms/untwistforms/bench/SideBySide$Throughputs", name := "median", desc := "()D" } : Jvm.MethodName) prog_16_method_6_code (1 : Nat) (Option.some Jvm.ClassFile.FieldType.double)]
set_option maxRecDepth 65536 in
theorem codes_eq : words1.filter isCode = codes1 := rfl
theorem w_codes : ∀ c ∈ words1.filter isCode, c.before args0 about1 = true := by
  rw [codes_eq]
  intro c hc
  simp only [codes1, List.mem_cons, List.not_mem_nil, or_false] at hc
  rcases hc with rfl | rfl | rfl | rfl | rfl | rfl | rfl
  · exact w_c0
  · exact w_c1
  · exact w_c2
  · exact w_c3
  · exact w_c4
  · exact w_c5
  · exact w_c6
set_option maxRecDepth 65536 in
theorem w_t1 : (words1.take 24).all (fun c => isCode c || c.before args0 about1) = true := by decide +kernel
set_option maxRecDepth 65536 in
theorem w_t2 : (words1.drop 24).all (fun c => isCode c || c.before args0 about1) = true := by decide +kernel
theorem w_tables : (allAtoms (Jvm.Cond.code x code maxLocals ret :: tables_1)).before args0 about1 = true := by
  rw [allAtoms_all]
  show words1.all (fun c => c.before args0 about1) = true
  refine all_split ?_ w_codes
  rw [← List.take_append_drop 24 words1, List.all_append, w_t1, w_t2]
  rfl
set_option maxRecDepth 65536 in
theorem w_case : (Jvm.Cond.and given_1 narrow_1).before args0 about1 = true := by decide +kernel
theorem w_applies : (headSpec (Jvm.Cond.code x code maxLocals ret :: tables_1) room_1).applies x e0.platform about1 = true :=
  (Spec.applies_iff w_frames).mpr ⟨w_running, w_runnable, w_alone, w_named, w_hears, w_ripe, w_room, w_tables⟩
theorem atStart : AtStart classFile x code maxLocals ret World_1 tables_1 room_1 Calls_1 rest_1 Pre_1 launch0 p0 e0 about1 theMethod args0 below0 :=
  ⟨lists_1, trivial, launch0.admits_env _ _ _, launch0.least_env, fairChoices_fair.cas, fairChoices_fair.clock, w_frames, w_args, w_heap, w_applies, trivial, trivial, w_case⟩
end start1
theorem witness_1 : WitnessClaimed_1 := ⟨start1.p0, start1.e0, start1.about1, start1.theMethod, start1.args0, start1.below0, start1.atStart⟩
end Jvm.Pilot.@@N@@
