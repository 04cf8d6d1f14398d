import JvmDerived
import JvmDerived.Pilot.@@N@@Statement
import JvmDerived.Pilot.@@N@@Code
set_option linter.unusedVariables false
set_option linter.unusedSimpArgs false
@@BLOCK:NumsL.lean.txt@@
namespace Jvm.Pilot.@@N@@
open Jvm Jvm.ClassFile Sem Op Lib Jvm.Free Jvm.Stand Jvm.LawKit Jvm.RoadKit Bundle Jvm.Pilot.@@N@@.Jvm.D
/-- Java's x >>> y on longs -/
def own_uL (x : Int64) (y : Int32) : Int64 := (x.toUInt64 >>> (y &&& 63).toInt64.toUInt64).toInt64
section Own
variable {p : Program} {l : Launch} {e : Env} {R : Room} {s : State} {m : MethodId} {args : Array Value} {below : List Frame} {meth : Method} {c : Code} {T : State} {locs : List Loc} {cells slots : Nat}
variable {ck sk : Nat} {Q : Option Value → Heap → List Loc → Prop}
/-- the run from u comes to the method's return, and Q holds there -/
def oF (p : Program) (e : Env) (below : List Frame) (s : State) (ck sk : Nat) (Q : Option Value → Heap → List Loc → Prop) (u : State) : Prop :=
  ∃ t o, Steps p.tables e below u t ∧ t.status = .running ∧ Ended t below o ∧ ∃ v L, o = .returned v ∧ Q v t.heap L ∧ FrameEnd s o t L ck sk
theorem oS {u u' : State} (h : ∀ t, Steps p.tables e below u' t → Steps p.tables e below u t) (k : oF p e below s ck sk Q u') : oF p e below s ck sk Q u := by
  obtain ⟨t, o, h1, r⟩ := k
  exact ⟨t, o, h t h1, r⟩
theorem oC {u : State} (X : Stand p l e R s m args below meth c T locs cells slots) {h : Heap} (E : T.heap = h) {f : JFrame}
    (rest : ∀ Tc, Stand p l e R s m args below meth c Tc locs cells slots → Tc.heap = h → oF p e below s ck sk Q (Tc.setTop f))
    (k : (∀ Tc, Stand p l e R s m args below meth c Tc locs cells slots → Tc.heap = h → oF p e below s ck sk Q (Tc.setTop f)) → oF p e below s ck sk Q u) : oF p e below s ck sk Q u := k rest
theorem own_ret (X : Stand p l e R s m args below meth c T locs cells slots) (hlk : meth.locks = false) {v : Option Value} (hv : meth.sig.returnType = none → v = none) {g : JFrame}
    (st : ∀ fs, (∀ (f : JFrame) (acts : List Action), f.method = m → f.locked = none → f.entered = [] → (doReturn e (T.setTop f) acts v).1 = T.setFrames fs) → Steps p.tables e below (T.setTop g) (T.setFrames fs))
    (hQ : Q v T.heap locs) (hc : cells ≤ ck) (hs : slots ≤ sk) : oF p e below s ck sk Q (T.setTop g) := by
  obtain ⟨fs, hr, hrun, hended, hW, hsame⟩ := X.leave (v := v) hv hlk
  exact ⟨_, _, st fs hr, hrun, hended, v, locs, rfl, hQ, ⟨_, rfl⟩, hW, hsame.mono hc hs⟩
theorem own_retI (X : Stand p l e R s m args below meth c T locs cells slots) (hx : p.tables.exec = Jvm.exec) (hlk : meth.locks = false) {pc : Nat} {Ls : Array Slot} {z : Int32} {rest : List Value} (hret : meth.sig.returnType = some .int)
    (hd : decode c.code pc = .ok (.ireturn, 1)) (hQ : Q (some (.int z)) T.heap locs) (hc : cells ≤ ck) (hs : slots ≤ sk) : oF p e below s ck sk Q (T.setTop (mkF m pc Ls (.int z :: rest))) :=
  own_ret X hlk (fun h => by rw [hret] at h; cases h) (fun fs hl => retOut X hx hret rfl (Or.inl ⟨rfl, Or.inl rfl, _, rfl⟩) hd hl) hQ hc hs
theorem own_retJ (X : Stand p l e R s m args below meth c T locs cells slots) (hx : p.tables.exec = Jvm.exec) (hlk : meth.locks = false) {pc : Nat} {Ls : Array Slot} {z : Int64} {rest : List Value} (hret : meth.sig.returnType = some .long)
    (hd : decode c.code pc = .ok (.lreturn, 1)) (hQ : Q (some (.long z)) T.heap locs) (hc : cells ≤ ck) (hs : slots ≤ sk) : oF p e below s ck sk Q (T.setTop (mkF m pc Ls (.long z :: rest))) :=
  own_ret X hlk (fun h => by rw [hret] at h; cases h) (fun fs hl => retOut X hx hret rfl (Or.inr (Or.inl ⟨rfl, rfl, _, rfl⟩)) hd hl) hQ hc hs
theorem own_retD (X : Stand p l e R s m args below meth c T locs cells slots) (hx : p.tables.exec = Jvm.exec) (hlk : meth.locks = false) {pc : Nat} {Ls : Array Slot} {z : UInt64} {rest : List Value} (hret : meth.sig.returnType = some .double)
    (hd : decode c.code pc = .ok (.dreturn, 1)) (hQ : Q (some (.double z)) T.heap locs) (hc : cells ≤ ck) (hs : slots ≤ sk) : oF p e below s ck sk Q (T.setTop (mkF m pc Ls (.double z :: rest))) :=
  own_ret X hlk (fun h => by rw [hret] at h; cases h) (fun fs hl => retOut X hx hret rfl (Or.inr (Or.inr (Or.inl ⟨rfl, rfl, _, rfl⟩))) hd hl) hQ hc hs
theorem own_retA (X : Stand p l e R s m args below meth c T locs cells slots) (hx : p.tables.exec = Jvm.exec) (hlk : meth.locks = false) {pc : Nat} {Ls : Array Slot} {w : Value} {t : FieldType} {rest : List Value} (hret : meth.sig.returnType = some t) (ht : t.isReference = true) (hr : w.isRef = true)
    (hd : decode c.code pc = .ok (.areturn, 1)) (hQ : Q (some w) T.heap locs) (hc : cells ≤ ck) (hs : slots ≤ sk) : oF p e below s ck sk Q (T.setTop (mkF m pc Ls (w :: rest))) :=
  own_ret X hlk (fun h => by rw [hret] at h; cases h) (fun fs hl => retOut X hx hret (by cases t <;> first | (cases ht; done) | (cases w <;> first | rfl | (cases hr; done))) (Or.inr (Or.inr (Or.inr (Or.inr ⟨rfl, ht, hr⟩)))) hd hl) hQ hc hs
theorem own_retN (X : Stand p l e R s m args below meth c T locs cells slots) (hx : p.tables.exec = Jvm.exec) (hlk : meth.locks = false) {pc : Nat} {Ls : Array Slot} {z : Int32} {t : FieldType} {rest : List Value} (hret : meth.sig.returnType = some t) (ht : t = .boolean ∨ t = .byte ∨ t = .char ∨ t = .short)
    (hd : decode c.code pc = .ok (.ireturn, 1)) (hQ : Q (some (.int (nar t z))) T.heap locs) (hc : cells ≤ ck) (hs : slots ≤ sk) : oF p e below s ck sk Q (T.setTop (mkF m pc Ls (.int z :: rest))) :=
  own_ret X hlk (fun h => by rw [hret] at h; cases h) (fun fs hl => retN X hx hret ht hd hl) hQ hc hs
theorem own_ret0 (X : Stand p l e R s m args below meth c T locs cells slots) (hx : p.tables.exec = Jvm.exec) (hlk : meth.locks = false) {pc : Nat} {Ls : Array Slot} (hret : meth.sig.returnType = none)
    (hd : decode c.code pc = .ok (.return_, 1)) (hQ : Q none T.heap locs) (hc : cells ≤ ck) (hs : slots ≤ sk) : oF p e below s ck sk Q (T.setTop (mkF m pc Ls [])) :=
  own_ret X hlk (fun _ => rfl) (fun fs hl => X.returnOut hx hret hd hl) hQ hc hs
/-- a body's contract: called with as' on the heap h it returns, and Q says what it leaves -/
def own_Con (l : Launch) (Z : State) (ws : List Jvm.Cond) (y : MethodName) (bytes : ByteArray) (maxL : Nat) (rt : Option FieldType) (rm : Room) (as' : Array Value) (h : Heap) (Q : Option Value → Heap → List Loc → Prop) : Prop :=
  MetFree l y (head1 (Jvm.Cond.code y bytes maxL rt :: ws) rm) (fun a U => a = as' ∧ Z.Warmed39 U.vm ∧ U.heap = h) (fun _ _ _ _ _ => True) (fun _ U o U' => ∃ v L, o = .returned v ∧ Q v U'.heap L ∧ FrameEnd U o U' L rm.cells rm.slots)
/-- it returns r, and the heap is as it was -/
def own_Q1 (r : Option Value) (h : Heap) : Option Value → Heap → List Loc → Prop := fun v h' L => v = r ∧ h' = h ∧ L = []
variable {Z : State} {a0 : Array Value} {h h' : Heap}
theorem own_body {ws : List Jvm.Cond} {y : MethodName} {bytes : ByteArray} {maxL : Nat} {rt : Option FieldType} {rm : Room} {as' : Array Value} (hpn : plainFor y = true)
    (H : ∀ (p : Program) (e : Env) (s : State) (m : MethodId) (below : List Frame) (meth : Method) (c : Code) (s₁ : State), Stand p l e rm s m as' below meth c s₁ [] 0 0 → p.tables.exec = Jvm.exec → c.code = bytes → c.maxLocals = maxL → meth.sig.returnType = rt → meth.locks = false → s.vm.findClass y.cls = some m.cls → meth.name = y.name → Z.Warmed39 s.vm → s₁.heap = h →
      oF p e below s rm.cells rm.slots Q (s₁.setTop (entryFrame m as' maxL))) : own_Con l Z ws y bytes maxL rt rm as' h Q := by
  refine MetFree.of_bodySF hpn hisR ?_
  intro p e s m args below meth c s₁ Bd hml0 hP hK
  obtain ⟨rfl, hZ, hh⟩ := hP
  exact H p e s m below meth c s₁ (Stand.of_body Bd) Bd.exec Bd.bytes hml0 Bd.returns (BodyLoose.notSynchronized Bd) (findClass_of_methodNamed Bd.named) (name_of_methodNamed Bd.named Bd.method).1 hZ (by rw [← hh, Bd.state]; rfl)
theorem own_callS (X : Stand p l e R s m args below meth c T locs cells slots) (hx : p.tables.exec = Jvm.exec) (hZ : Z.Warmed39 s.vm) {own : String} {index : Nat} {y : MethodName} {bytes : ByteArray} {maxL : Nat} {rt : Option FieldType} (hown : s.vm.findClass own = some m.cls)
    (w1 : (Jvm.Cond.methodLink own index y).before a0 Z = true) (w2 : (Jvm.Cond.static y).before a0 Z = true) (w4 : (Jvm.Cond.code y bytes maxL rt).before a0 Z = true) (w3 : (Jvm.Cond.initialized y.cls).before a0 Z = true) (hy : y.cls ≠ "java/lang/invoke/MethodHandle" ∧ y.cls ≠ "java/lang/invoke/VarHandle")
    (eT : T.heap = h) {rm : Room} {W : Nat} {argsL rest : List Value} (K : own_Con l Z [] y bytes maxL rt rm argsL.toArray h Q) (hf : rm.frames + 1 ≤ R.frames) (hl : W + (maxL + 11) + rm.locals ≤ R.locals)
    {g : JFrame} (hg : g.method = m) (hsize : g.locals.size = c.maxLocals) (hlen : ∀ sig, parseMethodDescriptor y.desc = some sig → argsL.length = sig.parameters.length)
    (hstack : g.stack = argsL.reverse ++ rest) (hW : 2 * g.monitorRoom + (rest.map fun v => v.category).sum ≤ W) (hdg : decode c.code g.pc = .ok (.invokestatic index, 3)) (hc : cells + rm.cells ≤ R.cells) (hs : slots + rm.slots ≤ R.slots) :
    ∃ (v : Option Value) (T' : State) (L : List Loc), Stand p l e R s m args below meth c T' (locs ++ L) (cells + rm.cells) (slots + rm.slots) ∧ Q v T'.heap L ∧
      ∀ target, Steps p.tables e below (T'.setTop { g with pc := g.pc + 3, stack := v.toList ++ rest }) target → Steps p.tables e below (T.setTop g) target := by
  obtain ⟨v, _, ⟨T', L', k', n'⟩, -, X', ⟨L, hQ, q1, q2, q3⟩, st⟩ := Jvm.LawKit.callS X hx hown (mvT hZ w1) (mvT hZ w2) (mvT hZ w3) (mvT hZ w4) hy (backOf (W := W) K hZ w4 w3 hf hl) hg hsize hlen hstack hW hdg (fun _ _ => ⟨rfl, eT, hc, hs⟩)
  dsimp only [Pt.U, Pt.locs, Pt.cells, Pt.slots] at X' q1 q2 q3 st hQ
  subst q1 q2 q3
  exact ⟨v, T', L, X', hQ, st⟩
theorem own_callSP (X : Stand p l e R s m args below meth c T locs cells slots) (hx : p.tables.exec = Jvm.exec) (hZ : Z.Warmed39 s.vm) {own : String} {index : Nat} {y : MethodName} {bytes : ByteArray} {maxL : Nat} {rt : Option FieldType} (hown : s.vm.findClass own = some m.cls)
    (w1 : (Jvm.Cond.methodLink own index y).before a0 Z = true) (w2 : (Jvm.Cond.static y).before a0 Z = true) (w4 : (Jvm.Cond.code y bytes maxL rt).before a0 Z = true) (w3 : (Jvm.Cond.initialized y.cls).before a0 Z = true) (hy : y.cls ≠ "java/lang/invoke/MethodHandle" ∧ y.cls ≠ "java/lang/invoke/VarHandle")
    (eT : T.heap = h) {rf rl : Nat} {W : Nat} {argsL rest : List Value} {r : Value} (K : own_Con l Z [] y bytes maxL rt { frames := rf, cells := 0, slots := 0, locals := rl } argsL.toArray h (own_Q1 (some r) h)) (hf : rf + 1 ≤ R.frames) (hl : W + (maxL + 11) + rl ≤ R.locals)
    {g : JFrame} (hg : g.method = m) (hsize : g.locals.size = c.maxLocals) (hlen : ∀ sig, parseMethodDescriptor y.desc = some sig → argsL.length = sig.parameters.length)
    (hstack : g.stack = argsL.reverse ++ rest) (hW : 2 * g.monitorRoom + (rest.map fun v => v.category).sum ≤ W) (hdg : decode c.code g.pc = .ok (.invokestatic index, 3)) (hc : cells ≤ R.cells) (hs : slots ≤ R.slots) :
    ∃ T' : State, Stand p l e R s m args below meth c T' locs cells slots ∧ T'.heap = h ∧
      ∀ target, Steps p.tables e below (T'.setTop { g with pc := g.pc + 3, stack := r :: rest }) target → Steps p.tables e below (T.setTop g) target := by
  obtain ⟨v, T', L, X', ⟨rfl, hh, rfl⟩, st⟩ := own_callS X hx hZ hown w1 w2 w4 w3 hy eT (W := W) K hf hl hg hsize hlen hstack hW hdg hc hs
  rw [List.append_nil] at X'
  exact ⟨T', X', hh, st⟩
theorem own_callI (X : Stand p l e R s m args below meth c T locs cells slots) (hx : p.tables.exec = Jvm.exec) (hZ : Z.Warmed39 s.vm) {own : String} {index : Nat} {y : MethodName} (hy1 : y.name = "<init>") {bytes : ByteArray} {maxL : Nat} (hown : s.vm.findClass own = some m.cls)
    (w1 : (Jvm.Cond.methodLink own index y).before a0 Z = true) (w2 : (Jvm.Cond.instanceMethod y).before a0 Z = true) (w4 : (Jvm.Cond.code y bytes maxL none).before a0 Z = true) (w3 : (Jvm.Cond.initialized y.cls).before a0 Z = true) (hy : y.cls ≠ "java/lang/invoke/MethodHandle" ∧ y.cls ≠ "java/lang/invoke/VarHandle")
    (eT : T.heap = h) {rm : Room} {W : Nat} {a : Addr} {argsL rest : List Value} (K : own_Con l Z [] y bytes maxL none rm (.ref a :: argsL).toArray h Q) (hf : rm.frames + 1 ≤ R.frames) (hl : W + (maxL + 11) + rm.locals ≤ R.locals)
    {g : JFrame} (hg : g.method = m) (hsize : g.locals.size = c.maxLocals) (hlen : ∀ sig, parseMethodDescriptor y.desc = some sig → argsL.length = sig.parameters.length)
    (hstack : g.stack = argsL.reverse ++ .ref a :: rest) (hW : 2 * g.monitorRoom + (rest.map fun v => v.category).sum ≤ W) (hdg : decode c.code g.pc = .ok (.invokespecial index, 3)) (hc : cells + rm.cells ≤ R.cells) (hs : slots + rm.slots ≤ R.slots) :
    ∃ (v : Option Value) (T' : State) (L : List Loc), Stand p l e R s m args below meth c T' (locs ++ L) (cells + rm.cells) (slots + rm.slots) ∧ Q v T'.heap L ∧
      ∀ target, Steps p.tables e below (T'.setTop { g with pc := g.pc + 3, stack := v.toList ++ rest }) target → Steps p.tables e below (T.setTop g) target := by
  obtain ⟨v, _, ⟨T', L', k', n'⟩, -, X', ⟨L, hQ, q1, q2, q3⟩, st⟩ := X.specialBack hx hy1 hown (mvT hZ w1) (mvT hZ w2) (mvT hZ w4) hy (backOf (W := W) K hZ w4 w3 hf hl) hg hsize (Steps.refl _) (a := a) hlen hstack hW hdg (fun _ _ => ⟨rfl, eT, hc, hs⟩)
  dsimp only [Pt.U, Pt.locs, Pt.cells, Pt.slots] at X' q1 q2 q3 st hQ
  subst q1 q2 q3
  exact ⟨v, T', L, X', hQ, fun t k => st.trans k⟩
theorem own_callIP (X : Stand p l e R s m args below meth c T locs cells slots) (hx : p.tables.exec = Jvm.exec) (hZ : Z.Warmed39 s.vm) {own : String} {index : Nat} {y : MethodName} (hy1 : y.name = "<init>") {bytes : ByteArray} {maxL : Nat} (hown : s.vm.findClass own = some m.cls)
    (w1 : (Jvm.Cond.methodLink own index y).before a0 Z = true) (w2 : (Jvm.Cond.instanceMethod y).before a0 Z = true) (w4 : (Jvm.Cond.code y bytes maxL none).before a0 Z = true) (w3 : (Jvm.Cond.initialized y.cls).before a0 Z = true) (hy : y.cls ≠ "java/lang/invoke/MethodHandle" ∧ y.cls ≠ "java/lang/invoke/VarHandle")
    (eT : T.heap = h) {rf rl : Nat} {W : Nat} {a : Addr} {argsL rest : List Value} (K : own_Con l Z [] y bytes maxL none { frames := rf, cells := 0, slots := 0, locals := rl } (.ref a :: argsL).toArray h (own_Q1 none h)) (hf : rf + 1 ≤ R.frames) (hl : W + (maxL + 11) + rl ≤ R.locals)
    {g : JFrame} (hg : g.method = m) (hsize : g.locals.size = c.maxLocals) (hlen : ∀ sig, parseMethodDescriptor y.desc = some sig → argsL.length = sig.parameters.length)
    (hstack : g.stack = argsL.reverse ++ .ref a :: rest) (hW : 2 * g.monitorRoom + (rest.map fun v => v.category).sum ≤ W) (hdg : decode c.code g.pc = .ok (.invokespecial index, 3)) (hc : cells ≤ R.cells) (hs : slots ≤ R.slots) :
    ∃ T' : State, Stand p l e R s m args below meth c T' locs cells slots ∧ T'.heap = h ∧
      ∀ target, Steps p.tables e below (T'.setTop { g with pc := g.pc + 3, stack := rest }) target → Steps p.tables e below (T.setTop g) target := by
  obtain ⟨v, T', L, X', ⟨rfl, hh, rfl⟩, st⟩ := own_callI X hx hZ hy1 hown w1 w2 w4 w3 hy eT (W := W) K hf hl hg hsize hlen hstack hW hdg hc hs
  rw [List.append_nil] at X'
  exact ⟨T', X', hh, st⟩
theorem own_callV (X : Stand p l e R s m args below meth c T locs cells slots) (hx : p.tables.exec = Jvm.exec) (hZ : Z.Warmed39 s.vm) {own C : String} {index : Nat} {y z : MethodName} {bytes : ByteArray} {maxL : Nat} {rt : Option FieldType} (hown : s.vm.findClass own = some m.cls)
    (w1 : (Jvm.Cond.methodLink own index y).before a0 Z = true) (w2 : (Jvm.Cond.declares y).before a0 Z = true) (hnf : NotFace s y) (ws : (Jvm.Cond.selects C y z).before a0 Z = true) (wi : (Jvm.Cond.instanceMethod z).before a0 Z = true) (hy : y.cls ≠ "java/lang/invoke/MethodHandle" ∧ y.cls ≠ "java/lang/invoke/VarHandle")
    (eT : T.heap = h) {b : Addr} (E : Exa Z h b C) {rm : Room} {W : Nat} {argsL rest : List Value} (K : own_Con l Z [] z bytes maxL rt rm (.ref b :: argsL).toArray h Q) (w4 : (Jvm.Cond.code z bytes maxL rt).before a0 Z = true) (w3 : (Jvm.Cond.initialized z.cls).before a0 Z = true) (hf : rm.frames + 1 ≤ R.frames) (hl : W + (maxL + 11) + rm.locals ≤ R.locals)
    {g : JFrame} (hg : g.method = m) (hsize : g.locals.size = c.maxLocals) (hlen : ∀ sig, parseMethodDescriptor y.desc = some sig → argsL.length = sig.parameters.length)
    (hstack : g.stack = argsL.reverse ++ .ref b :: rest) (hW : 2 * g.monitorRoom + (rest.map fun v => v.category).sum ≤ W) (hdg : decode c.code g.pc = .ok (.invokevirtual index, 3)) (hc : cells + rm.cells ≤ R.cells) (hs : slots + rm.slots ≤ R.slots) :
    ∃ (v : Option Value) (T' : State) (L : List Loc), Stand p l e R s m args below meth c T' (locs ++ L) (cells + rm.cells) (slots + rm.slots) ∧ Q v T'.heap L ∧
      ∀ target, Steps p.tables e below (T'.setTop { g with pc := g.pc + 3, stack := v.toList ++ rest }) target → Steps p.tables e below (T.setTop g) target := by
  obtain ⟨cq, kq, qa, qb, qc⟩ := isOf hZ eT E
  obtain ⟨v, _, ⟨T', L', k', n'⟩, -, X', ⟨L, hQ, q1, q2, q3⟩, st⟩ := X.virtualBack hx hown (mvT hZ w1) (mvT hZ w2) hnf (mvT hZ ws) (mvT hZ wi) hy (backOf (W := W) K hZ w4 w3 hf hl) qa qc hg hsize (Steps.refl _) hlen hstack hW hdg (fun _ _ => ⟨rfl, eT, hc, hs⟩)
  dsimp only [Pt.U, Pt.locs, Pt.cells, Pt.slots] at X' q1 q2 q3 st hQ
  subst q1 q2 q3
  exact ⟨v, T', L, X', hQ, fun t k => st.trans k⟩
theorem own_callVP (X : Stand p l e R s m args below meth c T locs cells slots) (hx : p.tables.exec = Jvm.exec) (hZ : Z.Warmed39 s.vm) {own C : String} {index : Nat} {y z : MethodName} {bytes : ByteArray} {maxL : Nat} {rt : Option FieldType} (hown : s.vm.findClass own = some m.cls)
    (w1 : (Jvm.Cond.methodLink own index y).before a0 Z = true) (w2 : (Jvm.Cond.declares y).before a0 Z = true) (hnf : NotFace s y) (ws : (Jvm.Cond.selects C y z).before a0 Z = true) (wi : (Jvm.Cond.instanceMethod z).before a0 Z = true) (hy : y.cls ≠ "java/lang/invoke/MethodHandle" ∧ y.cls ≠ "java/lang/invoke/VarHandle")
    (eT : T.heap = h) {b : Addr} (E : Exa Z h b C) {rf rl : Nat} {W : Nat} {argsL rest : List Value} {r : Value} (K : own_Con l Z [] z bytes maxL rt { frames := rf, cells := 0, slots := 0, locals := rl } (.ref b :: argsL).toArray h (own_Q1 (some r) h)) (w4 : (Jvm.Cond.code z bytes maxL rt).before a0 Z = true) (w3 : (Jvm.Cond.initialized z.cls).before a0 Z = true) (hf : rf + 1 ≤ R.frames) (hl : W + (maxL + 11) + rl ≤ R.locals)
    {g : JFrame} (hg : g.method = m) (hsize : g.locals.size = c.maxLocals) (hlen : ∀ sig, parseMethodDescriptor y.desc = some sig → argsL.length = sig.parameters.length)
    (hstack : g.stack = argsL.reverse ++ .ref b :: rest) (hW : 2 * g.monitorRoom + (rest.map fun v => v.category).sum ≤ W) (hdg : decode c.code g.pc = .ok (.invokevirtual index, 3)) (hc : cells ≤ R.cells) (hs : slots ≤ R.slots) :
    ∃ T' : State, Stand p l e R s m args below meth c T' locs cells slots ∧ T'.heap = h ∧
      ∀ target, Steps p.tables e below (T'.setTop { g with pc := g.pc + 3, stack := r :: rest }) target → Steps p.tables e below (T.setTop g) target := by
  obtain ⟨v, T', L, X', ⟨rfl, hh, rfl⟩, st⟩ := own_callV X hx hZ hown w1 w2 hnf ws wi hy eT E (W := W) K w4 w3 hf hl hg hsize hlen hstack hW hdg hc hs
  rw [List.append_nil] at X'
  exact ⟨T', X', hh, st⟩
theorem own_cl_eq {x y : Int64} (h : x = y) : Jvm.Free.XT.cmpL x y = 0 := by
  subst h; unfold Jvm.Free.XT.cmpL
  rw [if_neg (by rw [Int64.lt_iff_toInt_lt]; omega), if_pos rfl]
theorem own_cl_eq_n {x y : Int64} (h : ¬ x = y) : ¬ Jvm.Free.XT.cmpL x y = 0 := by
  unfold Jvm.Free.XT.cmpL
  by_cases h1 : y < x
  · rw [if_pos h1]; decide
  · rw [if_neg h1, if_neg h]; decide
theorem own_cl_gt {x y : Int64} (h : y < x) : (0 : Int32) < Jvm.Free.XT.cmpL x y := by
  unfold Jvm.Free.XT.cmpL; rw [if_pos h]; decide
theorem own_cl_gt_n {x y : Int64} (h : ¬ y < x) : ¬ (0 : Int32) < Jvm.Free.XT.cmpL x y := by
  unfold Jvm.Free.XT.cmpL; rw [if_neg h]
  by_cases h1 : x = y
  · rw [if_pos h1]; decide
  · rw [if_neg h1]; decide
theorem own_cl_lt {x y : Int64} (h : x < y) : Jvm.Free.XT.cmpL x y < (0 : Int32) := by
  unfold Jvm.Free.XT.cmpL
  rw [if_neg (by rw [Int64.lt_iff_toInt_lt] at h ⊢; omega), if_neg (by intro q; subst q; rw [Int64.lt_iff_toInt_lt] at h; omega)]; decide
theorem own_cl_lt_n {x y : Int64} (h : ¬ x < y) : ¬ Jvm.Free.XT.cmpL x y < (0 : Int32) := by
  unfold Jvm.Free.XT.cmpL
  by_cases h1 : y < x
  · rw [if_pos h1]; decide
  · rw [if_neg h1]
    have h2 : x = y := by
      rw [Int64.lt_iff_toInt_lt] at h h1
      exact Int64.toInt_inj.mp (by omega)
    rw [if_pos h2]; decide
theorem own_eq_int {a : Array Value} {s : State} {t : Term} {k : Int32} (h : (Jvm.Cond.eq t (Term.int k)).value a s none s [] = some true) : t.eval a s none [] s = some (.int k) := by
  obtain ⟨x, y, hx, hy, k1, k2⟩ := cmp_v (Or.inl h)
  obtain rfl : y = .int k := Option.some.inj (hy.symm.trans (Term.int_eval k))
  obtain ⟨z, rfl⟩ := k2
  rw [hx, gotT (Cond.eq_ints hx hy) h]
end Own


theorem own_d1_0 : decode method_2_code 0 = .ok (.iload_n 0, 1) := by decide +kernel
theorem own_d1_1 : decode method_2_code 1 = .ok (.ldc 7, 2) := by decide +kernel
theorem own_d1_3 : decode method_2_code 3 = .ok (.iand, 1) := by decide +kernel
theorem own_d1_4 : decode method_2_code 4 = .ok (.iconst 3, 1) := by decide +kernel
theorem own_d1_5 : decode method_2_code 5 = .ok (.irem, 1) := by decide +kernel
theorem own_d1_6 : decode method_2_code 6 = .ok (.istore_n 1, 1) := by decide +kernel
theorem own_d1_7 : decode method_2_code 7 = .ok (.iload_n 1, 1) := by decide +kernel
theorem own_d1_8 : decode method_2_code 8 = .ok (.ifCond .ne 7, 3) := by decide +kernel
theorem own_d1_11 : decode method_2_code 11 = .ok (.getstatic 8, 3) := by decide +kernel
theorem own_d1_14 : decode method_2_code 14 = .ok (.areturn, 1) := by decide +kernel
theorem own_d1_15 : decode method_2_code 15 = .ok (.iload_n 1, 1) := by decide +kernel
theorem own_d1_16 : decode method_2_code 16 = .ok (.iconst 1, 1) := by decide +kernel
theorem own_d1_17 : decode method_2_code 17 = .ok (.if_icmp .ne 7, 3) := by decide +kernel
theorem own_d1_20 : decode method_2_code 20 = .ok (.getstatic 14, 3) := by decide +kernel
theorem own_d1_23 : decode method_2_code 23 = .ok (.areturn, 1) := by decide +kernel
theorem own_d1_24 : decode method_2_code 24 = .ok (.getstatic 17, 3) := by decide +kernel
theorem own_d1_27 : decode method_2_code 27 = .ok (.areturn, 1) := by decide +kernel
theorem own_pn_GrantAndPinLaw : plainName "com/example/verdict_across_domains/verdictacrossdomains/GrantAndPinLaw" = true := by first | (simp [plainName, overriddenIn]; done) | decide +kernel
theorem own_ef1 (m : MethodId) (x0 : Int32) : entryFrame m #[(.int x0)] 2 = mkF m 0 #[.val (.int x0), .unset] [] := by first | (simp [entryFrame, mkF, argsToLocals, Value.category, maxLocals]; done) | rfl
def own_pick (p1 : Int32) (gN : Addr) (gG : Addr) (gU : Addr) : Addr := (if ((p1 &&& (2147483647 : Int32)) % (3 : Int32)) = (0 : Int32) then gN else (if ((p1 &&& (2147483647 : Int32)) % (3 : Int32)) = (1 : Int32) then gU else gG))
set_option maxRecDepth 65536 in
set_option maxHeartbeats 40000000 in
theorem own_rm_pick (l : Launch) (Z : State) (a0 : Array Value) (hw : ∀ d ∈ tables_1, d.before a0 Z = true) (p1 : Int32) (gN : Addr) (gG : Addr) (gU : Addr) (h0 : Heap) (SN : Sta Z h0 "com/example/verdict_across_domains/verdictacrossdomains/Grant" "NOT_GRANTED" "Lcom/example/verdict_across_domains/verdictacrossdomains/Grant;" (.ref gN)) (SG : Sta Z h0 "com/example/verdict_across_domains/verdictacrossdomains/Grant" "GRANTED" "Lcom/example/verdict_across_domains/verdictacrossdomains/Grant;" (.ref gG)) (SU : Sta Z h0 "com/example/verdict_across_domains/verdictacrossdomains/Grant" "UNKNOWN" "Lcom/example/verdict_across_domains/verdictacrossdomains/Grant;" (.ref gU)) : own_Con l Z [] (⟨"com/example/verdict_across_domains/verdictacrossdomains/GrantAndPinLaw", "pick", "(I)Lcom/example/verdict_across_domains/verdictacrossdomains/Grant;"⟩ : MethodName) method_2_code 2 (some (.object "com/example/verdict_across_domains/verdictacrossdomains/Grant")) ({ frames := 0, cells := 0, slots := 0, locals := 0 } : Room) #[(.int p1)] h0 (own_Q1 (some (.ref (own_pick p1 gN gG gU))) h0) := by
  refine own_body (plainFor_of_name own_pn_GrantAndPinLaw) ?_
  intro p e s m below meth c s₁ X0 hx hby hml hret hlk hown hnm hZ e0
  refine oS (u' := s₁.setTop (mkF m 0 #[.val (.int p1), .unset] [])) (fun _ kst => castTop (own_ef1 m p1) kst) ?_
  refine oS (u' := s₁.setTop (mkF m 1 #[.val (.int p1), .unset] [(.int p1)])) (fun _ kst => XS.iloadN X0.here hx rfl (hb hby own_d1_0) rfl kst) ?_
  refine oS (u' := s₁.setTop (mkF m 3 #[.val (.int p1), .unset] [(.int (2147483647 : Int32)), (.int p1)])) (fun _ kst => X0.ldcInt hx hown (mvT hZ (hw _ (List.mem_of_getElem? (i := 4) rfl))) (g := (mkF m 1 #[.val (.int p1), .unset] [(.int p1)])) rfl (hb hby own_d1_1) _ kst) ?_
  refine oS (u' := s₁.setTop (mkF m 4 #[.val (.int p1), .unset] [(.int (p1 &&& (2147483647 : Int32)))])) (fun _ kst => XS.iand X0.here hx rfl (hb hby own_d1_3) rfl kst) ?_
  refine oS (u' := s₁.setTop (mkF m 5 #[.val (.int p1), .unset] [(.int (3 : Int32)), (.int (p1 &&& (2147483647 : Int32)))])) (fun _ kst => XS.iconst X0.here hx rfl (hb hby own_d1_4) kst) ?_
  refine oS (u' := s₁.setTop (mkF m 6 #[.val (.int p1), .unset] [(.int ((p1 &&& (2147483647 : Int32)) % (3 : Int32)))])) (fun _ kst => iremM X0 hx rfl (hb hby own_d1_5) rfl (by decide) kst) ?_
  refine oS (u' := s₁.setTop (mkF m 7 #[.val (.int p1), .val (.int ((p1 &&& (2147483647 : Int32)) % (3 : Int32)))] [])) (fun _ kst => XS.istoreN X0.here hx rfl (hb hby own_d1_6) rfl (l' := #[.val (.int p1), .val (.int ((p1 &&& (2147483647 : Int32)) % (3 : Int32)))]) rfl kst) ?_
  refine oS (u' := s₁.setTop (mkF m 8 #[.val (.int p1), .val (.int ((p1 &&& (2147483647 : Int32)) % (3 : Int32)))] [(.int ((p1 &&& (2147483647 : Int32)) % (3 : Int32)))])) (fun _ kst => XS.iloadN X0.here hx rfl (hb hby own_d1_7) rfl kst) ?_
  by_cases hc1 : ((p1 &&& (2147483647 : Int32)) % (3 : Int32)) = (0 : Int32)
  · refine oS (u' := s₁.setTop (mkF m 11 #[.val (.int p1), .val (.int ((p1 &&& (2147483647 : Int32)) % (3 : Int32)))] [])) (fun _ kst => XS.ifNo X0.here hx rfl (hb hby own_d1_8) rfl ((if0 _ _).trans (teq hc1).2) kst) ?_
    obtain ⟨T2, X2, e2, st2⟩ := getS2 X0 hx hZ hown (host := "") (Or.inl (hw _ (List.mem_of_getElem? (i := 5) rfl))) Via.refl e0 SN (g := (mkF m 11 #[.val (.int p1), .val (.int ((p1 &&& (2147483647 : Int32)) % (3 : Int32)))] [])) rfl (hb hby own_d1_11)
    refine oS (u' := T2.setTop (mkF m 14 #[.val (.int p1), .val (.int ((p1 &&& (2147483647 : Int32)) % (3 : Int32)))] [(.ref gN)])) st2 ?_
    refine own_retA X2 hx hlk hret rfl rfl (hb hby own_d1_14) ?_ (by decide) (by decide)
    exact ⟨(by show (some (.ref gN) : Option Value) = _; unfold own_pick; rw [if_pos hc1]), e2, rfl⟩
  · refine oS (u' := s₁.setTop (mkF m 15 #[.val (.int p1), .val (.int ((p1 &&& (2147483647 : Int32)) % (3 : Int32)))] [])) (fun _ kst => XS.ifYes X0.here hx rfl (pc0 := 8) (pc' := 15) rfl (hb hby own_d1_8) rfl ((if0 _ _).trans (feq hc1).2) (by decide) (by decide) kst) ?_
    refine oS (u' := s₁.setTop (mkF m 16 #[.val (.int p1), .val (.int ((p1 &&& (2147483647 : Int32)) % (3 : Int32)))] [(.int ((p1 &&& (2147483647 : Int32)) % (3 : Int32)))])) (fun _ kst => XS.iloadN X0.here hx rfl (hb hby own_d1_15) rfl kst) ?_
    refine oS (u' := s₁.setTop (mkF m 17 #[.val (.int p1), .val (.int ((p1 &&& (2147483647 : Int32)) % (3 : Int32)))] [(.int (1 : Int32)), (.int ((p1 &&& (2147483647 : Int32)) % (3 : Int32)))])) (fun _ kst => XS.iconst X0.here hx rfl (hb hby own_d1_16) kst) ?_
    by_cases hc3 : ((p1 &&& (2147483647 : Int32)) % (3 : Int32)) = (1 : Int32)
    · refine oS (u' := s₁.setTop (mkF m 20 #[.val (.int p1), .val (.int ((p1 &&& (2147483647 : Int32)) % (3 : Int32)))] [])) (fun _ kst => XS.icmpNo X0.here hx rfl (hb hby own_d1_17) rfl (teq hc3).2 kst) ?_
      obtain ⟨T4, X4, e4, st4⟩ := getS2 X0 hx hZ hown (host := "") (Or.inl (hw _ (List.mem_of_getElem? (i := 23) rfl))) Via.refl e0 SU (g := (mkF m 20 #[.val (.int p1), .val (.int ((p1 &&& (2147483647 : Int32)) % (3 : Int32)))] [])) rfl (hb hby own_d1_20)
      refine oS (u' := T4.setTop (mkF m 23 #[.val (.int p1), .val (.int ((p1 &&& (2147483647 : Int32)) % (3 : Int32)))] [(.ref gU)])) st4 ?_
      refine own_retA X4 hx hlk hret rfl rfl (hb hby own_d1_23) ?_ (by decide) (by decide)
      exact ⟨(by show (some (.ref gU) : Option Value) = _; unfold own_pick; rw [if_neg hc1, if_pos hc3]), e4, rfl⟩
    · refine oS (u' := s₁.setTop (mkF m 24 #[.val (.int p1), .val (.int ((p1 &&& (2147483647 : Int32)) % (3 : Int32)))] [])) (fun _ kst => XS.icmpYes X0.here hx rfl (pc0 := 17) (pc' := 24) rfl (hb hby own_d1_17) rfl (feq hc3).2 (by decide) (by decide) kst) ?_
      obtain ⟨T5, X5, e5, st5⟩ := getS2 X0 hx hZ hown (host := "") (Or.inl (hw _ (List.mem_of_getElem? (i := 21) rfl))) Via.refl e0 SG (g := (mkF m 24 #[.val (.int p1), .val (.int ((p1 &&& (2147483647 : Int32)) % (3 : Int32)))] [])) rfl (hb hby own_d1_24)
      refine oS (u' := T5.setTop (mkF m 27 #[.val (.int p1), .val (.int ((p1 &&& (2147483647 : Int32)) % (3 : Int32)))] [(.ref gG)])) st5 ?_
      refine own_retA X5 hx hlk hret rfl rfl (hb hby own_d1_27) ?_ (by decide) (by decide)
      exact ⟨(by show (some (.ref gG) : Option Value) = _; unfold own_pick; rw [if_neg hc1, if_neg hc3]), e5, rfl⟩
theorem own_d2_0 : decode prog_66_method_6_code 0 = .ok (.aload_n 0, 1) := by decide +kernel
theorem own_d2_1 : decode prog_66_method_6_code 1 = .ok (.getstatic 7, 3) := by decide +kernel
theorem own_d2_4 : decode prog_66_method_6_code 4 = .ok (.if_acmp .eq 10, 3) := by decide +kernel
theorem own_d2_7 : decode prog_66_method_6_code 7 = .ok (.aload_n 1, 1) := by decide +kernel
theorem own_d2_8 : decode prog_66_method_6_code 8 = .ok (.getstatic 7, 3) := by decide +kernel
theorem own_d2_11 : decode prog_66_method_6_code 11 = .ok (.if_acmp .ne 7, 3) := by decide +kernel
theorem own_d2_14 : decode prog_66_method_6_code 14 = .ok (.getstatic 7, 3) := by decide +kernel
theorem own_d2_17 : decode prog_66_method_6_code 17 = .ok (.areturn, 1) := by decide +kernel
theorem own_d2_18 : decode prog_66_method_6_code 18 = .ok (.aload_n 0, 1) := by decide +kernel
theorem own_d2_19 : decode prog_66_method_6_code 19 = .ok (.getstatic 10, 3) := by decide +kernel
theorem own_d2_22 : decode prog_66_method_6_code 22 = .ok (.if_acmp .eq 10, 3) := by decide +kernel
theorem own_d2_25 : decode prog_66_method_6_code 25 = .ok (.aload_n 1, 1) := by decide +kernel
theorem own_d2_26 : decode prog_66_method_6_code 26 = .ok (.getstatic 10, 3) := by decide +kernel
theorem own_d2_29 : decode prog_66_method_6_code 29 = .ok (.if_acmp .ne 9, 3) := by decide +kernel
theorem own_d2_32 : decode prog_66_method_6_code 32 = .ok (.getstatic 10, 3) := by decide +kernel
theorem own_d2_35 : decode prog_66_method_6_code 35 = .ok (.goto 6, 3) := by decide +kernel
theorem own_d2_38 : decode prog_66_method_6_code 38 = .ok (.getstatic 3, 3) := by decide +kernel
theorem own_d2_41 : decode prog_66_method_6_code 41 = .ok (.areturn, 1) := by decide +kernel
theorem own_pn_Grant : plainName "com/example/verdict_across_domains/verdictacrossdomains/Grant" = true := by first | (simp [plainName, overriddenIn]; done) | decide +kernel
theorem own_ef2 (m : MethodId) (x0 : Addr) (x1 : Addr) : entryFrame m #[(.ref x0), (.ref x1)] 2 = mkF m 0 #[.val (.ref x0), .val (.ref x1)] [] := by first | (simp [entryFrame, mkF, argsToLocals, Value.category, maxLocals]; done) | rfl
def own_and (r0 : Addr) (p1 : Addr) (gN : Addr) (gG : Addr) (gU : Addr) : Addr := (if r0 = gN then gN else (if p1 = gN then gN else (if r0 = gU then gU else (if p1 = gU then gU else gG))))
set_option maxRecDepth 65536 in
set_option maxHeartbeats 40000000 in
theorem own_rm_and (l : Launch) (Z : State) (a0 : Array Value) (hw : ∀ d ∈ tables_1, d.before a0 Z = true) (r0 : Addr) (p1 : Addr) (gN : Addr) (gG : Addr) (gU : Addr) (h0 : Heap) (SN : Sta Z h0 "com/example/verdict_across_domains/verdictacrossdomains/Grant" "NOT_GRANTED" "Lcom/example/verdict_across_domains/verdictacrossdomains/Grant;" (.ref gN)) (SG : Sta Z h0 "com/example/verdict_across_domains/verdictacrossdomains/Grant" "GRANTED" "Lcom/example/verdict_across_domains/verdictacrossdomains/Grant;" (.ref gG)) (SU : Sta Z h0 "com/example/verdict_across_domains/verdictacrossdomains/Grant" "UNKNOWN" "Lcom/example/verdict_across_domains/verdictacrossdomains/Grant;" (.ref gU)) : own_Con l Z [] (⟨"com/example/verdict_across_domains/verdictacrossdomains/Grant", "and", "(Lcom/example/verdict_across_domains/verdictacrossdomains/Grant;)Lcom/example/verdict_across_domains/verdictacrossdomains/Grant;"⟩ : MethodName) prog_66_method_6_code 2 (some (.object "com/example/verdict_across_domains/verdictacrossdomains/Grant")) ({ frames := 0, cells := 0, slots := 0, locals := 0 } : Room) #[(.ref r0), (.ref p1)] h0 (own_Q1 (some (.ref (own_and r0 p1 gN gG gU))) h0) := by
  refine own_body (plainFor_of_name own_pn_Grant) ?_
  intro p e s m below meth c s₁ X0 hx hby hml hret hlk hown hnm hZ e0
  refine oS (u' := s₁.setTop (mkF m 0 #[.val (.ref r0), .val (.ref p1)] [])) (fun _ kst => castTop (own_ef2 m r0 p1) kst) ?_
  refine oS (u' := s₁.setTop (mkF m 1 #[.val (.ref r0), .val (.ref p1)] [(.ref r0)])) (fun _ kst => XS.aloadN X0.here hx rfl (hb hby own_d2_0) rfl rfl kst) ?_
  obtain ⟨T6, X6, e6, st6⟩ := getS2 X0 hx hZ hown (host := "") (Or.inl (hw _ (List.mem_of_getElem? (i := 13) rfl))) Via.refl e0 SN (g := (mkF m 1 #[.val (.ref r0), .val (.ref p1)] [(.ref r0)])) rfl (hb hby own_d2_1)
  refine oS (u' := T6.setTop (mkF m 4 #[.val (.ref r0), .val (.ref p1)] [(.ref gN), (.ref r0)])) st6 ?_
  by_cases hc7 : r0 = gN
  · refine oS (u' := T6.setTop (mkF m 14 #[.val (.ref r0), .val (.ref p1)] [])) (fun _ kst => Jvm.RoadKit.acmp (g := (mkF m 4 #[.val (.ref r0), .val (.ref p1)] [(.ref gN), (.ref r0)])) X6 hx rfl rfl rfl (pc0 := 4) (pc' := 14) (same := true) rfl (hb hby own_d2_4) rfl (decide_eq_true (congrArg Value.ref hc7)) (by decide) (by decide) kst) ?_
    obtain ⟨T8, X8, e8, st8⟩ := getS2 X6 hx hZ hown (host := "") (Or.inl (hw _ (List.mem_of_getElem? (i := 13) rfl))) Via.refl e6 SN (g := (mkF m 14 #[.val (.ref r0), .val (.ref p1)] [])) rfl (hb hby own_d2_14)
    refine oS (u' := T8.setTop (mkF m 17 #[.val (.ref r0), .val (.ref p1)] [(.ref gN)])) st8 ?_
    refine own_retA X8 hx hlk hret rfl rfl (hb hby own_d2_17) ?_ (by decide) (by decide)
    exact ⟨(by show (some (.ref gN) : Option Value) = _; unfold own_and; rw [if_pos hc7]), e8, rfl⟩
  · refine oS (u' := T6.setTop (mkF m 7 #[.val (.ref r0), .val (.ref p1)] [])) (fun _ kst => Jvm.RoadKit.acmp (g := (mkF m 4 #[.val (.ref r0), .val (.ref p1)] [(.ref gN), (.ref r0)])) X6 hx rfl rfl rfl (pc0 := 4) (pc' := 7) (same := false) rfl (hb hby own_d2_4) rfl (decide_eq_false fun q => hc7 (Value.ref.inj q)) (by decide) (by decide) kst) ?_
    refine oS (u' := T6.setTop (mkF m 8 #[.val (.ref r0), .val (.ref p1)] [(.ref p1)])) (fun _ kst => XS.aloadN X6.here hx rfl (hb hby own_d2_7) rfl rfl kst) ?_
    obtain ⟨T9, X9, e9, st9⟩ := getS2 X6 hx hZ hown (host := "") (Or.inl (hw _ (List.mem_of_getElem? (i := 13) rfl))) Via.refl e6 SN (g := (mkF m 8 #[.val (.ref r0), .val (.ref p1)] [(.ref p1)])) rfl (hb hby own_d2_8)
    refine oS (u' := T9.setTop (mkF m 11 #[.val (.ref r0), .val (.ref p1)] [(.ref gN), (.ref p1)])) st9 ?_
    by_cases hc10 : p1 = gN
    · refine oS (u' := T9.setTop (mkF m 14 #[.val (.ref r0), .val (.ref p1)] [])) (fun _ kst => Jvm.RoadKit.acmp (g := (mkF m 11 #[.val (.ref r0), .val (.ref p1)] [(.ref gN), (.ref p1)])) X9 hx rfl rfl rfl (pc0 := 11) (pc' := 14) (same := true) rfl (hb hby own_d2_11) rfl (decide_eq_true (congrArg Value.ref hc10)) (by decide) (by decide) kst) ?_
      obtain ⟨T11, X11, e11, st11⟩ := getS2 X9 hx hZ hown (host := "") (Or.inl (hw _ (List.mem_of_getElem? (i := 13) rfl))) Via.refl e9 SN (g := (mkF m 14 #[.val (.ref r0), .val (.ref p1)] [])) rfl (hb hby own_d2_14)
      refine oS (u' := T11.setTop (mkF m 17 #[.val (.ref r0), .val (.ref p1)] [(.ref gN)])) st11 ?_
      refine own_retA X11 hx hlk hret rfl rfl (hb hby own_d2_17) ?_ (by decide) (by decide)
      exact ⟨(by show (some (.ref gN) : Option Value) = _; unfold own_and; rw [if_neg hc7, if_pos hc10]), e11, rfl⟩
    · refine oS (u' := T9.setTop (mkF m 18 #[.val (.ref r0), .val (.ref p1)] [])) (fun _ kst => Jvm.RoadKit.acmp (g := (mkF m 11 #[.val (.ref r0), .val (.ref p1)] [(.ref gN), (.ref p1)])) X9 hx rfl rfl rfl (pc0 := 11) (pc' := 18) (same := false) rfl (hb hby own_d2_11) rfl (decide_eq_false fun q => hc10 (Value.ref.inj q)) (by decide) (by decide) kst) ?_
      refine oS (u' := T9.setTop (mkF m 19 #[.val (.ref r0), .val (.ref p1)] [(.ref r0)])) (fun _ kst => XS.aloadN X9.here hx rfl (hb hby own_d2_18) rfl rfl kst) ?_
      obtain ⟨T12, X12, e12, st12⟩ := getS2 X9 hx hZ hown (host := "") (Or.inl (hw _ (List.mem_of_getElem? (i := 25) rfl))) Via.refl e9 SU (g := (mkF m 19 #[.val (.ref r0), .val (.ref p1)] [(.ref r0)])) rfl (hb hby own_d2_19)
      refine oS (u' := T12.setTop (mkF m 22 #[.val (.ref r0), .val (.ref p1)] [(.ref gU), (.ref r0)])) st12 ?_
      by_cases hc13 : r0 = gU
      · refine oS (u' := T12.setTop (mkF m 32 #[.val (.ref r0), .val (.ref p1)] [])) (fun _ kst => Jvm.RoadKit.acmp (g := (mkF m 22 #[.val (.ref r0), .val (.ref p1)] [(.ref gU), (.ref r0)])) X12 hx rfl rfl rfl (pc0 := 22) (pc' := 32) (same := true) rfl (hb hby own_d2_22) rfl (decide_eq_true (congrArg Value.ref hc13)) (by decide) (by decide) kst) ?_
        obtain ⟨T14, X14, e14, st14⟩ := getS2 X12 hx hZ hown (host := "") (Or.inl (hw _ (List.mem_of_getElem? (i := 25) rfl))) Via.refl e12 SU (g := (mkF m 32 #[.val (.ref r0), .val (.ref p1)] [])) rfl (hb hby own_d2_32)
        refine oS (u' := T14.setTop (mkF m 35 #[.val (.ref r0), .val (.ref p1)] [(.ref gU)])) st14 ?_
        refine oS (u' := T14.setTop (mkF m 41 #[.val (.ref r0), .val (.ref p1)] [(.ref gU)])) (fun _ kst => XS.goto X14.here hx rfl (pc0 := 35) (pc' := 41) rfl (hb hby own_d2_35) (by decide) (by decide) kst) ?_
        refine own_retA X14 hx hlk hret rfl rfl (hb hby own_d2_41) ?_ (by decide) (by decide)
        exact ⟨(by show (some (.ref gU) : Option Value) = _; unfold own_and; rw [if_neg hc7, if_neg hc10, if_pos hc13]), e14, rfl⟩
      · refine oS (u' := T12.setTop (mkF m 25 #[.val (.ref r0), .val (.ref p1)] [])) (fun _ kst => Jvm.RoadKit.acmp (g := (mkF m 22 #[.val (.ref r0), .val (.ref p1)] [(.ref gU), (.ref r0)])) X12 hx rfl rfl rfl (pc0 := 22) (pc' := 25) (same := false) rfl (hb hby own_d2_22) rfl (decide_eq_false fun q => hc13 (Value.ref.inj q)) (by decide) (by decide) kst) ?_
        refine oS (u' := T12.setTop (mkF m 26 #[.val (.ref r0), .val (.ref p1)] [(.ref p1)])) (fun _ kst => XS.aloadN X12.here hx rfl (hb hby own_d2_25) rfl rfl kst) ?_
        obtain ⟨T15, X15, e15, st15⟩ := getS2 X12 hx hZ hown (host := "") (Or.inl (hw _ (List.mem_of_getElem? (i := 25) rfl))) Via.refl e12 SU (g := (mkF m 26 #[.val (.ref r0), .val (.ref p1)] [(.ref p1)])) rfl (hb hby own_d2_26)
        refine oS (u' := T15.setTop (mkF m 29 #[.val (.ref r0), .val (.ref p1)] [(.ref gU), (.ref p1)])) st15 ?_
        by_cases hc16 : p1 = gU
        · refine oS (u' := T15.setTop (mkF m 32 #[.val (.ref r0), .val (.ref p1)] [])) (fun _ kst => Jvm.RoadKit.acmp (g := (mkF m 29 #[.val (.ref r0), .val (.ref p1)] [(.ref gU), (.ref p1)])) X15 hx rfl rfl rfl (pc0 := 29) (pc' := 32) (same := true) rfl (hb hby own_d2_29) rfl (decide_eq_true (congrArg Value.ref hc16)) (by decide) (by decide) kst) ?_
          obtain ⟨T17, X17, e17, st17⟩ := getS2 X15 hx hZ hown (host := "") (Or.inl (hw _ (List.mem_of_getElem? (i := 25) rfl))) Via.refl e15 SU (g := (mkF m 32 #[.val (.ref r0), .val (.ref p1)] [])) rfl (hb hby own_d2_32)
          refine oS (u' := T17.setTop (mkF m 35 #[.val (.ref r0), .val (.ref p1)] [(.ref gU)])) st17 ?_
          refine oS (u' := T17.setTop (mkF m 41 #[.val (.ref r0), .val (.ref p1)] [(.ref gU)])) (fun _ kst => XS.goto X17.here hx rfl (pc0 := 35) (pc' := 41) rfl (hb hby own_d2_35) (by decide) (by decide) kst) ?_
          refine own_retA X17 hx hlk hret rfl rfl (hb hby own_d2_41) ?_ (by decide) (by decide)
          exact ⟨(by show (some (.ref gU) : Option Value) = _; unfold own_and; rw [if_neg hc7, if_neg hc10, if_neg hc13, if_pos hc16]), e17, rfl⟩
        · refine oS (u' := T15.setTop (mkF m 38 #[.val (.ref r0), .val (.ref p1)] [])) (fun _ kst => Jvm.RoadKit.acmp (g := (mkF m 29 #[.val (.ref r0), .val (.ref p1)] [(.ref gU), (.ref p1)])) X15 hx rfl rfl rfl (pc0 := 29) (pc' := 38) (same := false) rfl (hb hby own_d2_29) rfl (decide_eq_false fun q => hc16 (Value.ref.inj q)) (by decide) (by decide) kst) ?_
          obtain ⟨T18, X18, e18, st18⟩ := getS2 X15 hx hZ hown (host := "") (Or.inl (hw _ (List.mem_of_getElem? (i := 26) rfl))) Via.refl e15 SG (g := (mkF m 38 #[.val (.ref r0), .val (.ref p1)] [])) rfl (hb hby own_d2_38)
          refine oS (u' := T18.setTop (mkF m 41 #[.val (.ref r0), .val (.ref p1)] [(.ref gG)])) st18 ?_
          refine own_retA X18 hx hlk hret rfl rfl (hb hby own_d2_41) ?_ (by decide) (by decide)
          exact ⟨(by show (some (.ref gG) : Option Value) = _; unfold own_and; rw [if_neg hc7, if_neg hc10, if_neg hc13, if_neg hc16]), e18, rfl⟩
theorem own_d3_0 : decode method_3_code 0 = .ok (.aload_n 0, 1) := by decide +kernel
theorem own_d3_1 : decode method_3_code 1 = .ok (.getstatic 8, 3) := by decide +kernel
theorem own_d3_4 : decode method_3_code 4 = .ok (.if_acmp .ne 5, 3) := by decide +kernel
theorem own_d3_7 : decode method_3_code 7 = .ok (.iconst 0, 1) := by decide +kernel
theorem own_d3_8 : decode method_3_code 8 = .ok (.ireturn, 1) := by decide +kernel
theorem own_d3_9 : decode method_3_code 9 = .ok (.aload_n 0, 1) := by decide +kernel
theorem own_d3_10 : decode method_3_code 10 = .ok (.getstatic 14, 3) := by decide +kernel
theorem own_d3_13 : decode method_3_code 13 = .ok (.if_acmp .ne 5, 3) := by decide +kernel
theorem own_d3_16 : decode method_3_code 16 = .ok (.iconst 1, 1) := by decide +kernel
theorem own_d3_17 : decode method_3_code 17 = .ok (.ireturn, 1) := by decide +kernel
theorem own_d3_18 : decode method_3_code 18 = .ok (.aload_n 0, 1) := by decide +kernel
theorem own_d3_19 : decode method_3_code 19 = .ok (.getstatic 17, 3) := by decide +kernel
theorem own_d3_22 : decode method_3_code 22 = .ok (.if_acmp .ne 5, 3) := by decide +kernel
theorem own_d3_25 : decode method_3_code 25 = .ok (.iconst 2, 1) := by decide +kernel
theorem own_d3_26 : decode method_3_code 26 = .ok (.ireturn, 1) := by decide +kernel
theorem own_d3_27 : decode method_3_code 27 = .ok (.iconst (-1), 1) := by decide +kernel
theorem own_d3_28 : decode method_3_code 28 = .ok (.ireturn, 1) := by decide +kernel
theorem own_ef3 (m : MethodId) (x0 : Addr) : entryFrame m #[(.ref x0)] 1 = mkF m 0 #[.val (.ref x0)] [] := by first | (simp [entryFrame, mkF, argsToLocals, Value.category, maxLocals]; done) | rfl
def own_rank (p1 : Addr) (gN : Addr) (gG : Addr) (gU : Addr) : Int32 := (if p1 = gN then (0 : Int32) else (if p1 = gU then (1 : Int32) else (if p1 = gG then (2 : Int32) else (-1 : Int32))))
set_option maxRecDepth 65536 in
set_option maxHeartbeats 40000000 in
theorem own_rm_rank (l : Launch) (Z : State) (a0 : Array Value) (hw : ∀ d ∈ tables_1, d.before a0 Z = true) (p1 : Addr) (gN : Addr) (gG : Addr) (gU : Addr) (h0 : Heap) (SN : Sta Z h0 "com/example/verdict_across_domains/verdictacrossdomains/Grant" "NOT_GRANTED" "Lcom/example/verdict_across_domains/verdictacrossdomains/Grant;" (.ref gN)) (SG : Sta Z h0 "com/example/verdict_across_domains/verdictacrossdomains/Grant" "GRANTED" "Lcom/example/verdict_across_domains/verdictacrossdomains/Grant;" (.ref gG)) (SU : Sta Z h0 "com/example/verdict_across_domains/verdictacrossdomains/Grant" "UNKNOWN" "Lcom/example/verdict_across_domains/verdictacrossdomains/Grant;" (.ref gU)) : own_Con l Z [] (⟨"com/example/verdict_across_domains/verdictacrossdomains/GrantAndPinLaw", "rank", "(Lcom/example/verdict_across_domains/verdictacrossdomains/Grant;)I"⟩ : MethodName) method_3_code 1 (some .int) ({ frames := 0, cells := 0, slots := 0, locals := 0 } : Room) #[(.ref p1)] h0 (own_Q1 (some (.int (own_rank p1 gN gG gU))) h0) := by
  refine own_body (plainFor_of_name own_pn_GrantAndPinLaw) ?_
  intro p e s m below meth c s₁ X0 hx hby hml hret hlk hown hnm hZ e0
  refine oS (u' := s₁.setTop (mkF m 0 #[.val (.ref p1)] [])) (fun _ kst => castTop (own_ef3 m p1) kst) ?_
  refine oS (u' := s₁.setTop (mkF m 1 #[.val (.ref p1)] [(.ref p1)])) (fun _ kst => XS.aloadN X0.here hx rfl (hb hby own_d3_0) rfl rfl kst) ?_
  obtain ⟨T19, X19, e19, st19⟩ := getS2 X0 hx hZ hown (host := "") (Or.inl (hw _ (List.mem_of_getElem? (i := 5) rfl))) Via.refl e0 SN (g := (mkF m 1 #[.val (.ref p1)] [(.ref p1)])) rfl (hb hby own_d3_1)
  refine oS (u' := T19.setTop (mkF m 4 #[.val (.ref p1)] [(.ref gN), (.ref p1)])) st19 ?_
  by_cases hc20 : p1 = gN
  · refine oS (u' := T19.setTop (mkF m 7 #[.val (.ref p1)] [])) (fun _ kst => Jvm.RoadKit.acmp (g := (mkF m 4 #[.val (.ref p1)] [(.ref gN), (.ref p1)])) X19 hx rfl rfl rfl (pc0 := 4) (pc' := 7) (same := true) rfl (hb hby own_d3_4) rfl (decide_eq_true (congrArg Value.ref hc20)) (by decide) (by decide) kst) ?_
    refine oS (u' := T19.setTop (mkF m 8 #[.val (.ref p1)] [(.int (0 : Int32))])) (fun _ kst => XS.iconst X19.here hx rfl (hb hby own_d3_7) kst) ?_
    refine own_retI X19 hx hlk hret (hb hby own_d3_8) ?_ (by decide) (by decide)
    exact ⟨(by show (some (.int (0 : Int32)) : Option Value) = _; unfold own_rank; rw [if_pos hc20]), e19, rfl⟩
  · refine oS (u' := T19.setTop (mkF m 9 #[.val (.ref p1)] [])) (fun _ kst => Jvm.RoadKit.acmp (g := (mkF m 4 #[.val (.ref p1)] [(.ref gN), (.ref p1)])) X19 hx rfl rfl rfl (pc0 := 4) (pc' := 9) (same := false) rfl (hb hby own_d3_4) rfl (decide_eq_false fun q => hc20 (Value.ref.inj q)) (by decide) (by decide) kst) ?_
    refine oS (u' := T19.setTop (mkF m 10 #[.val (.ref p1)] [(.ref p1)])) (fun _ kst => XS.aloadN X19.here hx rfl (hb hby own_d3_9) rfl rfl kst) ?_
    obtain ⟨T21, X21, e21, st21⟩ := getS2 X19 hx hZ hown (host := "") (Or.inl (hw _ (List.mem_of_getElem? (i := 23) rfl))) Via.refl e19 SU (g := (mkF m 10 #[.val (.ref p1)] [(.ref p1)])) rfl (hb hby own_d3_10)
    refine oS (u' := T21.setTop (mkF m 13 #[.val (.ref p1)] [(.ref gU), (.ref p1)])) st21 ?_
    by_cases hc22 : p1 = gU
    · refine oS (u' := T21.setTop (mkF m 16 #[.val (.ref p1)] [])) (fun _ kst => Jvm.RoadKit.acmp (g := (mkF m 13 #[.val (.ref p1)] [(.ref gU), (.ref p1)])) X21 hx rfl rfl rfl (pc0 := 13) (pc' := 16) (same := true) rfl (hb hby own_d3_13) rfl (decide_eq_true (congrArg Value.ref hc22)) (by decide) (by decide) kst) ?_
      refine oS (u' := T21.setTop (mkF m 17 #[.val (.ref p1)] [(.int (1 : Int32))])) (fun _ kst => XS.iconst X21.here hx rfl (hb hby own_d3_16) kst) ?_
      refine own_retI X21 hx hlk hret (hb hby own_d3_17) ?_ (by decide) (by decide)
      exact ⟨(by show (some (.int (1 : Int32)) : Option Value) = _; unfold own_rank; rw [if_neg hc20, if_pos hc22]), e21, rfl⟩
    · refine oS (u' := T21.setTop (mkF m 18 #[.val (.ref p1)] [])) (fun _ kst => Jvm.RoadKit.acmp (g := (mkF m 13 #[.val (.ref p1)] [(.ref gU), (.ref p1)])) X21 hx rfl rfl rfl (pc0 := 13) (pc' := 18) (same := false) rfl (hb hby own_d3_13) rfl (decide_eq_false fun q => hc22 (Value.ref.inj q)) (by decide) (by decide) kst) ?_
      refine oS (u' := T21.setTop (mkF m 19 #[.val (.ref p1)] [(.ref p1)])) (fun _ kst => XS.aloadN X21.here hx rfl (hb hby own_d3_18) rfl rfl kst) ?_
      obtain ⟨T23, X23, e23, st23⟩ := getS2 X21 hx hZ hown (host := "") (Or.inl (hw _ (List.mem_of_getElem? (i := 21) rfl))) Via.refl e21 SG (g := (mkF m 19 #[.val (.ref p1)] [(.ref p1)])) rfl (hb hby own_d3_19)
      refine oS (u' := T23.setTop (mkF m 22 #[.val (.ref p1)] [(.ref gG), (.ref p1)])) st23 ?_
      by_cases hc24 : p1 = gG
      · refine oS (u' := T23.setTop (mkF m 25 #[.val (.ref p1)] [])) (fun _ kst => Jvm.RoadKit.acmp (g := (mkF m 22 #[.val (.ref p1)] [(.ref gG), (.ref p1)])) X23 hx rfl rfl rfl (pc0 := 22) (pc' := 25) (same := true) rfl (hb hby own_d3_22) rfl (decide_eq_true (congrArg Value.ref hc24)) (by decide) (by decide) kst) ?_
        refine oS (u' := T23.setTop (mkF m 26 #[.val (.ref p1)] [(.int (2 : Int32))])) (fun _ kst => XS.iconst X23.here hx rfl (hb hby own_d3_25) kst) ?_
        refine own_retI X23 hx hlk hret (hb hby own_d3_26) ?_ (by decide) (by decide)
        exact ⟨(by show (some (.int (2 : Int32)) : Option Value) = _; unfold own_rank; rw [if_neg hc20, if_neg hc22, if_pos hc24]), e23, rfl⟩
      · refine oS (u' := T23.setTop (mkF m 27 #[.val (.ref p1)] [])) (fun _ kst => Jvm.RoadKit.acmp (g := (mkF m 22 #[.val (.ref p1)] [(.ref gG), (.ref p1)])) X23 hx rfl rfl rfl (pc0 := 22) (pc' := 27) (same := false) rfl (hb hby own_d3_22) rfl (decide_eq_false fun q => hc24 (Value.ref.inj q)) (by decide) (by decide) kst) ?_
        refine oS (u' := T23.setTop (mkF m 28 #[.val (.ref p1)] [(.int (-1 : Int32))])) (fun _ kst => XS.iconst X23.here hx rfl (hb hby own_d3_27) kst) ?_
        refine own_retI X23 hx hlk hret (hb hby own_d3_28) ?_ (by decide) (by decide)
        exact ⟨(by show (some (.int (-1 : Int32)) : Option Value) = _; unfold own_rank; rw [if_neg hc20, if_neg hc22, if_neg hc24]), e23, rfl⟩
theorem own_d4_0 : decode jdk_29_method_69_code 0 = .ok (.iload_n 0, 1) := by decide +kernel
theorem own_d4_1 : decode jdk_29_method_69_code 1 = .ok (.iload_n 1, 1) := by decide +kernel
theorem own_d4_2 : decode jdk_29_method_69_code 2 = .ok (.if_icmp .gt 7, 3) := by decide +kernel
theorem own_d4_5 : decode jdk_29_method_69_code 5 = .ok (.iload_n 0, 1) := by decide +kernel
theorem own_d4_6 : decode jdk_29_method_69_code 6 = .ok (.goto 4, 3) := by decide +kernel
theorem own_d4_9 : decode jdk_29_method_69_code 9 = .ok (.iload_n 1, 1) := by decide +kernel
theorem own_d4_10 : decode jdk_29_method_69_code 10 = .ok (.ireturn, 1) := by decide +kernel
theorem own_ef4 (m : MethodId) (x0 : Int32) (x1 : Int32) : entryFrame m #[(.int x0), (.int x1)] 2 = mkF m 0 #[.val (.int x0), .val (.int x1)] [] := by first | (simp [entryFrame, mkF, argsToLocals, Value.category, maxLocals]; done) | rfl
def own_min (p1 : Int32) (p2 : Int32) : Int32 := (if p2 < p1 then p2 else p1)
set_option maxRecDepth 65536 in
set_option maxHeartbeats 40000000 in
theorem own_rm_min (l : Launch) (Z : State) (a0 : Array Value) (hw : ∀ d ∈ tables_1, d.before a0 Z = true) (p1 : Int32) (p2 : Int32) (h0 : Heap) : own_Con l Z [] (⟨"java/lang/Math", "min", "(II)I"⟩ : MethodName) jdk_29_method_69_code 2 (some .int) ({ frames := 0, cells := 0, slots := 0, locals := 0 } : Room) #[(.int p1), (.int p2)] h0 (own_Q1 (some (.int (own_min p1 p2))) h0) := by
  refine own_body (Jvm.Free.JP.mathPlain rfl (by decide +kernel)) ?_
  intro p e s m below meth c s₁ X0 hx hby hml hret hlk hown hnm hZ e0
  refine oS (u' := s₁.setTop (mkF m 0 #[.val (.int p1), .val (.int p2)] [])) (fun _ kst => castTop (own_ef4 m p1 p2) kst) ?_
  refine oS (u' := s₁.setTop (mkF m 1 #[.val (.int p1), .val (.int p2)] [(.int p1)])) (fun _ kst => XS.iloadN X0.here hx rfl (hb hby own_d4_0) rfl kst) ?_
  refine oS (u' := s₁.setTop (mkF m 2 #[.val (.int p1), .val (.int p2)] [(.int p2), (.int p1)])) (fun _ kst => XS.iloadN X0.here hx rfl (hb hby own_d4_1) rfl kst) ?_
  by_cases hc25 : p2 < p1
  · refine oS (u' := s₁.setTop (mkF m 9 #[.val (.int p1), .val (.int p2)] [])) (fun _ kst => XS.icmpYes X0.here hx rfl (pc0 := 2) (pc' := 9) rfl (hb hby own_d4_2) rfl (tlt hc25).2.2.1 (by decide) (by decide) kst) ?_
    refine oS (u' := s₁.setTop (mkF m 10 #[.val (.int p1), .val (.int p2)] [(.int p2)])) (fun _ kst => XS.iloadN X0.here hx rfl (hb hby own_d4_9) rfl kst) ?_
    refine own_retI X0 hx hlk hret (hb hby own_d4_10) ?_ (by decide) (by decide)
    exact ⟨(by show (some (.int p2) : Option Value) = _; unfold own_min; rw [if_pos hc25]), e0, rfl⟩
  · refine oS (u' := s₁.setTop (mkF m 5 #[.val (.int p1), .val (.int p2)] [])) (fun _ kst => XS.icmpNo X0.here hx rfl (hb hby own_d4_2) rfl (flt hc25).2.2.1 kst) ?_
    refine oS (u' := s₁.setTop (mkF m 6 #[.val (.int p1), .val (.int p2)] [(.int p1)])) (fun _ kst => XS.iloadN X0.here hx rfl (hb hby own_d4_5) rfl kst) ?_
    refine oS (u' := s₁.setTop (mkF m 10 #[.val (.int p1), .val (.int p2)] [(.int p1)])) (fun _ kst => XS.goto X0.here hx rfl (pc0 := 6) (pc' := 10) rfl (hb hby own_d4_6) (by decide) (by decide) kst) ?_
    refine own_retI X0 hx hlk hret (hb hby own_d4_10) ?_ (by decide) (by decide)
    exact ⟨(by show (some (.int p1) : Option Value) = _; unfold own_min; rw [if_neg hc25]), e0, rfl⟩
theorem own_pick_exa {Z : State} {h : Heap} (p1 : Int32) {gN gG gU : Addr} {c : String} (EN : Exa Z h gN c) (EG : Exa Z h gG c) (EU : Exa Z h gU c) : Exa Z h (own_pick p1 gN gG gU) c := by
  unfold own_pick; split
  · exact EN
  · split
    · exact EU
    · exact EG
theorem own_pick_in (p1 : Int32) (gN gG gU : Addr) : own_pick p1 gN gG gU = gN ∨ own_pick p1 gN gG gU = gG ∨ own_pick p1 gN gG gU = gU := by
  unfold own_pick; split
  · exact Or.inl rfl
  · split
    · exact Or.inr (Or.inr rfl)
    · exact Or.inr (Or.inl rfl)
theorem own_true {gN gG gU x y : Addr} (h1 : gN ≠ gG) (h2 : gN ≠ gU) (h3 : gG ≠ gU) (hx : x = gN ∨ x = gG ∨ x = gU) (hy : y = gN ∨ y = gG ∨ y = gU) :
    own_rank (own_and x y gN gG gU) gN gG gU = own_min (own_rank x gN gG gU) (own_rank y gN gG gU) := by
  rcases hx with rfl | rfl | rfl <;> rcases hy with rfl | rfl | rfl <;> simp [own_and, own_rank, own_min, h1, h2, h3, h1.symm, h2.symm, h3.symm]
theorem own_ef0 (m : MethodId) (x0 : Int32) (x1 : Int32) : entryFrame m #[(.int x0), (.int x1)] maxLocals = mkF m 0 #[.val (.int x0), .val (.int x1), .unset, .unset, .unset] [] := by first | (simp [entryFrame, mkF, argsToLocals, Value.category, maxLocals]; done) | rfl
theorem own_pd0 : parseMethodDescriptor "(I)Lcom/example/verdict_across_domains/verdictacrossdomains/Grant;" = some ⟨[.int], some (.object "com/example/verdict_across_domains/verdictacrossdomains/Grant")⟩ := by decide +kernel
theorem own_pd1 : parseMethodDescriptor "(Lcom/example/verdict_across_domains/verdictacrossdomains/Grant;)Lcom/example/verdict_across_domains/verdictacrossdomains/Grant;" = some ⟨[(.object "com/example/verdict_across_domains/verdictacrossdomains/Grant")], some (.object "com/example/verdict_across_domains/verdictacrossdomains/Grant")⟩ := by decide +kernel
theorem own_pd2 : parseMethodDescriptor "(Lcom/example/verdict_across_domains/verdictacrossdomains/Grant;)I" = some ⟨[(.object "com/example/verdict_across_domains/verdictacrossdomains/Grant")], some .int⟩ := by decide +kernel
theorem own_pd3 : parseMethodDescriptor "(II)I" = some ⟨[.int, .int], some .int⟩ := by decide +kernel
set_option maxRecDepth 65536 in
set_option maxHeartbeats 40000000 in
theorem own_law (l : Launch) (Z : State) (a0 : Array Value) (hw : ∀ d ∈ tables_1, d.before a0 Z = true) (p1 : Int32) (p2 : Int32) (gN : Addr) (gG : Addr) (gU : Addr) (h0 : Heap) (n0 : Nat) (Z0 : n0 ≤ h0.size) (SN : Sta Z h0 "com/example/verdict_across_domains/verdictacrossdomains/Grant" "NOT_GRANTED" "Lcom/example/verdict_across_domains/verdictacrossdomains/Grant;" (.ref gN)) (SG : Sta Z h0 "com/example/verdict_across_domains/verdictacrossdomains/Grant" "GRANTED" "Lcom/example/verdict_across_domains/verdictacrossdomains/Grant;" (.ref gG)) (SU : Sta Z h0 "com/example/verdict_across_domains/verdictacrossdomains/Grant" "UNKNOWN" "Lcom/example/verdict_across_domains/verdictacrossdomains/Grant;" (.ref gU)) (EN : Exa Z h0 gN "com/example/verdict_across_domains/verdictacrossdomains/Grant") (EG : Exa Z h0 gG "com/example/verdict_across_domains/verdictacrossdomains/Grant") (EU : Exa Z h0 gU "com/example/verdict_across_domains/verdictacrossdomains/Grant") (n1 : gN ≠ gG) (n2 : gN ≠ gU) (n3 : gG ≠ gU) : own_Con l Z tables_1 x code maxLocals ret room_1 #[(.int p1), (.int p2)] h0 (fun v _ L => v = some (.int (1 : Int32)) ∧ Fr n0 L) := by
  refine own_body (plainFor_of_name own_pn_GrantAndPinLaw) ?_
  intro p e s m below meth c s₁ X0 hx hby hml hret hlk hown hnm hZ e0
  have N0 := Fr.nil n0
  refine oS (u' := s₁.setTop (mkF m 0 #[.val (.int p1), .val (.int p2), .unset, .unset, .unset] [])) (fun _ kst => castTop (own_ef0 m p1 p2) kst) ?_
  refine oS (u' := s₁.setTop (mkF m 1 #[.val (.int p1), .val (.int p2), .unset, .unset, .unset] [(.int p1)])) (fun _ kst => XS.iloadN X0.here hx rfl (hb hby at_0) rfl kst) ?_
  obtain ⟨T26, X26, e26, st26⟩ := own_callSP X0 hx hZ (y := (⟨"com/example/verdict_across_domains/verdictacrossdomains/GrantAndPinLaw", "pick", "(I)Lcom/example/verdict_across_domains/verdictacrossdomains/Grant;"⟩ : MethodName)) hown (hw _ (List.mem_of_getElem? (i := 0) rfl)) (hw _ (List.mem_of_getElem? (i := 1) rfl)) (hw _ (List.mem_of_getElem? (i := 3) rfl)) (hw _ (List.mem_of_getElem? (i := 2) rfl)) (by decide) e0 (W := 0) (own_rm_pick l Z a0 hw p1 gN gG gU h0 SN SG SU) (by decide) (by decide) (g := (mkF m 1 #[.val (.int p1), .val (.int p2), .unset, .unset, .unset] [(.int p1)])) rfl (by rw [hml]; rfl) (argsL := [(.int p1)]) (rest := []) (lenOf own_pd0 rfl) rfl (by show 2 * 0 + _ ≤ _; exact Nat.le_of_eq rfl) (hb hby at_1) (by decide) (by decide)
  refine oS (u' := T26.setTop (mkF m 4 #[.val (.int p1), .val (.int p2), .unset, .unset, .unset] [(.ref (own_pick p1 gN gG gU))])) st26 ?_
  refine oS (u' := T26.setTop (mkF m 5 #[.val (.int p1), .val (.int p2), .val (.ref (own_pick p1 gN gG gU)), .unset, .unset] [])) (fun _ kst => XS.astoreN X26.here hx rfl (hb hby at_4) rfl rfl (l' := #[.val (.int p1), .val (.int p2), .val (.ref (own_pick p1 gN gG gU)), .unset, .unset]) rfl kst) ?_
  refine oS (u' := T26.setTop (mkF m 6 #[.val (.int p1), .val (.int p2), .val (.ref (own_pick p1 gN gG gU)), .unset, .unset] [(.int p2)])) (fun _ kst => XS.iloadN X26.here hx rfl (hb hby at_5) rfl kst) ?_
  obtain ⟨T27, X27, e27, st27⟩ := own_callSP X26 hx hZ (y := (⟨"com/example/verdict_across_domains/verdictacrossdomains/GrantAndPinLaw", "pick", "(I)Lcom/example/verdict_across_domains/verdictacrossdomains/Grant;"⟩ : MethodName)) hown (hw _ (List.mem_of_getElem? (i := 0) rfl)) (hw _ (List.mem_of_getElem? (i := 1) rfl)) (hw _ (List.mem_of_getElem? (i := 3) rfl)) (hw _ (List.mem_of_getElem? (i := 2) rfl)) (by decide) e26 (W := 0) (own_rm_pick l Z a0 hw p2 gN gG gU h0 SN SG SU) (by decide) (by decide) (g := (mkF m 6 #[.val (.int p1), .val (.int p2), .val (.ref (own_pick p1 gN gG gU)), .unset, .unset] [(.int p2)])) rfl (by rw [hml]; rfl) (argsL := [(.int p2)]) (rest := []) (lenOf own_pd0 rfl) rfl (by show 2 * 0 + _ ≤ _; exact Nat.le_of_eq rfl) (hb hby at_6) (by decide) (by decide)
  refine oS (u' := T27.setTop (mkF m 9 #[.val (.int p1), .val (.int p2), .val (.ref (own_pick p1 gN gG gU)), .unset, .unset] [(.ref (own_pick p2 gN gG gU))])) st27 ?_
  refine oS (u' := T27.setTop (mkF m 10 #[.val (.int p1), .val (.int p2), .val (.ref (own_pick p1 gN gG gU)), .val (.ref (own_pick p2 gN gG gU)), .unset] [])) (fun _ kst => XS.astoreN X27.here hx rfl (hb hby at_9) rfl rfl (l' := #[.val (.int p1), .val (.int p2), .val (.ref (own_pick p1 gN gG gU)), .val (.ref (own_pick p2 gN gG gU)), .unset]) rfl kst) ?_
  refine oS (u' := T27.setTop (mkF m 11 #[.val (.int p1), .val (.int p2), .val (.ref (own_pick p1 gN gG gU)), .val (.ref (own_pick p2 gN gG gU)), .unset] [(.ref (own_pick p1 gN gG gU))])) (fun _ kst => XS.aloadN X27.here hx rfl (hb hby at_10) rfl rfl kst) ?_
  refine oS (u' := T27.setTop (mkF m 12 #[.val (.int p1), .val (.int p2), .val (.ref (own_pick p1 gN gG gU)), .val (.ref (own_pick p2 gN gG gU)), .unset] [(.ref (own_pick p2 gN gG gU)), (.ref (own_pick p1 gN gG gU))])) (fun _ kst => XS.aloadN X27.here hx rfl (hb hby at_11) rfl rfl kst) ?_
  obtain ⟨T28, X28, e28, st28⟩ := own_callVP X27 hx hZ (y := (⟨"com/example/verdict_across_domains/verdictacrossdomains/Grant", "and", "(Lcom/example/verdict_across_domains/verdictacrossdomains/Grant;)Lcom/example/verdict_across_domains/verdictacrossdomains/Grant;"⟩ : MethodName)) (z := (⟨"com/example/verdict_across_domains/verdictacrossdomains/Grant", "and", "(Lcom/example/verdict_across_domains/verdictacrossdomains/Grant;)Lcom/example/verdict_across_domains/verdictacrossdomains/Grant;"⟩ : MethodName)) hown (hw _ (List.mem_of_getElem? (i := 8) rfl)) (hw _ (List.mem_of_getElem? (i := 9) rfl)) (notFace_of_selects (args := #[]) (mvT hZ (hw _ (List.mem_of_getElem? (i := 11) rfl)))) (hw _ (List.mem_of_getElem? (i := 11) rfl)) (hw _ (List.mem_of_getElem? (i := 10) rfl)) (by decide) e27 (own_pick_exa p1 EN EG EU) (W := 0) (own_rm_and l Z a0 hw (own_pick p1 gN gG gU) (own_pick p2 gN gG gU) gN gG gU h0 SN SG SU) (hw _ (List.mem_of_getElem? (i := 12) rfl)) (hw _ (List.mem_of_getElem? (i := 6) rfl)) (by decide) (by decide) (g := (mkF m 12 #[.val (.int p1), .val (.int p2), .val (.ref (own_pick p1 gN gG gU)), .val (.ref (own_pick p2 gN gG gU)), .unset] [(.ref (own_pick p2 gN gG gU)), (.ref (own_pick p1 gN gG gU))])) rfl (by rw [hml]; rfl) (b := (own_pick p1 gN gG gU)) (argsL := [(.ref (own_pick p2 gN gG gU))]) (rest := []) (lenOf own_pd1 rfl) rfl (by show 2 * 0 + _ ≤ _; exact Nat.le_of_eq rfl) (hb hby at_12) (by decide) (by decide)
  refine oS (u' := T28.setTop (mkF m 15 #[.val (.int p1), .val (.int p2), .val (.ref (own_pick p1 gN gG gU)), .val (.ref (own_pick p2 gN gG gU)), .unset] [(.ref (own_and (own_pick p1 gN gG gU) (own_pick p2 gN gG gU) gN gG gU))])) st28 ?_
  refine oS (u' := T28.setTop (mkF m 17 #[.val (.int p1), .val (.int p2), .val (.ref (own_pick p1 gN gG gU)), .val (.ref (own_pick p2 gN gG gU)), .val (.ref (own_and (own_pick p1 gN gG gU) (own_pick p2 gN gG gU) gN gG gU))] [])) (fun _ kst => XS.astore X28.here hx rfl (hb hby at_15) rfl rfl (l' := #[.val (.int p1), .val (.int p2), .val (.ref (own_pick p1 gN gG gU)), .val (.ref (own_pick p2 gN gG gU)), .val (.ref (own_and (own_pick p1 gN gG gU) (own_pick p2 gN gG gU) gN gG gU))]) rfl kst) ?_
  refine oS (u' := T28.setTop (mkF m 19 #[.val (.int p1), .val (.int p2), .val (.ref (own_pick p1 gN gG gU)), .val (.ref (own_pick p2 gN gG gU)), .val (.ref (own_and (own_pick p1 gN gG gU) (own_pick p2 gN gG gU) gN gG gU))] [(.ref (own_and (own_pick p1 gN gG gU) (own_pick p2 gN gG gU) gN gG gU))])) (fun _ kst => XS.aload X28.here hx rfl (hb hby at_17) rfl rfl kst) ?_
  obtain ⟨T29, X29, e29, st29⟩ := own_callSP X28 hx hZ (y := (⟨"com/example/verdict_across_domains/verdictacrossdomains/GrantAndPinLaw", "rank", "(Lcom/example/verdict_across_domains/verdictacrossdomains/Grant;)I"⟩ : MethodName)) hown (hw _ (List.mem_of_getElem? (i := 14) rfl)) (hw _ (List.mem_of_getElem? (i := 15) rfl)) (hw _ (List.mem_of_getElem? (i := 16) rfl)) (hw _ (List.mem_of_getElem? (i := 2) rfl)) (by decide) e28 (W := 0) (own_rm_rank l Z a0 hw (own_and (own_pick p1 gN gG gU) (own_pick p2 gN gG gU) gN gG gU) gN gG gU h0 SN SG SU) (by decide) (by decide) (g := (mkF m 19 #[.val (.int p1), .val (.int p2), .val (.ref (own_pick p1 gN gG gU)), .val (.ref (own_pick p2 gN gG gU)), .val (.ref (own_and (own_pick p1 gN gG gU) (own_pick p2 gN gG gU) gN gG gU))] [(.ref (own_and (own_pick p1 gN gG gU) (own_pick p2 gN gG gU) gN gG gU))])) rfl (by rw [hml]; rfl) (argsL := [(.ref (own_and (own_pick p1 gN gG gU) (own_pick p2 gN gG gU) gN gG gU))]) (rest := []) (lenOf own_pd2 rfl) rfl (by show 2 * 0 + _ ≤ _; exact Nat.le_of_eq rfl) (hb hby at_19) (by decide) (by decide)
  refine oS (u' := T29.setTop (mkF m 22 #[.val (.int p1), .val (.int p2), .val (.ref (own_pick p1 gN gG gU)), .val (.ref (own_pick p2 gN gG gU)), .val (.ref (own_and (own_pick p1 gN gG gU) (own_pick p2 gN gG gU) gN gG gU))] [(.int (own_rank (own_and (own_pick p1 gN gG gU) (own_pick p2 gN gG gU) gN gG gU) gN gG gU))])) st29 ?_
  refine oS (u' := T29.setTop (mkF m 23 #[.val (.int p1), .val (.int p2), .val (.ref (own_pick p1 gN gG gU)), .val (.ref (own_pick p2 gN gG gU)), .val (.ref (own_and (own_pick p1 gN gG gU) (own_pick p2 gN gG gU) gN gG gU))] [(.ref (own_pick p1 gN gG gU)), (.int (own_rank (own_and (own_pick p1 gN gG gU) (own_pick p2 gN gG gU) gN gG gU) gN gG gU))])) (fun _ kst => XS.aloadN X29.here hx rfl (hb hby at_22) rfl rfl kst) ?_
  obtain ⟨T30, X30, e30, st30⟩ := own_callSP X29 hx hZ (y := (⟨"com/example/verdict_across_domains/verdictacrossdomains/GrantAndPinLaw", "rank", "(Lcom/example/verdict_across_domains/verdictacrossdomains/Grant;)I"⟩ : MethodName)) hown (hw _ (List.mem_of_getElem? (i := 14) rfl)) (hw _ (List.mem_of_getElem? (i := 15) rfl)) (hw _ (List.mem_of_getElem? (i := 16) rfl)) (hw _ (List.mem_of_getElem? (i := 2) rfl)) (by decide) e29 (W := 1) (own_rm_rank l Z a0 hw (own_pick p1 gN gG gU) gN gG gU h0 SN SG SU) (by decide) (by decide) (g := (mkF m 23 #[.val (.int p1), .val (.int p2), .val (.ref (own_pick p1 gN gG gU)), .val (.ref (own_pick p2 gN gG gU)), .val (.ref (own_and (own_pick p1 gN gG gU) (own_pick p2 gN gG gU) gN gG gU))] [(.ref (own_pick p1 gN gG gU)), (.int (own_rank (own_and (own_pick p1 gN gG gU) (own_pick p2 gN gG gU) gN gG gU) gN gG gU))])) rfl (by rw [hml]; rfl) (argsL := [(.ref (own_pick p1 gN gG gU))]) (rest := [(.int (own_rank (own_and (own_pick p1 gN gG gU) (own_pick p2 gN gG gU) gN gG gU) gN gG gU))]) (lenOf own_pd2 rfl) rfl (by show 2 * 0 + _ ≤ _; exact Nat.le_of_eq rfl) (hb hby at_23) (by decide) (by decide)
  refine oS (u' := T30.setTop (mkF m 26 #[.val (.int p1), .val (.int p2), .val (.ref (own_pick p1 gN gG gU)), .val (.ref (own_pick p2 gN gG gU)), .val (.ref (own_and (own_pick p1 gN gG gU) (own_pick p2 gN gG gU) gN gG gU))] [(.int (own_rank (own_pick p1 gN gG gU) gN gG gU)), (.int (own_rank (own_and (own_pick p1 gN gG gU) (own_pick p2 gN gG gU) gN gG gU) gN gG gU))])) st30 ?_
  refine oS (u' := T30.setTop (mkF m 27 #[.val (.int p1), .val (.int p2), .val (.ref (own_pick p1 gN gG gU)), .val (.ref (own_pick p2 gN gG gU)), .val (.ref (own_and (own_pick p1 gN gG gU) (own_pick p2 gN gG gU) gN gG gU))] [(.ref (own_pick p2 gN gG gU)), (.int (own_rank (own_pick p1 gN gG gU) gN gG gU)), (.int (own_rank (own_and (own_pick p1 gN gG gU) (own_pick p2 gN gG gU) gN gG gU) gN gG gU))])) (fun _ kst => XS.aloadN X30.here hx rfl (hb hby at_26) rfl rfl kst) ?_
  obtain ⟨T31, X31, e31, st31⟩ := own_callSP X30 hx hZ (y := (⟨"com/example/verdict_across_domains/verdictacrossdomains/GrantAndPinLaw", "rank", "(Lcom/example/verdict_across_domains/verdictacrossdomains/Grant;)I"⟩ : MethodName)) hown (hw _ (List.mem_of_getElem? (i := 14) rfl)) (hw _ (List.mem_of_getElem? (i := 15) rfl)) (hw _ (List.mem_of_getElem? (i := 16) rfl)) (hw _ (List.mem_of_getElem? (i := 2) rfl)) (by decide) e30 (W := 2) (own_rm_rank l Z a0 hw (own_pick p2 gN gG gU) gN gG gU h0 SN SG SU) (by decide) (by decide) (g := (mkF m 27 #[.val (.int p1), .val (.int p2), .val (.ref (own_pick p1 gN gG gU)), .val (.ref (own_pick p2 gN gG gU)), .val (.ref (own_and (own_pick p1 gN gG gU) (own_pick p2 gN gG gU) gN gG gU))] [(.ref (own_pick p2 gN gG gU)), (.int (own_rank (own_pick p1 gN gG gU) gN gG gU)), (.int (own_rank (own_and (own_pick p1 gN gG gU) (own_pick p2 gN gG gU) gN gG gU) gN gG gU))])) rfl (by rw [hml]; rfl) (argsL := [(.ref (own_pick p2 gN gG gU))]) (rest := [(.int (own_rank (own_pick p1 gN gG gU) gN gG gU)), (.int (own_rank (own_and (own_pick p1 gN gG gU) (own_pick p2 gN gG gU) gN gG gU) gN gG gU))]) (lenOf own_pd2 rfl) rfl (by show 2 * 0 + _ ≤ _; exact Nat.le_of_eq rfl) (hb hby at_27) (by decide) (by decide)
  refine oS (u' := T31.setTop (mkF m 30 #[.val (.int p1), .val (.int p2), .val (.ref (own_pick p1 gN gG gU)), .val (.ref (own_pick p2 gN gG gU)), .val (.ref (own_and (own_pick p1 gN gG gU) (own_pick p2 gN gG gU) gN gG gU))] [(.int (own_rank (own_pick p2 gN gG gU) gN gG gU)), (.int (own_rank (own_pick p1 gN gG gU) gN gG gU)), (.int (own_rank (own_and (own_pick p1 gN gG gU) (own_pick p2 gN gG gU) gN gG gU) gN gG gU))])) st31 ?_
  obtain ⟨T32, X32, e32, st32⟩ := own_callSP X31 hx hZ (y := (⟨"java/lang/Math", "min", "(II)I"⟩ : MethodName)) hown (hw _ (List.mem_of_getElem? (i := 17) rfl)) (hw _ (List.mem_of_getElem? (i := 18) rfl)) (hw _ (List.mem_of_getElem? (i := 20) rfl)) (hw _ (List.mem_of_getElem? (i := 19) rfl)) (by decide) e31 (W := 1) (own_rm_min l Z a0 hw (own_rank (own_pick p1 gN gG gU) gN gG gU) (own_rank (own_pick p2 gN gG gU) gN gG gU) h0 ) (by decide) (by decide) (g := (mkF m 30 #[.val (.int p1), .val (.int p2), .val (.ref (own_pick p1 gN gG gU)), .val (.ref (own_pick p2 gN gG gU)), .val (.ref (own_and (own_pick p1 gN gG gU) (own_pick p2 gN gG gU) gN gG gU))] [(.int (own_rank (own_pick p2 gN gG gU) gN gG gU)), (.int (own_rank (own_pick p1 gN gG gU) gN gG gU)), (.int (own_rank (own_and (own_pick p1 gN gG gU) (own_pick p2 gN gG gU) gN gG gU) gN gG gU))])) rfl (by rw [hml]; rfl) (argsL := [(.int (own_rank (own_pick p1 gN gG gU) gN gG gU)), (.int (own_rank (own_pick p2 gN gG gU) gN gG gU))]) (rest := [(.int (own_rank (own_and (own_pick p1 gN gG gU) (own_pick p2 gN gG gU) gN gG gU) gN gG gU))]) (lenOf own_pd3 rfl) rfl (by show 2 * 0 + _ ≤ _; exact Nat.le_of_eq rfl) (hb hby at_30) (by decide) (by decide)
  refine oS (u' := T32.setTop (mkF m 33 #[.val (.int p1), .val (.int p2), .val (.ref (own_pick p1 gN gG gU)), .val (.ref (own_pick p2 gN gG gU)), .val (.ref (own_and (own_pick p1 gN gG gU) (own_pick p2 gN gG gU) gN gG gU))] [(.int (own_min (own_rank (own_pick p1 gN gG gU) gN gG gU) (own_rank (own_pick p2 gN gG gU) gN gG gU))), (.int (own_rank (own_and (own_pick p1 gN gG gU) (own_pick p2 gN gG gU) gN gG gU) gN gG gU))])) st32 ?_
  refine oS (u' := T32.setTop (mkF m 36 #[.val (.int p1), .val (.int p2), .val (.ref (own_pick p1 gN gG gU)), .val (.ref (own_pick p2 gN gG gU)), .val (.ref (own_and (own_pick p1 gN gG gU) (own_pick p2 gN gG gU) gN gG gU))] [])) (fun _ kst => XS.icmpNo X32.here hx rfl (hb hby at_33) rfl (teq (own_true n1 n2 n3 (own_pick_in p1 gN gG gU) (own_pick_in p2 gN gG gU))).2 kst) ?_
  refine oS (u' := T32.setTop (mkF m 37 #[.val (.int p1), .val (.int p2), .val (.ref (own_pick p1 gN gG gU)), .val (.ref (own_pick p2 gN gG gU)), .val (.ref (own_and (own_pick p1 gN gG gU) (own_pick p2 gN gG gU) gN gG gU))] [(.int (1 : Int32))])) (fun _ kst => XS.iconst X32.here hx rfl (hb hby at_36) kst) ?_
  refine oS (u' := T32.setTop (mkF m 41 #[.val (.int p1), .val (.int p2), .val (.ref (own_pick p1 gN gG gU)), .val (.ref (own_pick p2 gN gG gU)), .val (.ref (own_and (own_pick p1 gN gG gU) (own_pick p2 gN gG gU) gN gG gU))] [(.int (1 : Int32))])) (fun _ kst => XS.goto X32.here hx rfl (pc0 := 37) (pc' := 41) rfl (hb hby at_37) (by decide) (by decide) kst) ?_
  refine own_retN X32 hx hlk (t := .boolean) hret (by simp) (hb hby at_41) ?_ (by decide) (by decide)
  exact ⟨rfl, N0⟩
set_option maxRecDepth 65536 in
set_option maxHeartbeats 40000000 in
theorem comes_1 {Post : Tables → Env → Array Value → State → Outcome → State → Prop} (hpost : ∀ tb e args s v u, (limb_1_1.after args s (.returned v) u = true ∧ limb_1_2.after args s (.returned v) u = true ∧ True) → FrameEnd s (.returned v) u (Jvm.fieldLocs frame_1_writes args s ++ Jvm.arrayLocs frame_1_arrays args s ++ Jvm.staticLocs frame_1_statics s) 0 0 → Post tb e args s (.returned v) u) :
    ArmFor flags0 classFile x code maxLocals ret World_1 tables_1 room_1 Calls_1 rest_1 Pre_1 Post := by
  intro l hfl _ _ p e ha hc hk s m args below hf hA hF happ hP
  obtain ⟨hcalls, hrest, hpre⟩ := hP
  obtain ⟨-, -, -, hnamed, -, -, -, hat⟩ := (Spec.applies_iff hf).mp happ
  obtain ⟨hg, hn⟩ := and_e (Cond.before_iff.mp (show (Jvm.Cond.and given_1 narrow_1).before args s = true from hpre))
  obtain ⟨g0, gg0⟩ := and_e hg
  obtain ⟨g1, gg1⟩ := and_e gg0
  obtain ⟨w0, w1, rfl⟩ : ∃ w0 w1 : Value, args = #[w0, w1] := by
    have hs : args.size = 2 := by simpa [Cond.value, given_1] using g0
    obtain ⟨L⟩ := args
    match L, hs with
    | [w0, w1], _ => exact ⟨w0, w1, rfl⟩
  have hw := fun d (hd : d ∈ tables_1) => atoms_spec (ws := Jvm.Cond.code x code maxLocals ret :: tables_1) hat d (List.mem_cons_of_mem _ hd)
  have hfit : Fit s := fun {y c} hc i hi => by
    obtain ⟨ha, rfl⟩ := Array.getElem?_eq_some_iff.mp hc
    have q := List.all_eq_true.mp ((Array.all_eq_true_iff_forall_mem.mp hF) _ (Array.getElem_mem ha)) i (List.mem_range.mpr hi)
    simpa [Array.getElem?_eq_getElem hi] using q
  obtain ⟨i0, ei0⟩ := is_v g1
  obtain rfl : w0 = (.int i0) := Option.some.inj ei0
  obtain ⟨i1, ei1⟩ := is_v gg1
  obtain rfl : w1 = (.int i1) := Option.some.inj ei1
  obtain ⟨a1, b1⟩ := and_e hn
  obtain ⟨a2, b2⟩ := and_e b1
  obtain ⟨a3, b3⟩ := and_e b2
  obtain ⟨a4, b4⟩ := and_e b3
  obtain ⟨a5, a6⟩ := and_e b4
  obtain ⟨gN, vN⟩ := exa_v a1
  obtain ⟨gG, vG⟩ := exa_v a2
  obtain ⟨gU, vU⟩ := exa_v a3
  have EN := Exa.start vN a1
  have EG := Exa.start vG a2
  have EU := Exa.start vU a3
  have SN := Sta.start vN (Or.inr ⟨(hw _ (List.mem_of_getElem? (i := 6) rfl)), (hw _ (List.mem_of_getElem? (i := 7) rfl))⟩)
  have SG := Sta.start vG (Or.inr ⟨(hw _ (List.mem_of_getElem? (i := 6) rfl)), (hw _ (List.mem_of_getElem? (i := 22) rfl))⟩)
  have SU := Sta.start vU (Or.inr ⟨(hw _ (List.mem_of_getElem? (i := 6) rfl)), (hw _ (List.mem_of_getElem? (i := 24) rfl))⟩)
  have FG := Fld.start ((fld_at vG).symm.trans (own_eq_int a4))
  have FN := Fld.start ((fld_at vN).symm.trans (own_eq_int a5))
  have FU := Fld.start ((fld_at vU).symm.trans (own_eq_int a6))
  have n1 := Fld.ne FN FG (by decide)
  have n2 := Fld.ne FN FU (by decide)
  have n3 := Fld.ne FG FU (by decide)
  obtain ⟨n, o, h1, h2, h3, _, L, rfl, ⟨rfl, N⟩, hq⟩ := own_law l s _ hw i0 i1 gN gG gU s.heap s.heap.size (Nat.le_refl _) SN SG SU EN EG EU n1 n2 n3 p e ha hc hk s m _ below hf ((Spec.applies_iff_loose hf).mp happ).1 ⟨rfl, State.Warmed39.refl s, rfl⟩ trivial
  refine ⟨n, _, h1, h2, h3, hpost _ _ _ _ _ _ ⟨Cond.after_iff.mpr rfl, Cond.after_iff.mpr (eq_i res_at (Term.int_eval (1)) rfl), trivial⟩ ⟨hq.1, hq.2.1, (hq.2.2.sift fun y hy => Or.inr (N y hy)).mono (by decide) (by decide)⟩⟩
theorem main_1_1 : Claimed_1_1 := comes_1 fun _ _ _ _ _ _ h hF => ⟨h.1, hF⟩
theorem main_1_2 : Claimed_1_2 := comes_1 fun _ _ _ _ _ _ h hF => ⟨h.2.1, hF⟩
end Jvm.Pilot.@@N@@
namespace Jvm.Pilot.@@N@@
open Jvm Jvm.ClassFile Sem Op Lib Jvm.Free Jvm.Stand Jvm.Pilot.@@N@@.Jvm.D
/-! MADE BY PROGRAM (witnessworld.py) out of the Statement's table words and the real class files: 13 classes; the members and pool entries that the words name. The judged class is class 1, her method 3. -/
namespace start1
open Jvm.ClassFile
def u (s : String) : CpInfo := .utf8 (stringToUtf16 s)
/-- a pool by its gaps: so many unusable entries, then the entry; so many at the end -/
def gap : Nat → List CpInfo → List CpInfo
  | 0, r => r
  | n + 1, r => .unusable :: gap n r
def poolList (es : List (Nat × CpInfo)) (last : Nat) : List CpInfo := es.foldr (fun e r => gap e.1 (e.2 :: r)) (gap last [])
def pool (es : List (Nat × CpInfo)) (last : Nat) : Array CpInfo := ⟨poolList es last⟩
def fileOf (pool : Array CpInfo) (this : Nat) (attrs : Array Attribute := #[]) (ms : Array MethodInfo := #[]) (fl : Nat := 33) (sup : Nat := 0) (ifs : Array Nat := #[]) (fds : Array FieldInfo := #[]) : ClassFile where
  minorVersion := 0
  majorVersion := 65
  constantPool := pool
  accessFlags := fl
  thisClass := this
  superClass := sup
  interfaces := ifs
  fields := fds
  methods := ms
  attributes := attrs
def plain (name : String) (sup : Option ClassId) : Class where
  name := name
  kind := .ordinary
  loader := none
  accessFlags := 33
  super := sup
  interfaces := #[]
  cf := none
  fields := #[]
  methods := #[]
  instanceTypes := #[]
  staticTypes := #[]
  resolved := #[]
  callSites := []
  init := .initialized
  statics := none
  mirror := none

def pool0 : Array CpInfo := pool [(5, u "<init>"), (0, u "()V"), (1, .class_ 10), (1, u "java/lang/Object")] 113

def k0m0 : Method := { name := "<init>", desc := "()V", sig := { parameters := [], returnType := none }, accessFlags := 1, code := none }
/-- java/lang/Object -/
def k0 : Class := { plain "java/lang/Object" none with
  accessFlags := 33
  interfaces := #[]
  cf := some (fileOf pool0 8 #[] #[{ accessFlags := 1, nameIndex := 5, descriptorIndex := 6, attributes := #[] }] 33 0 #[] #[])
  fields := #[]
  methods := #[k0m0]
  instanceTypes := #[]
  staticTypes := #[]
  resolved := Array.replicate 124 none
  statics := none }

def pool1 : Array CpInfo := pool [(2, .class_ 4), (1, u "java/lang/Object"), (0, u "<init>"), (0, u "()V"), (0, .integer 2147483647), (0, .fieldref 9 10), (0, .class_ 11), (0, .nameAndType 12 13), (0, u "com/example/verdict_across_domains/verdictacrossdomains/Grant"), (0, u "NOT_GRANTED"), (0, u "Lcom/example/verdict_across_domains/verdictacrossdomains/Grant;"), (0, .fieldref 9 15), (0, .nameAndType 16 13), (0, u "UNKNOWN"), (0, .fieldref 9 18), (0, .nameAndType 19 13), (0, u "GRANTED"), (0, .methodref 21 22), (0, .class_ 23), (0, .nameAndType 24 25), (0, u "com/example/verdict_across_domains/verdictacrossdomains/GrantAndPinLaw"), (0, u "pick"), (0, u "(I)Lcom/example/verdict_across_domains/verdictacrossdomains/Grant;"), (0, .methodref 9 27), (0, .nameAndType 28 29), (0, u "and"), (0, u "(Lcom/example/verdict_across_domains/verdictacrossdomains/Grant;)Lcom/example/verdict_across_domains/verdictacrossdomains/Grant;"), (0, .methodref 21 31), (0, .nameAndType 32 33), (0, u "rank"), (0, u "(Lcom/example/verdict_across_domains/verdictacrossdomains/Grant;)I"), (0, .methodref 35 36), (0, .class_ 37), (0, .nameAndType 38 39), (0, u "java/lang/Math"), (0, u "min"), (0, u "(II)I"), (3, u "law"), (0, u "(II)Z")] 2

def k1m0 : Method := { name := "<init>", desc := "()V", sig := { parameters := [], returnType := none }, accessFlags := 1, code := none }
def k1c1 : Code := { maxStack := 2, maxLocals := 2, code := method_2_code, exceptionTable := #[], attributes := #[] }
def k1m1 : Method := { name := "pick", desc := "(I)Lcom/example/verdict_across_domains/verdictacrossdomains/Grant;", sig := { parameters := [.int], returnType := some (.object "com/example/verdict_across_domains/verdictacrossdomains/Grant") }, accessFlags := 10, code := some k1c1 }
def k1c2 : Code := { maxStack := 2, maxLocals := 1, code := method_3_code, exceptionTable := #[], attributes := #[] }
def k1m2 : Method := { name := "rank", desc := "(Lcom/example/verdict_across_domains/verdictacrossdomains/Grant;)I", sig := { parameters := [(.object "com/example/verdict_across_domains/verdictacrossdomains/Grant")], returnType := some .int }, accessFlags := 10, code := some k1c2 }
def k1c3 : Code := { maxStack := 3, maxLocals := 5, code := code, exceptionTable := #[], attributes := #[] }
def k1m3 : Method := { name := "law", desc := "(II)Z", sig := { parameters := [.int, .int], returnType := some .boolean }, accessFlags := 9, code := some k1c3 }
/-- com/example/verdict_across_domains/verdictacrossdomains/GrantAndPinLaw -/
def k1 : Class := { plain "com/example/verdict_across_domains/verdictacrossdomains/GrantAndPinLaw" (some 0) with
  accessFlags := 49
  interfaces := #[]
  cf := some (fileOf pool1 21 #[] #[{ accessFlags := 1, nameIndex := 5, descriptorIndex := 6, attributes := #[] }, { accessFlags := 10, nameIndex := 24, descriptorIndex := 25, attributes := #[] }, { accessFlags := 10, nameIndex := 32, descriptorIndex := 33, attributes := #[] }, { accessFlags := 9, nameIndex := 43, descriptorIndex := 44, attributes := #[] }] 49 2 #[] #[])
  fields := #[]
  methods := #[k1m0, k1m1, k1m2, k1m3]
  instanceTypes := #[]
  staticTypes := #[]
  resolved := Array.replicate 47 none
  statics := none }

def pool2 : Array CpInfo := pool [(1, .class_ 2), (0, u "java/lang/constant/Constable"), (0, .class_ 4), (0, u "java/lang/Object")] 6

/-- java/lang/constant/Constable -/
def k2 : Class := { plain "java/lang/constant/Constable" (some 0) with
  accessFlags := 1537
  interfaces := #[]
  cf := some (fileOf pool2 1 #[] #[] 1537 3 #[] #[])
  fields := #[]
  methods := #[]
  instanceTypes := #[]
  staticTypes := #[]
  resolved := Array.replicate 11 none
  statics := none }

def pool3 : Array CpInfo := pool [(1, .class_ 2), (0, u "java/lang/Comparable"), (0, .class_ 4), (0, u "java/lang/Object")] 7

/-- java/lang/Comparable -/
def k3 : Class := { plain "java/lang/Comparable" (some 0) with
  accessFlags := 1537
  interfaces := #[]
  cf := some (fileOf pool3 1 #[] #[] 1537 3 #[] #[])
  fields := #[]
  methods := #[]
  instanceTypes := #[]
  staticTypes := #[]
  resolved := Array.replicate 12 none
  statics := none }

def pool4 : Array CpInfo := pool [(1, .class_ 2), (0, u "java/io/Serializable"), (0, .class_ 4), (0, u "java/lang/Object")] 2

/-- java/io/Serializable -/
def k4 : Class := { plain "java/io/Serializable" (some 0) with
  accessFlags := 1537
  interfaces := #[]
  cf := some (fileOf pool4 1 #[] #[] 1537 3 #[] #[])
  fields := #[]
  methods := #[]
  instanceTypes := #[]
  staticTypes := #[]
  resolved := Array.replicate 7 none
  statics := none }

def pool5 : Array CpInfo := pool [(2, .class_ 4), (1, u "java/lang/Enum"), (0, u "name"), (0, u "Ljava/lang/String;"), (2, u "ordinal"), (0, u "I"), (1, .class_ 14), (1, u "java/lang/Object"), (4, u "hash"), (86, .class_ 108), (1, u "java/lang/Enum$EnumDesc"), (2, .class_ 112), (0, u "java/lang/constant/Constable"), (0, .class_ 114), (0, u "java/lang/Comparable"), (0, .class_ 116), (0, u "java/io/Serializable")] 87

/-- java/lang/Enum -/
def k5 : Class := { plain "java/lang/Enum" (some 0) with
  accessFlags := 1057
  interfaces := #[2, 3, 4]
  cf := some (fileOf pool5 2 #[.nestMembers #[106]] #[] 1057 12 #[111, 113, 115] #[{ accessFlags := 18, nameIndex := 5, descriptorIndex := 6, attributes := #[] }, { accessFlags := 18, nameIndex := 9, descriptorIndex := 10, attributes := #[] }, { accessFlags := 2, nameIndex := 19, descriptorIndex := 10, attributes := #[] }])
  fields := #[{ name := "name", type := (.object "java/lang/String"), accessFlags := 18, slot := 0, constantValue := 0 }, { name := "ordinal", type := .int, accessFlags := 18, slot := 1, constantValue := 0 }, { name := "hash", type := .int, accessFlags := 2, slot := 2, constantValue := 0 }]
  methods := #[]
  instanceTypes := #[(.object "java/lang/String"), .int, .int]
  staticTypes := #[]
  resolved := Array.replicate 204 none
  statics := none }

def pool6 : Array CpInfo := pool [(1, .class_ 2), (0, u "com/example/verdict_across_domains/verdictacrossdomains/Grant"), (0, .fieldref 1 4), (0, .nameAndType 5 6), (0, u "GRANTED"), (0, u "Lcom/example/verdict_across_domains/verdictacrossdomains/Grant;"), (0, .fieldref 1 8), (0, .nameAndType 9 6), (0, u "NOT_GRANTED"), (0, .fieldref 1 11), (0, .nameAndType 12 6), (0, u "UNKNOWN"), (2, u "$VALUES"), (0, u "[Lcom/example/verdict_across_domains/verdictacrossdomains/Grant;"), (6, .class_ 25), (1, u "java/lang/Enum"), (7, .class_ 35), (1, u "com/example/verdict_across_domains/verdictacrossdomains/Grant$1"), (29, u "and"), (0, u "(Lcom/example/verdict_across_domains/verdictacrossdomains/Grant;)Lcom/example/verdict_across_domains/verdictacrossdomains/Grant;")] 8

def k6c0 : Code := { maxStack := 2, maxLocals := 2, code := prog_66_method_6_code, exceptionTable := #[], attributes := #[] }
def k6m0 : Method := { name := "and", desc := "(Lcom/example/verdict_across_domains/verdictacrossdomains/Grant;)Lcom/example/verdict_across_domains/verdictacrossdomains/Grant;", sig := { parameters := [(.object "com/example/verdict_across_domains/verdictacrossdomains/Grant")], returnType := some (.object "com/example/verdict_across_domains/verdictacrossdomains/Grant") }, accessFlags := 0, code := some k6c0 }
/-- com/example/verdict_across_domains/verdictacrossdomains/Grant -/
def k6 : Class := { plain "com/example/verdict_across_domains/verdictacrossdomains/Grant" (some 5) with
  accessFlags := 16432
  interfaces := #[]
  cf := some (fileOf pool6 1 #[.nestMembers #[33]] #[{ accessFlags := 0, nameIndex := 65, descriptorIndex := 66, attributes := #[] }] 16432 23 #[] #[{ accessFlags := 16409, nameIndex := 5, descriptorIndex := 6, attributes := #[] }, { accessFlags := 16409, nameIndex := 9, descriptorIndex := 6, attributes := #[] }, { accessFlags := 16409, nameIndex := 12, descriptorIndex := 6, attributes := #[] }, { accessFlags := 4122, nameIndex := 15, descriptorIndex := 16, attributes := #[] }])
  fields := #[{ name := "GRANTED", type := (.object "com/example/verdict_across_domains/verdictacrossdomains/Grant"), accessFlags := 16409, slot := 0, constantValue := 0 }, { name := "NOT_GRANTED", type := (.object "com/example/verdict_across_domains/verdictacrossdomains/Grant"), accessFlags := 16409, slot := 1, constantValue := 0 }, { name := "UNKNOWN", type := (.object "com/example/verdict_across_domains/verdictacrossdomains/Grant"), accessFlags := 16409, slot := 2, constantValue := 0 }, { name := "$VALUES", type := (.array (.object "com/example/verdict_across_domains/verdictacrossdomains/Grant")), accessFlags := 4122, slot := 3, constantValue := 0 }]
  methods := #[k6m0]
  instanceTypes := #[(.object "java/lang/String"), .int, .int]
  staticTypes := #[(.object "com/example/verdict_across_domains/verdictacrossdomains/Grant"), (.object "com/example/verdict_across_domains/verdictacrossdomains/Grant"), (.object "com/example/verdict_across_domains/verdictacrossdomains/Grant"), (.array (.object "com/example/verdict_across_domains/verdictacrossdomains/Grant"))]
  resolved := Array.replicate 75 none
  statics := some 0 }

def pool7 : Array CpInfo := pool [(1, .class_ 2), (0, u "java/lang/Math"), (1, .class_ 6), (1, u "java/lang/Object"), (0, u "<init>"), (0, u "()V"), (89, .class_ 100), (1, u "java/lang/Math$RandomNumberGeneratorHolder"), (71, u "negativeZeroFloatBits"), (0, u "J"), (2, u "negativeZeroDoubleBits"), (24, u "min"), (43, u "$assertionsDisabled"), (0, u "Z"), (88, u "(II)I"), (2, u "twoToTheDoubleScaleDown"), (0, u "D"), (4, u "twoToTheDoubleScaleUp"), (9, u "E"), (3, u "PI"), (2, u "TAU"), (2, u "DEGREES_TO_RADIANS"), (0, u "RADIANS_TO_DEGREES")] 94

def k7m0 : Method := { name := "<init>", desc := "()V", sig := { parameters := [], returnType := none }, accessFlags := 2, code := none }
def k7c1 : Code := { maxStack := 2, maxLocals := 2, code := jdk_29_method_69_code, exceptionTable := #[], attributes := #[] }
def k7m1 : Method := { name := "min", desc := "(II)I", sig := { parameters := [.int, .int], returnType := some .int }, accessFlags := 9, code := some k7c1 }
/-- java/lang/Math -/
def k7 : Class := { plain "java/lang/Math" (some 0) with
  accessFlags := 49
  interfaces := #[]
  cf := some (fileOf pool7 1 #[.nestMembers #[98]] #[{ accessFlags := 2, nameIndex := 7, descriptorIndex := 8, attributes := #[] }, { accessFlags := 9, nameIndex := 201, descriptorIndex := 335, attributes := #[] }] 49 4 #[] #[{ accessFlags := 25, nameIndex := 354, descriptorIndex := 339, attributes := #[] }, { accessFlags := 25, nameIndex := 358, descriptorIndex := 339, attributes := #[] }, { accessFlags := 25, nameIndex := 361, descriptorIndex := 339, attributes := #[] }, { accessFlags := 26, nameIndex := 364, descriptorIndex := 339, attributes := #[] }, { accessFlags := 26, nameIndex := 365, descriptorIndex := 339, attributes := #[] }, { accessFlags := 26, nameIndex := 172, descriptorIndex := 173, attributes := #[] }, { accessFlags := 26, nameIndex := 176, descriptorIndex := 173, attributes := #[] }, { accessFlags := 8, nameIndex := 344, descriptorIndex := 339, attributes := #[] }, { accessFlags := 8, nameIndex := 338, descriptorIndex := 339, attributes := #[] }, { accessFlags := 4120, nameIndex := 245, descriptorIndex := 246, attributes := #[] }])
  fields := #[{ name := "E", type := .double, accessFlags := 25, slot := 0, constantValue := 0 }, { name := "PI", type := .double, accessFlags := 25, slot := 1, constantValue := 0 }, { name := "TAU", type := .double, accessFlags := 25, slot := 2, constantValue := 0 }, { name := "DEGREES_TO_RADIANS", type := .double, accessFlags := 26, slot := 3, constantValue := 0 }, { name := "RADIANS_TO_DEGREES", type := .double, accessFlags := 26, slot := 4, constantValue := 0 }, { name := "negativeZeroFloatBits", type := .long, accessFlags := 26, slot := 5, constantValue := 0 }, { name := "negativeZeroDoubleBits", type := .long, accessFlags := 26, slot := 6, constantValue := 0 }, { name := "twoToTheDoubleScaleUp", type := .double, accessFlags := 8, slot := 7, constantValue := 0 }, { name := "twoToTheDoubleScaleDown", type := .double, accessFlags := 8, slot := 8, constantValue := 0 }, { name := "$assertionsDisabled", type := .boolean, accessFlags := 4120, slot := 9, constantValue := 0 }]
  methods := #[k7m0, k7m1]
  instanceTypes := #[]
  staticTypes := #[.double, .double, .double, .double, .double, .long, .long, .double, .double, .boolean]
  resolved := Array.replicate 460 none
  statics := none }

def pool8 : Array CpInfo := pool [(1, u "java/lang/Cloneable"), (0, .class_ 1), (0, u "java/lang/Object"), (0, .class_ 3)] 3

/-- java/lang/Cloneable -/
def k8 : Class := { plain "java/lang/Cloneable" (some 0) with
  accessFlags := 1537
  interfaces := #[]
  cf := some (fileOf pool8 2 #[] #[] 1537 4 #[] #[])
  fields := #[]
  methods := #[]
  instanceTypes := #[]
  staticTypes := #[]
  resolved := Array.replicate 8 none
  statics := none }

/-- the primitive byte -/
def k9 : Class := { plain "byte" none with kind := .primitive 'B', accessFlags := 0x411 }
/-- [B -/
def k10 : Class := { plain "[B" (some 0) with kind := .array 9 .byte, interfaces := #[8, 4], accessFlags := 1041 }

/-- the primitive int -/
def k11 : Class := { plain "int" none with kind := .primitive 'I', accessFlags := 0x411 }
/-- [I -/
def k12 : Class := { plain "[I" (some 0) with kind := .array 11 .int, interfaces := #[8, 4], accessFlags := 1041 }

def heap : Heap := #[{ cls := 6, slots := #[.ref 2, .ref 1, .ref 3, .null], vm := .statics 6 },
  { cls := 6, slots := #[.null, .int 1, .int 0], vm := .none },
  { cls := 6, slots := #[.null, .int 0, .int 0], vm := .none },
  { cls := 6, slots := #[.null, .int 2, .int 0], vm := .none }]
def classes : Array Class := #[k0, k1, k2, k3, k4, k5, k6, k7, k8, k9, k10, k11, k12]
def interned : List (Array UInt16 × Addr) := []
def slotsUsed : Nat := 13
def theMethod : MethodId := ⟨1, 3⟩
def args0 : Array Value := #[.int 5, .int 7]
def aboutOver (below : List Frame) : State where
  vm := { classes := classes, interned := interned.toArray }
  heap := heap
  slotsUsed := slotsUsed
  threads := #[{ frames := .invoking theMethod args0 :: below }]
def below0 : List Frame := [.native { method := ⟨0, 0⟩, args := #[] }]
def about1 : State := aboutOver below0
def p0 : Program := .bare "" "" ""
def e0 : Env := launch0.env 0 0 0
theorem w_frames : about1.frames = Frame.invoking theMethod args0 :: below0 := rfl
set_option maxRecDepth 65536 in
theorem w_args : argsFit about1.vm theMethod args0 = true := by decide +kernel
set_option maxRecDepth 65536 in
theorem w_heap : heapFits about1 = true := by decide +kernel
set_option maxRecDepth 65536 in
theorem w_runnable : about1.curStatus? = some .runnable := by decide +kernel
set_option maxRecDepth 65536 in
theorem w_alone : about1.alone = true := by decide +kernel
set_option maxRecDepth 65536 in
theorem w_named : about1.methodNamed? x = some theMethod := by decide +kernel
set_option maxRecDepth 65536 in
theorem w_hears : about1.hears theMethod below0 = true := by decide +kernel
set_option maxRecDepth 65536 in
theorem w_ripe : about1.ripe theMethod args0 below0 = true := by decide +kernel
theorem w_running : about1.status = .running := rfl
set_option maxRecDepth 65536 in
theorem w_room : about1.hasRoom e0.platform room_1 = true :=
  launch0.hasRoom_least _ room_1 (by decide +kernel) (by decide +kernel) (by decide +kernel) (by decide +kernel) (by decide +kernel) (by decide +kernel)
theorem allAtoms_all (ts : List Jvm.Cond) (a : Array Jvm.Value) (st : Jvm.State) : (allAtoms ts).before a st = ts.all (fun c => c.before a st) := by
  induction ts with
  | nil => rfl
  | cons c t ih =>
    show (Jvm.Cond.and c (allAtoms t)).before a st = _
    rw [Jvm.Cond.before_and, ih, List.all_cons]
def words1 : List Jvm.Cond := Jvm.Cond.code x code maxLocals ret :: tables_1
/-- a 'code' word, met by the world's own term for the bytes: nothing is compared byte by byte -/
theorem code_word {y : MethodName} {bytes : ByteArray} {mx : Nat} {rt : Option FieldType} {a : Array Value} {s : State} {m : MethodId} {meth : Method} {c : Code} (h1 : s.methodNamed? y = some m) (h2 : s.vm.method? m = some meth) (h3 : meth.code = some c) (h4 : c.code = bytes)
    (h5 : (c.maxLocals == mx && c.exceptionTable.isEmpty && decide (c.maxStack ≤ mostOperands) && decide (meth.sig.returnType = rt) && !meth.locks && decide (parseMethodDescriptor y.desc = some meth.sig)) = true) : (Jvm.Cond.code y bytes mx rt).before a s = true := by
  simp only [Bool.and_eq_true, beq_iff_eq, Bool.not_eq_true', decide_eq_true_eq] at h5
  obtain ⟨⟨⟨⟨⟨g1, g2⟩, g3⟩, g4⟩, g5⟩, g6⟩ := h5
  simp [Cond.before, Cond.holds, Cond.value, h1, h2, h3, h4, g1, g2, g3, g4, g5, g6]
def isCode : Jvm.Cond → Bool
  | .code _ _ _ _ => true
  | _ => false
theorem all_split {L : List Jvm.Cond} {P : Jvm.Cond → Bool} (h1 : L.all (fun c => isCode c || P c) = true) (h2 : ∀ c ∈ L.filter isCode, P c = true) : L.all P = true := by
  refine List.all_eq_true.mpr fun c hc => ?_
  have h := List.all_eq_true.mp h1 c hc
  rcases Bool.eq_false_or_eq_true (isCode c) with hi | hi
  · exact h2 c (List.mem_filter.mpr ⟨hc, hi⟩)
  · simpa [hi] using h
set_option maxRecDepth 65536 in
theorem w_c0 : (Jvm.Cond.code x code maxLocals ret).before args0 about1 = true := code_word (m := ⟨1, 3⟩) (meth := k1m3) (c := k1c3) (by decide +kernel) rfl rfl rfl (by decide +kernel)
set_option maxRecDepth 65536 in
theorem w_c1 : (Jvm.Cond.code ({ cls := "com/example/verdict_across_domains/verdictacrossdomains/GrantAndPinLaw", name := "pick", desc := "(I)Lcom/example/verdict_across_domains/verdictacrossdomains/Grant;" } : Jvm.MethodName) method_2_code (2 : Nat) (Option.some (Jvm.ClassFile.FieldType.object "com/example/verdict_across_domains/verdictacrossdomains/Grant"))).before args0 about1 = true := code_word (m := ⟨1, 1⟩) (meth := k1m1) (c := k1c1) (by decide +kernel) rfl rfl rfl (by decide +kernel)
set_option maxRecDepth 65536 in
theorem w_c2 : (Jvm.Cond.code ({ cls := "com/example/verdict_across_domains/verdictacrossdomains/Grant", name := "and", desc := "(Lcom/example/verdict_across_domains/verdictacrossdomains/Grant;)Lcom/example/verdict_across_domains/verdictacrossdomains/Grant;" } : Jvm.MethodName) prog_66_method_6_code (2 : Nat) (Option.some (Jvm.ClassFile.FieldType.object "com/example/verdict_across_domains/verdictacrossdomains/Grant"))).before args0 about1 = true := code_word (m := ⟨6, 0⟩) (meth := k6m0) (c := k6c0) (by decide +kernel) rfl rfl rfl (by decide +kernel)
set_option maxRecDepth 65536 in
theorem w_c3 : (Jvm.Cond.code ({ cls := "com/example/verdict_across_domains/verdictacrossdomains/GrantAndPinLaw", name := "rank", desc := "(Lcom/example/verdict_across_domains/verdictacrossdomains/Grant;)I" } : Jvm.MethodName) method_3_code (1 : Nat) (Option.some Jvm.ClassFile.FieldType.int)).before args0 about1 = true := code_word (m := ⟨1, 2⟩) (meth := k1m2) (c := k1c2) (by decide +kernel) rfl rfl rfl (by decide +kernel)
set_option maxRecDepth 65536 in
theorem w_c4 : (Jvm.Cond.code ({ cls := "java/lang/Math", name := "min", desc := "(II)I" } : Jvm.MethodName) jdk_29_method_69_code (2 : Nat) (Option.some Jvm.ClassFile.FieldType.int)).before args0 about1 = true := code_word (m := ⟨7, 1⟩) (meth := k7m1) (c := k7c1) (by decide +kernel) rfl rfl rfl (by decide +kernel)
def codes1 : List Jvm.Cond := [Jvm.Cond.code x code maxLocals ret, Jvm.Cond.code ({ cls := "com/example/verdict_across_domains/verdictacrossdomains/GrantAndPinLaw", name := "pick", desc := "(I)Lcom/example/verdict_across_domains/verdictacrossdomains/Grant;" } : Jvm.MethodName) method_2_code (2 : Nat) (Option.some (Jvm.ClassFile.FieldType.object "com/example/verdict_across_domains/verdictacrossdomains/Grant")), Jvm.Cond.code ({ cls := "com/example/verdict_across_domains/verdictacrossdomains/Grant", name := "and", desc := "(Lcom/example/verdict_across_domains/verdictacrossdomains/Grant;)Lcom/example/verdict_across_domains/verdictacrossdomains/Grant;" } : Jvm.MethodName) prog_66_method_6_code (2 : Nat) (Option.some (Jvm.ClassFile.FieldType.object "com/example/verdict_across_domains/verdictacrossdomains/Grant")), Jvm.Cond.code ({ cls := "com/example/verdict_across_domains/verdictacrossdomains/GrantAndPinLaw", name := "rank", desc := "(Lcom/example/verdict_across_domains/verdictacrossdomains/Grant;)I" } : Jvm.MethodName) method_3_code (1 : Nat) (Option.some Jvm.ClassFile.FieldType.int), Jvm.Cond.code ({ cls := "java/lang/Math", name := "min", desc := "(II)I" } : Jvm.MethodName) jdk_29_method_69_code (2 : Nat) (Option.some Jvm.ClassFile.FieldType.int)]
set_option maxRecDepth 65536 in
theorem codes_eq : words1.filter isCode = codes1 := rfl
theorem w_codes : ∀ c ∈ words1.filter isCode, c.before args0 about1 = true := by
  rw [codes_eq]
  intro c hc
  simp only [codes1, List.mem_cons, List.not_mem_nil, or_false] at hc
  rcases hc with rfl | rfl | rfl | rfl | rfl
  · exact w_c0
  · exact w_c1
  · exact w_c2
  · exact w_c3
  · exact w_c4
set_option maxRecDepth 65536 in
theorem w_t1 : (words1.take 24).all (fun c => isCode c || c.before args0 about1) = true := by decide +kernel
set_option maxRecDepth 65536 in
theorem w_t2 : (words1.drop 24).all (fun c => isCode c || c.before args0 about1) = true := by decide +kernel
theorem w_tables : (allAtoms (Jvm.Cond.code x code maxLocals ret :: tables_1)).before args0 about1 = true := by
  rw [allAtoms_all]
  show words1.all (fun c => c.before args0 about1) = true
  refine all_split ?_ w_codes
  rw [← List.take_append_drop 24 words1, List.all_append, w_t1, w_t2]
  rfl
set_option maxRecDepth 65536 in
theorem w_case : (Jvm.Cond.and given_1 narrow_1).before args0 about1 = true := by decide +kernel
theorem w_applies : (headSpec (Jvm.Cond.code x code maxLocals ret :: tables_1) room_1).applies x e0.platform about1 = true :=
  (Spec.applies_iff w_frames).mpr ⟨w_running, w_runnable, w_alone, w_named, w_hears, w_ripe, w_room, w_tables⟩
theorem atStart : AtStart classFile x code maxLocals ret World_1 tables_1 room_1 Calls_1 rest_1 Pre_1 launch0 p0 e0 about1 theMethod args0 below0 :=
  ⟨lists_1, trivial, launch0.admits_env _ _ _, launch0.least_env, fairChoices_fair.cas, fairChoices_fair.clock, w_frames, w_args, w_heap, w_applies, trivial, trivial, w_case⟩
end start1
theorem witness_1 : WitnessClaimed_1 := ⟨start1.p0, start1.e0, start1.about1, start1.theMethod, start1.args0, start1.below0, start1.atStart⟩
end Jvm.Pilot.@@N@@
