import JvmDerived
import JvmDerived.Pilot.@@N@@Statement
import JvmDerived.Pilot.@@N@@Code
set_option linter.unusedVariables false
set_option linter.unusedSimpArgs false
@@BLOCK:NumsL.lean.txt@@
namespace Jvm.Pilot.@@N@@
open Jvm Jvm.ClassFile Sem Op Lib Jvm.Free Jvm.Stand Jvm.LawKit Jvm.RoadKit Bundle Jvm.Pilot.@@N@@.Jvm.D
/-- Java's x >>> y on longs -/
def own_uL (x : Int64) (y : Int32) : Int64 := (x.toUInt64 >>> (y &&& 63).toInt64.toUInt64).toInt64
section Own
variable {p : Program} {l : Launch} {e : Env} {R : Room} {s : State} {m : MethodId} {args : Array Value} {below : List Frame} {meth : Method} {c : Code} {T : State} {locs : List Loc} {cells slots : Nat}
variable {ck sk : Nat} {Q : Option Value → Heap → List Loc → Prop}
/-- the run from u comes to the method's return, and Q holds there -/
def oF (p : Program) (e : Env) (below : List Frame) (s : State) (ck sk : Nat) (Q : Option Value → Heap → List Loc → Prop) (u : State) : Prop :=
  ∃ t o, Steps p.tables e below u t ∧ t.status = .running ∧ Ended t below o ∧ ∃ v L, o = .returned v ∧ Q v t.heap L ∧ FrameEnd s o t L ck sk
theorem oS {u u' : State} (h : ∀ t, Steps p.tables e below u' t → Steps p.tables e below u t) (k : oF p e below s ck sk Q u') : oF p e below s ck sk Q u := by
  obtain ⟨t, o, h1, r⟩ := k
  exact ⟨t, o, h t h1, r⟩
theorem oC {u : State} (X : Stand p l e R s m args below meth c T locs cells slots) {h : Heap} (E : T.heap = h) {f : JFrame}
    (rest : ∀ Tc, Stand p l e R s m args below meth c Tc locs cells slots → Tc.heap = h → oF p e below s ck sk Q (Tc.setTop f))
    (k : (∀ Tc, Stand p l e R s m args below meth c Tc locs cells slots → Tc.heap = h → oF p e below s ck sk Q (Tc.setTop f)) → oF p e below s ck sk Q u) : oF p e below s ck sk Q u := k rest
theorem own_ret (X : Stand p l e R s m args below meth c T locs cells slots) (hlk : meth.locks = false) {v : Option Value} (hv : meth.sig.returnType = none → v = none) {g : JFrame}
    (st : ∀ fs, (∀ (f : JFrame) (acts : List Action), f.method = m → f.locked = none → f.entered = [] → (doReturn e (T.setTop f) acts v).1 = T.setFrames fs) → Steps p.tables e below (T.setTop g) (T.setFrames fs))
    (hQ : Q v T.heap locs) (hc : cells ≤ ck) (hs : slots ≤ sk) : oF p e below s ck sk Q (T.setTop g) := by
  obtain ⟨fs, hr, hrun, hended, hW, hsame⟩ := X.leave (v := v) hv hlk
  exact ⟨_, _, st fs hr, hrun, hended, v, locs, rfl, hQ, ⟨_, rfl⟩, hW, hsame.mono hc hs⟩
theorem own_retI (X : Stand p l e R s m args below meth c T locs cells slots) (hx : p.tables.exec = Jvm.exec) (hlk : meth.locks = false) {pc : Nat} {Ls : Array Slot} {z : Int32} {rest : List Value} (hret : meth.sig.returnType = some .int)
    (hd : decode c.code pc = .ok (.ireturn, 1)) (hQ : Q (some (.int z)) T.heap locs) (hc : cells ≤ ck) (hs : slots ≤ sk) : oF p e below s ck sk Q (T.setTop (mkF m pc Ls (.int z :: rest))) :=
  own_ret X hlk (fun h => by rw [hret] at h; cases h) (fun fs hl => retOut X hx hret rfl (Or.inl ⟨rfl, Or.inl rfl, _, rfl⟩) hd hl) hQ hc hs
theorem own_retJ (X : Stand p l e R s m args below meth c T locs cells slots) (hx : p.tables.exec = Jvm.exec) (hlk : meth.locks = false) {pc : Nat} {Ls : Array Slot} {z : Int64} {rest : List Value} (hret : meth.sig.returnType = some .long)
    (hd : decode c.code pc = .ok (.lreturn, 1)) (hQ : Q (some (.long z)) T.heap locs) (hc : cells ≤ ck) (hs : slots ≤ sk) : oF p e below s ck sk Q (T.setTop (mkF m pc Ls (.long z :: rest))) :=
  own_ret X hlk (fun h => by rw [hret] at h; cases h) (fun fs hl => retOut X hx hret rfl (Or.inr (Or.inl ⟨rfl, rfl, _, rfl⟩)) hd hl) hQ hc hs
theorem own_retD (X : Stand p l e R s m args below meth c T locs cells slots) (hx : p.tables.exec = Jvm.exec) (hlk : meth.locks = false) {pc : Nat} {Ls : Array Slot} {z : UInt64} {rest : List Value} (hret : meth.sig.returnType = some .double)
    (hd : decode c.code pc = .ok (.dreturn, 1)) (hQ : Q (some (.double z)) T.heap locs) (hc : cells ≤ ck) (hs : slots ≤ sk) : oF p e below s ck sk Q (T.setTop (mkF m pc Ls (.double z :: rest))) :=
  own_ret X hlk (fun h => by rw [hret] at h; cases h) (fun fs hl => retOut X hx hret rfl (Or.inr (Or.inr (Or.inl ⟨rfl, rfl, _, rfl⟩))) hd hl) hQ hc hs
theorem own_retA (X : Stand p l e R s m args below meth c T locs cells slots) (hx : p.tables.exec = Jvm.exec) (hlk : meth.locks = false) {pc : Nat} {Ls : Array Slot} {w : Value} {t : FieldType} {rest : List Value} (hret : meth.sig.returnType = some t) (ht : t.isReference = true) (hr : w.isRef = true)
    (hd : decode c.code pc = .ok (.areturn, 1)) (hQ : Q (some w) T.heap locs) (hc : cells ≤ ck) (hs : slots ≤ sk) : oF p e below s ck sk Q (T.setTop (mkF m pc Ls (w :: rest))) :=
  own_ret X hlk (fun h => by rw [hret] at h; cases h) (fun fs hl => retOut X hx hret (by cases t <;> first | (cases ht; done) | (cases w <;> first | rfl | (cases hr; done))) (Or.inr (Or.inr (Or.inr (Or.inr ⟨rfl, ht, hr⟩)))) hd hl) hQ hc hs
theorem own_retN (X : Stand p l e R s m args below meth c T locs cells slots) (hx : p.tables.exec = Jvm.exec) (hlk : meth.locks = false) {pc : Nat} {Ls : Array Slot} {z : Int32} {t : FieldType} {rest : List Value} (hret : meth.sig.returnType = some t) (ht : t = .boolean ∨ t = .byte ∨ t = .char ∨ t = .short)
    (hd : decode c.code pc = .ok (.ireturn, 1)) (hQ : Q (some (.int (nar t z))) T.heap locs) (hc : cells ≤ ck) (hs : slots ≤ sk) : oF p e below s ck sk Q (T.setTop (mkF m pc Ls (.int z :: rest))) :=
  own_ret X hlk (fun h => by rw [hret] at h; cases h) (fun fs hl => retN X hx hret ht hd hl) hQ hc hs
theorem own_ret0 (X : Stand p l e R s m args below meth c T locs cells slots) (hx : p.tables.exec = Jvm.exec) (hlk : meth.locks = false) {pc : Nat} {Ls : Array Slot} (hret : meth.sig.returnType = none)
    (hd : decode c.code pc = .ok (.return_, 1)) (hQ : Q none T.heap locs) (hc : cells ≤ ck) (hs : slots ≤ sk) : oF p e below s ck sk Q (T.setTop (mkF m pc Ls [])) :=
  own_ret X hlk (fun _ => rfl) (fun fs hl => X.returnOut hx hret hd hl) hQ hc hs
/-- a body's contract: called with as' on the heap h it returns, and Q says what it leaves -/
def own_Con (l : Launch) (Z : State) (ws : List Jvm.Cond) (y : MethodName) (bytes : ByteArray) (maxL : Nat) (rt : Option FieldType) (rm : Room) (as' : Array Value) (h : Heap) (Q : Option Value → Heap → List Loc → Prop) : Prop :=
  MetFree l y (head1 (Jvm.Cond.code y bytes maxL rt :: ws) rm) (fun a U => a = as' ∧ Z.Warmed39 U.vm ∧ U.heap = h) (fun _ _ _ _ _ => True) (fun _ U o U' => ∃ v L, o = .returned v ∧ Q v U'.heap L ∧ FrameEnd U o U' L rm.cells rm.slots)
/-- it returns r, and the heap is as it was -/
def own_Q1 (r : Option Value) (h : Heap) : Option Value → Heap → List Loc → Prop := fun v h' L => v = r ∧ h' = h ∧ L = []
variable {Z : State} {a0 : Array Value} {h h' : Heap}
theorem own_body {ws : List Jvm.Cond} {y : MethodName} {bytes : ByteArray} {maxL : Nat} {rt : Option FieldType} {rm : Room} {as' : Array Value} (hpn : plainFor y = true)
    (H : ∀ (p : Program) (e : Env) (s : State) (m : MethodId) (below : List Frame) (meth : Method) (c : Code) (s₁ : State), Stand p l e rm s m as' below meth c s₁ [] 0 0 → p.tables.exec = Jvm.exec → c.code = bytes → c.maxLocals = maxL → meth.sig.returnType = rt → meth.locks = false → s.vm.findClass y.cls = some m.cls → meth.name = y.name → Z.Warmed39 s.vm → s₁.heap = h →
      oF p e below s rm.cells rm.slots Q (s₁.setTop (entryFrame m as' maxL))) : own_Con l Z ws y bytes maxL rt rm as' h Q := by
  refine MetFree.of_bodySF hpn hisR ?_
  intro p e s m args below meth c s₁ Bd hml0 hP hK
  obtain ⟨rfl, hZ, hh⟩ := hP
  exact H p e s m below meth c s₁ (Stand.of_body Bd) Bd.exec Bd.bytes hml0 Bd.returns (BodyLoose.notSynchronized Bd) (findClass_of_methodNamed Bd.named) (name_of_methodNamed Bd.named Bd.method).1 hZ (by rw [← hh, Bd.state]; rfl)
theorem own_callS (X : Stand p l e R s m args below meth c T locs cells slots) (hx : p.tables.exec = Jvm.exec) (hZ : Z.Warmed39 s.vm) {own : String} {index : Nat} {y : MethodName} {bytes : ByteArray} {maxL : Nat} {rt : Option FieldType} (hown : s.vm.findClass own = some m.cls)
    (w1 : (Jvm.Cond.methodLink own index y).before a0 Z = true) (w2 : (Jvm.Cond.static y).before a0 Z = true) (w4 : (Jvm.Cond.code y bytes maxL rt).before a0 Z = true) (w3 : (Jvm.Cond.initialized y.cls).before a0 Z = true) (hy : y.cls ≠ "java/lang/invoke/MethodHandle" ∧ y.cls ≠ "java/lang/invoke/VarHandle")
    (eT : T.heap = h) {rm : Room} {W : Nat} {argsL rest : List Value} (K : own_Con l Z [] y bytes maxL rt rm argsL.toArray h Q) (hf : rm.frames + 1 ≤ R.frames) (hl : W + (maxL + 11) + rm.locals ≤ R.locals)
    {g : JFrame} (hg : g.method = m) (hsize : g.locals.size = c.maxLocals) (hlen : ∀ sig, parseMethodDescriptor y.desc = some sig → argsL.length = sig.parameters.length)
    (hstack : g.stack = argsL.reverse ++ rest) (hW : 2 * g.monitorRoom + (rest.map fun v => v.category).sum ≤ W) (hdg : decode c.code g.pc = .ok (.invokestatic index, 3)) (hc : cells + rm.cells ≤ R.cells) (hs : slots + rm.slots ≤ R.slots) :
    ∃ (v : Option Value) (T' : State) (L : List Loc), Stand p l e R s m args below meth c T' (locs ++ L) (cells + rm.cells) (slots + rm.slots) ∧ Q v T'.heap L ∧
      ∀ target, Steps p.tables e below (T'.setTop { g with pc := g.pc + 3, stack := v.toList ++ rest }) target → Steps p.tables e below (T.setTop g) target := by
  obtain ⟨v, _, ⟨T', L', k', n'⟩, -, X', ⟨L, hQ, q1, q2, q3⟩, st⟩ := Jvm.LawKit.callS X hx hown (mvT hZ w1) (mvT hZ w2) (mvT hZ w3) (mvT hZ w4) hy (backOf (W := W) K hZ w4 w3 hf hl) hg hsize hlen hstack hW hdg (fun _ _ => ⟨rfl, eT, hc, hs⟩)
  dsimp only [Pt.U, Pt.locs, Pt.cells, Pt.slots] at X' q1 q2 q3 st hQ
  subst q1 q2 q3
  exact ⟨v, T', L, X', hQ, st⟩
theorem own_callSP (X : Stand p l e R s m args below meth c T locs cells slots) (hx : p.tables.exec = Jvm.exec) (hZ : Z.Warmed39 s.vm) {own : String} {index : Nat} {y : MethodName} {bytes : ByteArray} {maxL : Nat} {rt : Option FieldType} (hown : s.vm.findClass own = some m.cls)
    (w1 : (Jvm.Cond.methodLink own index y).before a0 Z = true) (w2 : (Jvm.Cond.static y).before a0 Z = true) (w4 : (Jvm.Cond.code y bytes maxL rt).before a0 Z = true) (w3 : (Jvm.Cond.initialized y.cls).before a0 Z = true) (hy : y.cls ≠ "java/lang/invoke/MethodHandle" ∧ y.cls ≠ "java/lang/invoke/VarHandle")
    (eT : T.heap = h) {rf rl : Nat} {W : Nat} {argsL rest : List Value} {r : Value} (K : own_Con l Z [] y bytes maxL rt { frames := rf, cells := 0, slots := 0, locals := rl } argsL.toArray h (own_Q1 (some r) h)) (hf : rf + 1 ≤ R.frames) (hl : W + (maxL + 11) + rl ≤ R.locals)
    {g : JFrame} (hg : g.method = m) (hsize : g.locals.size = c.maxLocals) (hlen : ∀ sig, parseMethodDescriptor y.desc = some sig → argsL.length = sig.parameters.length)
    (hstack : g.stack = argsL.reverse ++ rest) (hW : 2 * g.monitorRoom + (rest.map fun v => v.category).sum ≤ W) (hdg : decode c.code g.pc = .ok (.invokestatic index, 3)) (hc : cells ≤ R.cells) (hs : slots ≤ R.slots) :
    ∃ T' : State, Stand p l e R s m args below meth c T' locs cells slots ∧ T'.heap = h ∧
      ∀ target, Steps p.tables e below (T'.setTop { g with pc := g.pc + 3, stack := r :: rest }) target → Steps p.tables e below (T.setTop g) target := by
  obtain ⟨v, T', L, X', ⟨rfl, hh, rfl⟩, st⟩ := own_callS X hx hZ hown w1 w2 w4 w3 hy eT (W := W) K hf hl hg hsize hlen hstack hW hdg hc hs
  rw [List.append_nil] at X'
  exact ⟨T', X', hh, st⟩
theorem own_callI (X : Stand p l e R s m args below meth c T locs cells slots) (hx : p.tables.exec = Jvm.exec) (hZ : Z.Warmed39 s.vm) {own : String} {index : Nat} {y : MethodName} (hy1 : y.name = "<init>") {bytes : ByteArray} {maxL : Nat} (hown : s.vm.findClass own = some m.cls)
    (w1 : (Jvm.Cond.methodLink own index y).before a0 Z = true) (w2 : (Jvm.Cond.instanceMethod y).before a0 Z = true) (w4 : (Jvm.Cond.code y bytes maxL none).before a0 Z = true) (w3 : (Jvm.Cond.initialized y.cls).before a0 Z = true) (hy : y.cls ≠ "java/lang/invoke/MethodHandle" ∧ y.cls ≠ "java/lang/invoke/VarHandle")
    (eT : T.heap = h) {rm : Room} {W : Nat} {a : Addr} {argsL rest : List Value} (K : own_Con l Z [] y bytes maxL none rm (.ref a :: argsL).toArray h Q) (hf : rm.frames + 1 ≤ R.frames) (hl : W + (maxL + 11) + rm.locals ≤ R.locals)
    {g : JFrame} (hg : g.method = m) (hsize : g.locals.size = c.maxLocals) (hlen : ∀ sig, parseMethodDescriptor y.desc = some sig → argsL.length = sig.parameters.length)
    (hstack : g.stack = argsL.reverse ++ .ref a :: rest) (hW : 2 * g.monitorRoom + (rest.map fun v => v.category).sum ≤ W) (hdg : decode c.code g.pc = .ok (.invokespecial index, 3)) (hc : cells + rm.cells ≤ R.cells) (hs : slots + rm.slots ≤ R.slots) :
    ∃ (v : Option Value) (T' : State) (L : List Loc), Stand p l e R s m args below meth c T' (locs ++ L) (cells + rm.cells) (slots + rm.slots) ∧ Q v T'.heap L ∧
      ∀ target, Steps p.tables e below (T'.setTop { g with pc := g.pc + 3, stack := v.toList ++ rest }) target → Steps p.tables e below (T.setTop g) target := by
  obtain ⟨v, _, ⟨T', L', k', n'⟩, -, X', ⟨L, hQ, q1, q2, q3⟩, st⟩ := X.specialBack hx hy1 hown (mvT hZ w1) (mvT hZ w2) (mvT hZ w4) hy (backOf (W := W) K hZ w4 w3 hf hl) hg hsize (Steps.refl _) (a := a) hlen hstack hW hdg (fun _ _ => ⟨rfl, eT, hc, hs⟩)
  dsimp only [Pt.U, Pt.locs, Pt.cells, Pt.slots] at X' q1 q2 q3 st hQ
  subst q1 q2 q3
  exact ⟨v, T', L, X', hQ, fun t k => st.trans k⟩
theorem own_callIP (X : Stand p l e R s m args below meth c T locs cells slots) (hx : p.tables.exec = Jvm.exec) (hZ : Z.Warmed39 s.vm) {own : String} {index : Nat} {y : MethodName} (hy1 : y.name = "<init>") {bytes : ByteArray} {maxL : Nat} (hown : s.vm.findClass own = some m.cls)
    (w1 : (Jvm.Cond.methodLink own index y).before a0 Z = true) (w2 : (Jvm.Cond.instanceMethod y).before a0 Z = true) (w4 : (Jvm.Cond.code y bytes maxL none).before a0 Z = true) (w3 : (Jvm.Cond.initialized y.cls).before a0 Z = true) (hy : y.cls ≠ "java/lang/invoke/MethodHandle" ∧ y.cls ≠ "java/lang/invoke/VarHandle")
    (eT : T.heap = h) {rf rl : Nat} {W : Nat} {a : Addr} {argsL rest : List Value} (K : own_Con l Z [] y bytes maxL none { frames := rf, cells := 0, slots := 0, locals := rl } (.ref a :: argsL).toArray h (own_Q1 none h)) (hf : rf + 1 ≤ R.frames) (hl : W + (maxL + 11) + rl ≤ R.locals)
    {g : JFrame} (hg : g.method = m) (hsize : g.locals.size = c.maxLocals) (hlen : ∀ sig, parseMethodDescriptor y.desc = some sig → argsL.length = sig.parameters.length)
    (hstack : g.stack = argsL.reverse ++ .ref a :: rest) (hW : 2 * g.monitorRoom + (rest.map fun v => v.category).sum ≤ W) (hdg : decode c.code g.pc = .ok (.invokespecial index, 3)) (hc : cells ≤ R.cells) (hs : slots ≤ R.slots) :
    ∃ T' : State, Stand p l e R s m args below meth c T' locs cells slots ∧ T'.heap = h ∧
      ∀ target, Steps p.tables e below (T'.setTop { g with pc := g.pc + 3, stack := rest }) target → Steps p.tables e below (T.setTop g) target := by
  obtain ⟨v, T', L, X', ⟨rfl, hh, rfl⟩, st⟩ := own_callI X hx hZ hy1 hown w1 w2 w4 w3 hy eT (W := W) K hf hl hg hsize hlen hstack hW hdg hc hs
  rw [List.append_nil] at X'
  exact ⟨T', X', hh, st⟩
theorem own_callV (X : Stand p l e R s m args below meth c T locs cells slots) (hx : p.tables.exec = Jvm.exec) (hZ : Z.Warmed39 s.vm) {own C : String} {index : Nat} {y z : MethodName} {bytes : ByteArray} {maxL : Nat} {rt : Option FieldType} (hown : s.vm.findClass own = some m.cls)
    (w1 : (Jvm.Cond.methodLink own index y).before a0 Z = true) (w2 : (Jvm.Cond.declares y).before a0 Z = true) (hnf : NotFace s y) (ws : (Jvm.Cond.selects C y z).before a0 Z = true) (wi : (Jvm.Cond.instanceMethod z).before a0 Z = true) (hy : y.cls ≠ "java/lang/invoke/MethodHandle" ∧ y.cls ≠ "java/lang/invoke/VarHandle")
    (eT : T.heap = h) {b : Addr} (E : Exa Z h b C) {rm : Room} {W : Nat} {argsL rest : List Value} (K : own_Con l Z [] z bytes maxL rt rm (.ref b :: argsL).toArray h Q) (w4 : (Jvm.Cond.code z bytes maxL rt).before a0 Z = true) (w3 : (Jvm.Cond.initialized z.cls).before a0 Z = true) (hf : rm.frames + 1 ≤ R.frames) (hl : W + (maxL + 11) + rm.locals ≤ R.locals)
    {g : JFrame} (hg : g.method = m) (hsize : g.locals.size = c.maxLocals) (hlen : ∀ sig, parseMethodDescriptor y.desc = some sig → argsL.length = sig.parameters.length)
    (hstack : g.stack = argsL.reverse ++ .ref b :: rest) (hW : 2 * g.monitorRoom + (rest.map fun v => v.category).sum ≤ W) (hdg : decode c.code g.pc = .ok (.invokevirtual index, 3)) (hc : cells + rm.cells ≤ R.cells) (hs : slots + rm.slots ≤ R.slots) :
    ∃ (v : Option Value) (T' : State) (L : List Loc), Stand p l e R s m args below meth c T' (locs ++ L) (cells + rm.cells) (slots + rm.slots) ∧ Q v T'.heap L ∧
      ∀ target, Steps p.tables e below (T'.setTop { g with pc := g.pc + 3, stack := v.toList ++ rest }) target → Steps p.tables e below (T.setTop g) target := by
  obtain ⟨cq, kq, qa, qb, qc⟩ := isOf hZ eT E
  obtain ⟨v, _, ⟨T', L', k', n'⟩, -, X', ⟨L, hQ, q1, q2, q3⟩, st⟩ := X.virtualBack hx hown (mvT hZ w1) (mvT hZ w2) hnf (mvT hZ ws) (mvT hZ wi) hy (backOf (W := W) K hZ w4 w3 hf hl) qa qc hg hsize (Steps.refl _) hlen hstack hW hdg (fun _ _ => ⟨rfl, eT, hc, hs⟩)
  dsimp only [Pt.U, Pt.locs, Pt.cells, Pt.slots] at X' q1 q2 q3 st hQ
  subst q1 q2 q3
  exact ⟨v, T', L, X', hQ, fun t k => st.trans k⟩
theorem own_callVP (X : Stand p l e R s m args below meth c T locs cells slots) (hx : p.tables.exec = Jvm.exec) (hZ : Z.Warmed39 s.vm) {own C : String} {index : Nat} {y z : MethodName} {bytes : ByteArray} {maxL : Nat} {rt : Option FieldType} (hown : s.vm.findClass own = some m.cls)
    (w1 : (Jvm.Cond.methodLink own index y).before a0 Z = true) (w2 : (Jvm.Cond.declares y).before a0 Z = true) (hnf : NotFace s y) (ws : (Jvm.Cond.selects C y z).before a0 Z = true) (wi : (Jvm.Cond.instanceMethod z).before a0 Z = true) (hy : y.cls ≠ "java/lang/invoke/MethodHandle" ∧ y.cls ≠ "java/lang/invoke/VarHandle")
    (eT : T.heap = h) {b : Addr} (E : Exa Z h b C) {rf rl : Nat} {W : Nat} {argsL rest : List Value} {r : Value} (K : own_Con l Z [] z bytes maxL rt { frames := rf, cells := 0, slots := 0, locals := rl } (.ref b :: argsL).toArray h (own_Q1 (some r) h)) (w4 : (Jvm.Cond.code z bytes maxL rt).before a0 Z = true) (w3 : (Jvm.Cond.initialized z.cls).before a0 Z = true) (hf : rf + 1 ≤ R.frames) (hl : W + (maxL + 11) + rl ≤ R.locals)
    {g : JFrame} (hg : g.method = m) (hsize : g.locals.size = c.maxLocals) (hlen : ∀ sig, parseMethodDescriptor y.desc = some sig → argsL.length = sig.parameters.length)
    (hstack : g.stack = argsL.reverse ++ .ref b :: rest) (hW : 2 * g.monitorRoom + (rest.map fun v => v.category).sum ≤ W) (hdg : decode c.code g.pc = .ok (.invokevirtual index, 3)) (hc : cells ≤ R.cells) (hs : slots ≤ R.slots) :
    ∃ T' : State, Stand p l e R s m args below meth c T' locs cells slots ∧ T'.heap = h ∧
      ∀ target, Steps p.tables e below (T'.setTop { g with pc := g.pc + 3, stack := r :: rest }) target → Steps p.tables e below (T.setTop g) target := by
  obtain ⟨v, T', L, X', ⟨rfl, hh, rfl⟩, st⟩ := own_callV X hx hZ hown w1 w2 hnf ws wi hy eT E (W := W) K w4 w3 hf hl hg hsize hlen hstack hW hdg hc hs
  rw [List.append_nil] at X'
  exact ⟨T', X', hh, st⟩
theorem own_cl_eq {x y : Int64} (h : x = y) : Jvm.Free.XT.cmpL x y = 0 := by
  subst h; unfold Jvm.Free.XT.cmpL
  rw [if_neg (by rw [Int64.lt_iff_toInt_lt]; omega), if_pos rfl]
theorem own_cl_eq_n {x y : Int64} (h : ¬ x = y) : ¬ Jvm.Free.XT.cmpL x y = 0 := by
  unfold Jvm.Free.XT.cmpL
  by_cases h1 : y < x
  · rw [if_pos h1]; decide
  · rw [if_neg h1, if_neg h]; decide
theorem own_cl_gt {x y : Int64} (h : y < x) : (0 : Int32) < Jvm.Free.XT.cmpL x y := by
  unfold Jvm.Free.XT.cmpL; rw [if_pos h]; decide
theorem own_cl_gt_n {x y : Int64} (h : ¬ y < x) : ¬ (0 : Int32) < Jvm.Free.XT.cmpL x y := by
  unfold Jvm.Free.XT.cmpL; rw [if_neg h]
  by_cases h1 : x = y
  · rw [if_pos h1]; decide
  · rw [if_neg h1]; decide
theorem own_cl_lt {x y : Int64} (h : x < y) : Jvm.Free.XT.cmpL x y < (0 : Int32) := by
  unfold Jvm.Free.XT.cmpL
  rw [if_neg (by rw [Int64.lt_iff_toInt_lt] at h ⊢; omega), if_neg (by intro q; subst q; rw [Int64.lt_iff_toInt_lt] at h; omega)]; decide
theorem own_cl_lt_n {x y : Int64} (h : ¬ x < y) : ¬ Jvm.Free.XT.cmpL x y < (0 : Int32) := by
  unfold Jvm.Free.XT.cmpL
  by_cases h1 : y < x
  · rw [if_pos h1]; decide
  · rw [if_neg h1]
    have h2 : x = y := by
      rw [Int64.lt_iff_toInt_lt] at h h1
      exact Int64.toInt_inj.mp (by omega)
    rw [if_pos h2]; decide
theorem own_eq_int {a : Array Value} {s : State} {t : Term} {k : Int32} (h : (Jvm.Cond.eq t (Term.int k)).value a s none s [] = some true) : t.eval a s none [] s = some (.int k) := by
  obtain ⟨x, y, hx, hy, k1, k2⟩ := cmp_v (Or.inl h)
  obtain rfl : y = .int k := Option.some.inj (hy.symm.trans (Term.int_eval k))
  obtain ⟨z, rfl⟩ := k2
  rw [hx, gotT (Cond.eq_ints hx hy) h]
end Own
section OwnArr
variable {p : Program} {l : Launch} {e : Env} {R : Room} {s : State} {m : MethodId} {args : Array Value} {below : List Frame} {meth : Method} {c : Code} {T : State} {locs : List Loc} {cells slots : Nat}
variable {Z : State} {a0 : Array Value} {h h' : Heap} {a b : Addr} {ty : FieldType} {n k : Nat} {f f' : Nat → Value} {v : Value} {sl : Nat} {j x : Int32} {ws : List Addr}
/-- an array of n components, the i-th of which is f i -/
def own_Ar (Z : State) (h : Heap) (a : Addr) (ty : FieldType) (n : Nat) (f : Nat → Value) : Prop := n < 2 ^ 31 ∧ ∃ cl : Cell, Arr Z h a cl ty ∧ cl.slots.size = n ∧ ∀ i, i < n → cl.slots[i]? = some (f i)
def own_up (f : Nat → Value) (k : Nat) (v : Value) : Nat → Value := fun i => if i = k then v else f i
theorem own_Ar.lt (F : own_Ar Z h a ty n f) : a < h.size := by obtain ⟨_, c, A, -⟩ := F; exact A.lt
theorem own_Ar.ext (F : own_Ar Z h a ty n f) (E : Ext h h') : own_Ar Z h' a ty n f := by obtain ⟨q, c, A, r⟩ := F; exact ⟨q, c, A.ext E, r⟩
theorem own_Ar.other (F : own_Ar Z h b ty n f) (W : Wr h h' a sl v) (q : b ≠ a) : own_Ar Z h' b ty n f := by obtain ⟨q', c, A, r⟩ := F; exact ⟨q', c, A.other W q, r⟩
theorem own_Ar.keep (F : own_Ar Z h a ty n f) (K : Keep h h' ws) (q : a ∉ ws) : own_Ar Z h' a ty n f := by obtain ⟨q', c, A, r⟩ := F; exact ⟨q', c, ⟨K.2.1 a c A.1 q, A.2⟩, r⟩
theorem own_Ar.congr (F : own_Ar Z h a ty n f) (q : ∀ i, i < n → f i = f' i) : own_Ar Z h a ty n f' := by obtain ⟨q', c, A, r, H⟩ := F; exact ⟨q', c, A, r, fun i hi => by rw [← q i hi]; exact H i hi⟩
theorem own_in (hj : j.toInt = (k : Int)) (hk : k < n) : ¬ (j < 0 ∨ n ≤ j.toNatClampNeg) ∧ j.toNatClampNeg = k := by
  have h1 : ¬ j < 0 := by rw [Int32.lt_iff_toInt_lt, show (0 : Int32).toInt = 0 from rfl]; omega
  have h2 := nat_of h1
  refine ⟨fun q => ?_, by omega⟩
  rcases q with q | q
  · exact h1 q
  · omega
theorem own_Ar.set (F : own_Ar Z h a ty n f) (W : Wr h h' a k v) (hk : k < n) : own_Ar Z h' a ty n (own_up f k v) := by
  obtain ⟨q, c, A, r, H⟩ := F
  obtain ⟨c', g1, g2, g3, g4, -, g6, g7⟩ := wr_at W A.1
  obtain ⟨g8, g9, -⟩ := g7 rfl
  refine ⟨q, c', ?_, by rw [g4, r], fun i hi => ?_⟩
  · rw [g8]; exact A.same W
  · unfold own_up
    by_cases hik : i = k
    · subst hik; rw [if_pos rfl]; exact g9
    · rw [if_neg hik, g6 i hik]; exact H i hi
theorem own_newP (X : Stand p l e R s m args below meth c T locs cells slots) (hx : p.tables.exec = Jvm.exec) (hZ : Z.Warmed39 s.vm) {aty : ArrayType} (w : (Jvm.Cond.arrayClass (newarray.typeOf aty)).before a0 Z = true) (eT : T.heap = h) {g : JFrame} (hg : g.method = m) (hd : decode c.code g.pc = .ok (.newarray aty, 2)) {rest : List Value} (hs : g.stack = .int j :: rest)
    (hj : j.toInt = (k : Int)) {cap : Nat} (hcap : k ≤ cap) (hb : cap * 8 ≤ 536870912) (hc : cells + 1 ≤ R.cells) (hl : slots + cap ≤ R.slots) :
    ∃ T' h', Stand p l e R s m args below meth c T' locs (cells + 1) (slots + cap) ∧ T'.heap = h' ∧ Ext h h' ∧ own_Ar Z h' h.size (newarray.typeOf aty) k (fun _ => defaultValue (newarray.typeOf aty)) ∧
      ∀ target, Steps p.tables e below (T'.setTop { g with pc := g.pc + 2, stack := .ref h.size :: rest }) target → Steps p.tables e below (T.setTop g) target := by
  have h1 : ¬ j < 0 := by rw [Int32.lt_iff_toInt_lt, show (0 : Int32).toInt = 0 from rfl]; omega
  have h2 : j.toNatClampNeg = k := by have := nat_of h1; omega
  obtain ⟨T', h', cA, X', e', E', A', st⟩ := newP X hx hZ w eT hg hd hs h1 (cap := cap) (by omega) hb hc hl
  refine ⟨T', h', X', e', E', ⟨by have := j.toInt_lt; omega, _, A', by rw [sz_new]; exact h2, fun i hi => ?_⟩, st⟩
  simp only [newA, h2, Array.getElem?_replicate, hi, if_true]
theorem own_stB (X : Stand p l e R s m args below meth c T locs cells slots) (hx : p.tables.exec = Jvm.exec) (hZ : Z.Warmed39 s.vm) (eT : T.heap = h) (A : own_Ar Z h a .byte n f) (hj : j.toInt = (k : Int)) (hk : k < n) {g : JFrame} (hg : g.method = m) {rest : List Value} (hs : g.stack = .int x :: .int j :: .ref a :: rest) (hd : decode c.code g.pc = .ok (.bastore, 1)) :
    ∃ T' h', Stand p l e R s m args below meth c T' (locs ++ [⟨a, k⟩]) cells slots ∧ T'.heap = h' ∧ Wr h h' a k (.int x.toInt8.toInt32) ∧ ∀ target, Steps p.tables e below (T'.setTop { g with pc := g.pc + 1, stack := rest }) target → Steps p.tables e below (T.setTop g) target := by
  obtain ⟨_, cl, Ar, q, _⟩ := A
  obtain ⟨T', h', X', e', W, st⟩ := stB X hx hZ eT Ar (j := j) (x := x) (by rw [q]; exact (own_in hj hk).1) hg hs hd
  rw [(own_in hj hk).2] at X' W
  exact ⟨T', h', X', e', W, st⟩
theorem own_stI (X : Stand p l e R s m args below meth c T locs cells slots) (hx : p.tables.exec = Jvm.exec) (hZ : Z.Warmed39 s.vm) (eT : T.heap = h) (A : own_Ar Z h a .int n f) (hj : j.toInt = (k : Int)) (hk : k < n) {g : JFrame} (hg : g.method = m) {rest : List Value} (hs : g.stack = .int x :: .int j :: .ref a :: rest) (hd : decode c.code g.pc = .ok (.iastore, 1)) :
    ∃ T' h', Stand p l e R s m args below meth c T' (locs ++ [⟨a, k⟩]) cells slots ∧ T'.heap = h' ∧ Wr h h' a k (.int x) ∧ ∀ target, Steps p.tables e below (T'.setTop { g with pc := g.pc + 1, stack := rest }) target → Steps p.tables e below (T.setTop g) target := by
  obtain ⟨_, cl, Ar, q, _⟩ := A
  obtain ⟨T', h', X', e', W, st⟩ := stI X hx hZ eT Ar (j := j) (x := x) (by rw [q]; exact (own_in hj hk).1) hg hs hd
  rw [(own_in hj hk).2] at X' W
  exact ⟨T', h', X', e', W, st⟩
theorem own_stJ {y : Int64} (X : Stand p l e R s m args below meth c T locs cells slots) (hx : p.tables.exec = Jvm.exec) (hZ : Z.Warmed39 s.vm) (eT : T.heap = h) (A : own_Ar Z h a .long n f) (hj : j.toInt = (k : Int)) (hk : k < n) {g : JFrame} (hg : g.method = m) {rest : List Value} (hs : g.stack = .long y :: .int j :: .ref a :: rest) (hd : decode c.code g.pc = .ok (.lastore, 1)) :
    ∃ T' h', Stand p l e R s m args below meth c T' (locs ++ [⟨a, k⟩]) cells slots ∧ T'.heap = h' ∧ Wr h h' a k (.long y) ∧ ∀ target, Steps p.tables e below (T'.setTop { g with pc := g.pc + 1, stack := rest }) target → Steps p.tables e below (T.setTop g) target := by
  obtain ⟨_, cl, Ar, q, _⟩ := A
  obtain ⟨T', h', X', e', W, st⟩ := stJ X hx hZ eT Ar (j := j) (x := y) (by rw [q]; exact (own_in hj hk).1) hg hs hd
  rw [(own_in hj hk).2] at X' W
  exact ⟨T', h', X', e', W, st⟩
theorem own_stC (X : Stand p l e R s m args below meth c T locs cells slots) (hx : p.tables.exec = Jvm.exec) (hZ : Z.Warmed39 s.vm) (eT : T.heap = h) (A : own_Ar Z h a .char n f) (hj : j.toInt = (k : Int)) (hk : k < n) {g : JFrame} (hg : g.method = m) {rest : List Value} (hs : g.stack = .int x :: .int j :: .ref a :: rest) (hd : decode c.code g.pc = .ok (.castore, 1)) :
    ∃ T' h', Stand p l e R s m args below meth c T' (locs ++ [⟨a, k⟩]) cells slots ∧ T'.heap = h' ∧ Wr h h' a k (.int x.toUInt32.toUInt16.toUInt32.toInt32) ∧ ∀ target, Steps p.tables e below (T'.setTop { g with pc := g.pc + 1, stack := rest }) target → Steps p.tables e below (T.setTop g) target := by
  obtain ⟨_, cl, Ar, q, _⟩ := A
  obtain ⟨T', h', X', e', W, st⟩ := stC X hx hZ eT Ar (j := j) (x := x) (by rw [q]; exact (own_in hj hk).1) hg hs hd
  rw [(own_in hj hk).2] at X' W
  exact ⟨T', h', X', e', W, st⟩
theorem own_ldI (X : Stand p l e R s m args below meth c T locs cells slots) (hx : p.tables.exec = Jvm.exec) (hZ : Z.Warmed39 s.vm) (eT : T.heap = h) (A : own_Ar Z h a .int n f) (hj : j.toInt = (k : Int)) (hk : k < n) (hv : f k = v) {g : JFrame} (hg : g.method = m) {rest : List Value} (hs : g.stack = .int j :: .ref a :: rest) (hd : decode c.code g.pc = .ok (.iaload, 1)) (target : State)
    (kt : Steps p.tables e below (T.setTop { g with pc := g.pc + 1, stack := v :: rest }) target) : Steps p.tables e below (T.setTop g) target := by
  obtain ⟨_, cl, Ar, q, H⟩ := A
  exact X.iaload hx (by rw [eT]; exact Ar.1) (State.isArrayOf_alike hZ.alike Ar.2.1) Ar.2.2 (by rw [q]; exact (own_in hj hk).1) (by rw [(own_in hj hk).2, ← hv]; exact H k hk) hg hs hd target kt
theorem own_ldJ (X : Stand p l e R s m args below meth c T locs cells slots) (hx : p.tables.exec = Jvm.exec) (hZ : Z.Warmed39 s.vm) (eT : T.heap = h) (A : own_Ar Z h a .long n f) (hj : j.toInt = (k : Int)) (hk : k < n) (hv : f k = v) {g : JFrame} (hg : g.method = m) {rest : List Value} (hs : g.stack = .int j :: .ref a :: rest) (hd : decode c.code g.pc = .ok (.laload, 1)) (target : State)
    (kt : Steps p.tables e below (T.setTop { g with pc := g.pc + 1, stack := v :: rest }) target) : Steps p.tables e below (T.setTop g) target := by
  obtain ⟨_, cl, Ar, q, H⟩ := A
  exact X.laload hx (by rw [eT]; exact Ar.1) (State.isArrayOf_alike hZ.alike Ar.2.1) Ar.2.2 (by rw [q]; exact (own_in hj hk).1) (by rw [(own_in hj hk).2, ← hv]; exact H k hk) hg hs hd target kt
theorem own_ldB (X : Stand p l e R s m args below meth c T locs cells slots) (hx : p.tables.exec = Jvm.exec) (hZ : Z.Warmed39 s.vm) (eT : T.heap = h) (A : own_Ar Z h a .byte n f) (hj : j.toInt = (k : Int)) (hk : k < n) (hv : f k = v) {g : JFrame} (hg : g.method = m) {rest : List Value} (hs : g.stack = .int j :: .ref a :: rest) (hd : decode c.code g.pc = .ok (.baload, 1)) (target : State)
    (kt : Steps p.tables e below (T.setTop { g with pc := g.pc + 1, stack := v :: rest }) target) : Steps p.tables e below (T.setTop g) target := by
  obtain ⟨_, cl, Ar, q, H⟩ := A
  exact X.baloadBytes hx (by rw [eT]; exact Ar.1) (State.isArrayOf_alike hZ.alike Ar.2.1) Ar.2.2 (by rw [q]; exact (own_in hj hk).1) (by rw [(own_in hj hk).2, ← hv]; exact H k hk) hg hs hd target kt
theorem own_ldC (X : Stand p l e R s m args below meth c T locs cells slots) (hx : p.tables.exec = Jvm.exec) (hZ : Z.Warmed39 s.vm) (eT : T.heap = h) (A : own_Ar Z h a .char n f) (hj : j.toInt = (k : Int)) (hk : k < n) (hv : f k = v) {g : JFrame} (hg : g.method = m) {rest : List Value} (hs : g.stack = .int j :: .ref a :: rest) (hd : decode c.code g.pc = .ok (.caload, 1)) (target : State)
    (kt : Steps p.tables e below (T.setTop { g with pc := g.pc + 1, stack := v :: rest }) target) : Steps p.tables e below (T.setTop g) target := by
  obtain ⟨_, cl, Ar, q, H⟩ := A
  exact X.caload hx (by rw [eT]; exact Ar.1) (State.isArrayOf_alike hZ.alike Ar.2.1) Ar.2.2 (by rw [q]; exact (own_in hj hk).1) (by rw [(own_in hj hk).2, ← hv]; exact H k hk) hg hs hd target kt
theorem own_len (X : Stand p l e R s m args below meth c T locs cells slots) (hx : p.tables.exec = Jvm.exec) (hZ : Z.Warmed39 s.vm) (eT : T.heap = h) (A : own_Ar Z h a ty n f) {g : JFrame} (hg : g.method = m) {rest : List Value} (hs : g.stack = .ref a :: rest) (hd : decode c.code g.pc = .ok (.arraylength, 1)) (target : State)
    (kt : Steps p.tables e below (T.setTop { g with pc := g.pc + 1, stack := .int n.toInt32 :: rest }) target) : Steps p.tables e below (T.setTop g) target := by
  obtain ⟨_, cl, Ar, q, H⟩ := A
  exact X.arraylength hx (by rw [eT]; exact Ar.1) (State.isArrayOf_alike hZ.alike Ar.2.1) hg hs hd target (by rw [q]; exact kt)
end OwnArr


theorem own_addk {j : Int32} {k : Nat} (hj : j.toInt = (k : Int)) (c : Int32) (d : Nat) (hc : c.toInt = (d : Int)) (hk : k + d < 1000000) : (j + c).toInt = ((k + d : Nat) : Int) := by
  rw [Jvm.Kit.i32_add (by rw [hj, hc]; omega) (by rw [hj, hc]; omega), hj, hc]; omega
theorem own_ge1 {x : Int32} (h : 1 ≤ x.toInt ∧ x.toInt ≤ 64) : ¬ x < (1 : Int32) := by rw [Int32.lt_iff_toInt_lt, show (1 : Int32).toInt = 1 from rfl]; omega
theorem own_le64 {x : Int32} (h : 1 ≤ x.toInt ∧ x.toInt ≤ 64) : ¬ (64 : Int32) < x := by rw [Int32.lt_iff_toInt_lt, show (64 : Int32).toInt = 64 from rfl]; omega
def own_na (x : Int32) : Int32 := (1 : Int32) + (x &&& (63 : Int32))
def own_sel (x : Int32) : Int32 := x &&& (3 : Int32)
def own_nb (x y z : Int32) : Int32 := if own_sel z = (1 : Int32) then own_na x else own_na y
theorem own_na_in (x : Int32) : 1 ≤ (own_na x).toInt ∧ (own_na x).toInt ≤ 64 := by
  have e1 : (x &&& (63 : Int32)).toInt = x.toInt % 2 ^ 6 := Jvm.Kit.i32_mask x 63 (k := 6) (by decide) (by decide)
  unfold own_na
  rw [Jvm.Kit.i32_add (by rw [e1, show (1 : Int32).toInt = 1 from rfl]; omega) (by rw [e1, show (1 : Int32).toInt = 1 from rfl]; omega), e1, show (1 : Int32).toInt = 1 from rfl]; omega
theorem own_nb_in (x y z : Int32) : 1 ≤ (own_nb x y z).toInt ∧ (own_nb x y z).toInt ≤ 64 := by
  unfold own_nb; split
  · exact own_na_in x
  · exact own_na_in y
theorem own_na_nat (x : Int32) : (own_na x).toInt = ((own_na x).toInt.toNat : Int) ∧ (own_na x).toInt.toNat ≤ 64 := by have := own_na_in x; omega
theorem own_v1 {x : Int32} {k : Nat} (h : x.toInt = (k : Int)) : ¬ x < (-128 : Int32) := by rw [Int32.lt_iff_toInt_lt, show (-128 : Int32).toInt = -128 from rfl]; omega
theorem own_v2 {x : Int32} {k : Nat} (h : x.toInt = (k : Int)) (hk : k ≤ 64) : ¬ (127 : Int32) < x := by rw [Int32.lt_iff_toInt_lt, show (127 : Int32).toInt = 127 from rfl]; omega
theorem own_kext {h h' : Heap} (K : Keep h h' []) : Ext h h' := ⟨K.1, fun a c q => K.2.1 a c q nin0⟩
def own_Cache (Z : State) (h : Heap) (ca : Addr) : Prop := ∃ cl : Cell, Arr Z h ca cl (.object "java/lang/Integer") ∧ cl.slots.size = 256 ∧ ∀ i, i < 256 → ∃ x : Addr, cl.slots[i]? = some (.ref x) ∧ Exa Z h x "java/lang/Integer"
theorem own_Cache.ext {Z : State} {h h' : Heap} {ca : Addr} (F : own_Cache Z h ca) (E : Ext h h') : own_Cache Z h' ca := by
  obtain ⟨cl, A, q, r⟩ := F
  exact ⟨cl, A.ext E, q, fun i hi => by obtain ⟨x, h1, h2⟩ := r i hi; exact ⟨x, h1, h2.ext E⟩⟩
theorem own_noint {Z : State} {a0 : Array Value} {K : String} {n : Nat} (w1 : (Jvm.Cond.superclass "java/lang/Integer" "java/lang/Number").before a0 Z = true) (w2 : (Jvm.Cond.superclass "java/lang/Number" "java/lang/Object").before a0 Z = true) (w3 : (Jvm.Cond.noSuperclass "java/lang/Object").before a0 Z = true) (wk : (Jvm.Cond.instantiable K n).before a0 Z = true)
    (h1 : "java/lang/Object" ≠ K := by decide) (h2 : "java/lang/Number" ≠ K := by decide) (h3 : "java/lang/Integer" ≠ K := by decide) : ∃ c t, Z.vm.findClass "java/lang/Integer" = some c ∧ Z.vm.findClass K = some t ∧ Z.vm.assignable c t = false := by
  obtain ⟨t, kt, g1, g2, g3, g4, -, -⟩ := Cond.instantiable_spec wk
  have n0 : NS Z "java/lang/Object" K := by
    obtain ⟨c, k, q1, q2, q3, -, -⟩ := Cond.noSuperclass_spec w3
    have ne := ids_ne q1 g1 h1
    refine ⟨c, t, q1, g1, fun fuel => ?_⟩
    cases fuel with
    | zero => rfl
    | succ f => simp [Vm.isSubclassAux, ne, q2, q3]
  obtain ⟨c, t', q1, q2, q3⟩ := NS.step w1 (NS.step w2 n0 h2) h3
  cases g1.symm.trans q2
  obtain ⟨p, k, kp, -, r2, -, -, r5, -, -⟩ := Cond.superclass_spec q1 w1
  have ne := ids_ne q1 g1 h3
  have gi : kt.isInterface = false := by
    cases hk : kt.isInterface
    · rfl
    · rw [hk] at g4; simp at g4
  refine ⟨c, t, q1, g1, ?_⟩
  show Z.vm.assignableAux (255 + 1) c t = false
  simp [Vm.assignableAux, ne, r2, g2, r5, g3, gi, Vm.isSubclass, q3]
theorem own_nat32 {i : Nat} (hi : i < 256) : ∃ j : Int32, ¬ j < 0 ∧ j.toNatClampNeg = i := by
  have e : (Int32.ofNat i).toInt = (i : Int) := Int32.toInt_ofNat_small (by omega)
  have h1 : ¬ Int32.ofNat i < 0 := by rw [Int32.lt_iff_toInt_lt, e, show (0 : Int32).toInt = 0 from rfl]; omega
  exact ⟨_, h1, by have := nat_of h1; omega⟩
theorem own_cache_start {s : State} {a : Array Value} {t : Term} {u : Jvm.Cond} {ca : Addr} (ev : ∀ idx, t.eval a s none idx s = some (.ref ca)) (h1 : (Jvm.Cond.arrayOf t (.object "java/lang/Integer")).value a s none s [] = some true) (h2 : (Term.length t).eval a s none [] s = some (.int 256))
    (h3 : (Jvm.Cond.all t (Jvm.Cond.and (Jvm.Cond.exactly (Term.elem t (Term.index 0)) "java/lang/Integer") u)).value a s none s [] = some true) : own_Cache s s.heap ca := by
  obtain ⟨c, A⟩ := Arr.start (ev []) h1
  have hA := A.fin (Vm.Alike.refl _)
  have hsz : c.slots.size = 256 := by
    by_cases hl : c.slots.size < 2 ^ 31
    · have q := (len_f (ev []) hA hl).symm.trans h2
      have q2 : c.slots.size.toInt32 = 256 := by injection q with q; injection q
      have q3 := len_toInt hl
      rw [q2] at q3
      have : (256 : Int32).toInt = 256 := rfl
      omega
    · exfalso
      simp [Term.eval, ev, hA, hl] at h2
  refine ⟨c, A, hsz, fun i hi => ?_⟩
  obtain ⟨j, nn, rfl⟩ := own_nat32 hi
  obtain ⟨u1, -⟩ := and_e (Cond.all_elim (ev []) hA h3 j.toNatClampNeg (by omega))
  obtain ⟨x, ex⟩ := exa_v u1
  exact ⟨x, (elem_f (ev _) (idx_at nn) hA nn).symm.trans ex, exa_at ex u1⟩

theorem own_d1_0 : decode prog_55_method_2_code 0 = .ok (.aload_n 0, 1) := by decide +kernel
theorem own_d1_1 : decode prog_55_method_2_code 1 = .ok (.invokespecial 9, 3) := by decide +kernel
theorem own_d1_4 : decode prog_55_method_2_code 4 = .ok (.iload_n 1, 1) := by decide +kernel
theorem own_d1_5 : decode prog_55_method_2_code 5 = .ok (.iconst 1, 1) := by decide +kernel
theorem own_d1_6 : decode prog_55_method_2_code 6 = .ok (.if_icmp .lt 9, 3) := by decide +kernel
theorem own_d1_9 : decode prog_55_method_2_code 9 = .ok (.iload_n 1, 1) := by decide +kernel
theorem own_d1_10 : decode prog_55_method_2_code 10 = .ok (.bipush 64, 2) := by decide +kernel
theorem own_d1_12 : decode prog_55_method_2_code 12 = .ok (.if_icmp .le 17, 3) := by decide +kernel
theorem own_d1_15 : decode prog_55_method_2_code 15 = .ok (.new 14, 3) := by decide +kernel
theorem own_d1_18 : decode prog_55_method_2_code 18 = .ok (.dup, 1) := by decide +kernel
theorem own_d1_19 : decode prog_55_method_2_code 19 = .ok (.iload_n 1, 1) := by decide +kernel
theorem own_d1_20 : decode prog_55_method_2_code 20 = .ok (.invokedynamic 16, 5) := by decide +kernel
theorem own_d1_25 : decode prog_55_method_2_code 25 = .ok (.invokespecial 20, 3) := by decide +kernel
theorem own_d1_28 : decode prog_55_method_2_code 28 = .ok (.athrow, 1) := by decide +kernel
theorem own_d1_29 : decode prog_55_method_2_code 29 = .ok (.aload_n 0, 1) := by decide +kernel
theorem own_d1_30 : decode prog_55_method_2_code 30 = .ok (.iload_n 1, 1) := by decide +kernel
theorem own_d1_31 : decode prog_55_method_2_code 31 = .ok (.putfield 23, 3) := by decide +kernel
theorem own_d1_34 : decode prog_55_method_2_code 34 = .ok (.aload_n 0, 1) := by decide +kernel
theorem own_d1_35 : decode prog_55_method_2_code 35 = .ok (.iload_n 2, 1) := by decide +kernel
theorem own_d1_36 : decode prog_55_method_2_code 36 = .ok (.putfield 27, 3) := by decide +kernel
theorem own_d1_39 : decode prog_55_method_2_code 39 = .ok (.return_, 1) := by decide +kernel
theorem own_pn_PropositionalAlgebra : plainName "com/example/predicant/predicant/propositional/PropositionalAlgebra" = true := by first | (simp [plainName, overriddenIn]; done) | decide +kernel
theorem own_ef1 (m : MethodId) (x0 : Addr) (x1 : Int32) (x2 : Int32) : entryFrame m #[(.ref x0), (.int x1), (.int x2)] 3 = mkF m 0 #[.val (.ref x0), .val (.int x1), .val (.int x2)] [] := by first | (simp [entryFrame, mkF, argsToLocals, Value.category, maxLocals]; done) | rfl
theorem own_pd0 : parseMethodDescriptor "()V" = some ⟨[], none⟩ := by decide +kernel
set_option maxRecDepth 65536 in
set_option maxHeartbeats 40000000 in
theorem own_rm_pai (l : Launch) (Z : State) (a0 : Array Value) (hw : ∀ d ∈ tables_1, d.before a0 Z = true) (r0 : Addr) (p1 : Int32) (p2 : Int32) (h0 : Heap) (n0 : Nat) (Z0 : n0 ≤ h0.size) (E0 : Exa Z h0 r0 "com/example/predicant/predicant/propositional/PropositionalAlgebra") (F_m_nVariables : Fld Z h0 r0 "com/example/predicant/predicant/propositional/PropositionalAlgebra" "m_nVariables" "I" (.int (0 : Int32))) (F_m_nBudget : Fld Z h0 r0 "com/example/predicant/predicant/propositional/PropositionalAlgebra" "m_nBudget" "I" (.int (0 : Int32))) (g0 : n0 ≤ r0) (hp : 1 ≤ p1.toInt ∧ p1.toInt ≤ 64) : own_Con l Z [] (⟨"com/example/predicant/predicant/propositional/PropositionalAlgebra", "<init>", "(II)V"⟩ : MethodName) prog_55_method_2_code 3 none ({ frames := 1, cells := 0, slots := 0, locals := 12 } : Room) #[(.ref r0), (.int p1), (.int p2)] h0 (fun v h L => v = none ∧ Fr n0 L ∧ Keep h0 h [r0] ∧ Fld Z h r0 "com/example/predicant/predicant/propositional/PropositionalAlgebra" "m_nVariables" "I" (.int p1)) := by
  refine own_body (plainFor_of_name own_pn_PropositionalAlgebra) ?_
  intro p e s m below meth c s₁ X0 hx hby hml hret hlk hown hnm hZ e0
  have N0 := Fr.nil n0
  have K0 : Keep h0 h0 [r0] := Keep.refl _ _
  refine oS (u' := s₁.setTop (mkF m 0 #[.val (.ref r0), .val (.int p1), .val (.int p2)] [])) (fun _ kst => castTop (own_ef1 m r0 p1 p2) kst) ?_
  refine oS (u' := s₁.setTop (mkF m 1 #[.val (.ref r0), .val (.int p1), .val (.int p2)] [(.ref r0)])) (fun _ kst => XS.aloadN X0.here hx rfl (hb hby own_d1_0) rfl rfl kst) ?_
  obtain ⟨T1, X1, e1, st1⟩ := initO X0 hx hZ hown (hw _ (List.mem_of_getElem? (i := 6) rfl)) (hw _ (List.mem_of_getElem? (i := 7) rfl)) (hw _ (List.mem_of_getElem? (i := 8) rfl)) e0 (g := (mkF m 1 #[.val (.ref r0), .val (.int p1), .val (.int p2)] [(.ref r0)])) rfl (by rw [hml]; rfl) rfl (hb hby own_d1_1) (by decide) (W := 0) (by show 2 * 0 + _ ≤ _; exact Nat.le_of_eq rfl) (by decide)
  refine oS (u' := T1.setTop (mkF m 4 #[.val (.ref r0), .val (.int p1), .val (.int p2)] [])) st1 ?_
  refine oS (u' := T1.setTop (mkF m 5 #[.val (.ref r0), .val (.int p1), .val (.int p2)] [(.int p1)])) (fun _ kst => XS.iloadN X1.here hx rfl (hb hby own_d1_4) rfl kst) ?_
  refine oS (u' := T1.setTop (mkF m 6 #[.val (.ref r0), .val (.int p1), .val (.int p2)] [(.int (1 : Int32)), (.int p1)])) (fun _ kst => XS.iconst X1.here hx rfl (hb hby own_d1_5) kst) ?_
  refine oS (u' := T1.setTop (mkF m 9 #[.val (.ref r0), .val (.int p1), .val (.int p2)] [])) (fun _ kst => XS.icmpNo X1.here hx rfl (hb hby own_d1_6) rfl (flt (own_ge1 hp)).1 kst) ?_
  refine oS (u' := T1.setTop (mkF m 10 #[.val (.ref r0), .val (.int p1), .val (.int p2)] [(.int p1)])) (fun _ kst => XS.iloadN X1.here hx rfl (hb hby own_d1_9) rfl kst) ?_
  refine oS (u' := T1.setTop (mkF m 12 #[.val (.ref r0), .val (.int p1), .val (.int p2)] [(.int (64 : Int32)), (.int p1)])) (fun _ kst => XS.bipush X1.here hx rfl (hb hby own_d1_10) kst) ?_
  refine oS (u' := T1.setTop (mkF m 29 #[.val (.ref r0), .val (.int p1), .val (.int p2)] [])) (fun _ kst => XS.icmpYes X1.here hx rfl (pc0 := 12) (pc' := 29) rfl (hb hby own_d1_12) rfl (flt (own_le64 hp)).2.2.2 (by decide) (by decide) kst) ?_
  refine oS (u' := T1.setTop (mkF m 30 #[.val (.ref r0), .val (.int p1), .val (.int p2)] [(.ref r0)])) (fun _ kst => XS.aloadN X1.here hx rfl (hb hby own_d1_29) rfl rfl kst) ?_
  refine oS (u' := T1.setTop (mkF m 31 #[.val (.ref r0), .val (.int p1), .val (.int p2)] [(.int p1), (.ref r0)])) (fun _ kst => XS.iloadN X1.here hx rfl (hb hby own_d1_30) rfl kst) ?_
  obtain ⟨T2, h2, X2, e2, W2, st2⟩ := putF X1 hx hZ hown (host := "") (Or.inl (hw _ (List.mem_of_getElem? (i := 9) rfl))) Via.refl e1 F_m_nVariables E0 (Or.inr ⟨(hw _ (List.mem_of_getElem? (i := 10) rfl)), rfl, hnm⟩) (hw _ (List.mem_of_getElem? (i := 1) rfl)) (ty := .int) (by decide) rfl rfl (g := (mkF m 31 #[.val (.ref r0), .val (.int p1), .val (.int p2)] [(.int p1), (.ref r0)])) rfl rfl (hb hby own_d1_31)
  have f2_E_r0 := E0.wr W2
  have f2_F_r0_m_nVariables := F_m_nVariables.same W2
  have f2_F_r0_m_nBudget := F_m_nBudget.other W2 (Or.inr (slot_ne (Or.inr (hw _ (List.mem_of_getElem? (i := 12) rfl))) (Or.inr (hw _ (List.mem_of_getElem? (i := 10) rfl))) (by decide) (t := .int) (t' := .int) (by decide) (by decide)))
  have K2 := K0.wr W2 (Or.inl (List.mem_of_getElem? (i := 0) rfl))
  have Z2 := Nat.le_trans Z0 (Keep.of_wr W2).1
  have N2 := Fr.snoc X2 N0 g0
  refine oS (u' := T2.setTop (mkF m 34 #[.val (.ref r0), .val (.int p1), .val (.int p2)] [])) st2 ?_
  refine oS (u' := T2.setTop (mkF m 35 #[.val (.ref r0), .val (.int p1), .val (.int p2)] [(.ref r0)])) (fun _ kst => XS.aloadN X2.here hx rfl (hb hby own_d1_34) rfl rfl kst) ?_
  refine oS (u' := T2.setTop (mkF m 36 #[.val (.ref r0), .val (.int p1), .val (.int p2)] [(.int p2), (.ref r0)])) (fun _ kst => XS.iloadN X2.here hx rfl (hb hby own_d1_35) rfl kst) ?_
  obtain ⟨T3, h3, X3, e3, W3, st3⟩ := putF X2 hx hZ hown (host := "") (Or.inl (hw _ (List.mem_of_getElem? (i := 11) rfl))) Via.refl e2 f2_F_r0_m_nBudget f2_E_r0 (Or.inr ⟨(hw _ (List.mem_of_getElem? (i := 12) rfl)), rfl, hnm⟩) (hw _ (List.mem_of_getElem? (i := 1) rfl)) (ty := .int) (by decide) rfl rfl (g := (mkF m 36 #[.val (.ref r0), .val (.int p1), .val (.int p2)] [(.int p2), (.ref r0)])) rfl rfl (hb hby own_d1_36)
  have f3_E_r0 := f2_E_r0.wr W3
  have f3_F_r0_m_nVariables := f2_F_r0_m_nVariables.other W3 (Or.inr (slot_ne (Or.inr (hw _ (List.mem_of_getElem? (i := 10) rfl))) (Or.inr (hw _ (List.mem_of_getElem? (i := 12) rfl))) (by decide) (t := .int) (t' := .int) (by decide) (by decide)))
  have f3_F_r0_m_nBudget := f2_F_r0_m_nBudget.same W3
  have K3 := K2.wr W3 (Or.inl (List.mem_of_getElem? (i := 0) rfl))
  have Z3 := Nat.le_trans Z2 (Keep.of_wr W3).1
  have N3 := Fr.snoc X3 N2 g0
  refine oS (u' := T3.setTop (mkF m 39 #[.val (.ref r0), .val (.int p1), .val (.int p2)] [])) st3 ?_
  refine own_ret0 X3 hx hlk hret (hb hby own_d1_39) ?_ (by decide) (by decide)
  show _ ∧ _
  rw [e3]
  exact ⟨rfl, N3, K3, f3_F_r0_m_nVariables⟩
theorem own_d2_0 : decode prog_55_method_20_code 0 = .ok (.aload_n 1, 1) := by decide +kernel
theorem own_d2_1 : decode prog_55_method_20_code 1 = .ok (.instanceof 3, 3) := by decide +kernel
theorem own_d2_4 : decode prog_55_method_20_code 4 = .ok (.ifCond .eq 21, 3) := by decide +kernel
theorem own_d2_7 : decode prog_55_method_20_code 7 = .ok (.aload_n 0, 1) := by decide +kernel
theorem own_d2_8 : decode prog_55_method_20_code 8 = .ok (.getfield 23, 3) := by decide +kernel
theorem own_d2_11 : decode prog_55_method_20_code 11 = .ok (.aload_n 1, 1) := by decide +kernel
theorem own_d2_12 : decode prog_55_method_20_code 12 = .ok (.checkcast 3, 3) := by decide +kernel
theorem own_d2_15 : decode prog_55_method_20_code 15 = .ok (.getfield 23, 3) := by decide +kernel
theorem own_d2_18 : decode prog_55_method_20_code 18 = .ok (.if_icmp .ne 7, 3) := by decide +kernel
theorem own_d2_21 : decode prog_55_method_20_code 21 = .ok (.iconst 1, 1) := by decide +kernel
theorem own_d2_22 : decode prog_55_method_20_code 22 = .ok (.goto 4, 3) := by decide +kernel
theorem own_d2_25 : decode prog_55_method_20_code 25 = .ok (.iconst 0, 1) := by decide +kernel
theorem own_d2_26 : decode prog_55_method_20_code 26 = .ok (.ireturn, 1) := by decide +kernel
theorem own_ef2 (m : MethodId) (x0 : Addr) (x1 : Addr) : entryFrame m #[(.ref x0), (.ref x1)] 2 = mkF m 0 #[.val (.ref x0), .val (.ref x1)] [] := by first | (simp [entryFrame, mkF, argsToLocals, Value.category, maxLocals]; done) | rfl
def own_pe (r0 : Addr) (p1 : Addr) (n1 : Int32) (n2 : Int32) : Int32 := (if n1 = n2 then ((1 : Int32) &&& 1) else ((0 : Int32) &&& 1))
set_option maxRecDepth 65536 in
set_option maxHeartbeats 40000000 in
theorem own_rm_pe (l : Launch) (Z : State) (a0 : Array Value) (hw : ∀ d ∈ tables_1, d.before a0 Z = true) (r0 : Addr) (p1 : Addr) (n1 : Int32) (n2 : Int32) (h0 : Heap) (E1 : Exa Z h0 p1 "com/example/predicant/predicant/propositional/PropositionalAlgebra") (F0 : Fld Z h0 r0 "com/example/predicant/predicant/propositional/PropositionalAlgebra" "m_nVariables" "I" (.int n1)) (F1 : Fld Z h0 p1 "com/example/predicant/predicant/propositional/PropositionalAlgebra" "m_nVariables" "I" (.int n2)) : own_Con l Z [] (⟨"com/example/predicant/predicant/propositional/PropositionalAlgebra", "equals", "(Ljava/lang/Object;)Z"⟩ : MethodName) prog_55_method_20_code 2 (some .boolean) ({ frames := 0, cells := 0, slots := 0, locals := 0 } : Room) #[(.ref r0), (.ref p1)] h0 (own_Q1 (some (.int (own_pe r0 p1 n1 n2))) h0) := by
  refine own_body (plainFor_of_name own_pn_PropositionalAlgebra) ?_
  intro p e s m below meth c s₁ X0 hx hby hml hret hlk hown hnm hZ e0
  refine oS (u' := s₁.setTop (mkF m 0 #[.val (.ref r0), .val (.ref p1)] [])) (fun _ kst => castTop (own_ef2 m r0 p1) kst) ?_
  refine oS (u' := s₁.setTop (mkF m 1 #[.val (.ref r0), .val (.ref p1)] [(.ref p1)])) (fun _ kst => XS.aloadN X0.here hx rfl (hb hby own_d2_0) rfl rfl kst) ?_
  obtain ⟨T4, X4, e4, st4⟩ := instY X0 hx hZ hown (hw _ (List.mem_of_getElem? (i := 18) rfl)) e0 (Ins.self E1) (g := (mkF m 1 #[.val (.ref r0), .val (.ref p1)] [(.ref p1)])) rfl rfl (hb hby own_d2_1)
  refine oS (u' := T4.setTop (mkF m 4 #[.val (.ref r0), .val (.ref p1)] [(.int (1 : Int32))])) st4 ?_
  refine oS (u' := T4.setTop (mkF m 7 #[.val (.ref r0), .val (.ref p1)] [])) (fun _ kst => XS.ifNo X4.here hx rfl (hb hby own_d2_4) rfl ((if0 _ _).trans (feq (by decide : ¬ ((1 : Int32) = (0 : Int32)))).1) kst) ?_
  refine oS (u' := T4.setTop (mkF m 8 #[.val (.ref r0), .val (.ref p1)] [(.ref r0)])) (fun _ kst => XS.aloadN X4.here hx rfl (hb hby own_d2_7) rfl rfl kst) ?_
  obtain ⟨T5, X5, e5, st5⟩ := getF X4 hx hZ hown (host := "") (Or.inl (hw _ (List.mem_of_getElem? (i := 9) rfl))) Via.refl e4 F0 (g := (mkF m 8 #[.val (.ref r0), .val (.ref p1)] [(.ref r0)])) rfl rfl (hb hby own_d2_8)
  refine oS (u' := T5.setTop (mkF m 11 #[.val (.ref r0), .val (.ref p1)] [(.int n1)])) st5 ?_
  refine oS (u' := T5.setTop (mkF m 12 #[.val (.ref r0), .val (.ref p1)] [(.ref p1), (.int n1)])) (fun _ kst => XS.aloadN X5.here hx rfl (hb hby own_d2_11) rfl rfl kst) ?_
  obtain ⟨T6, X6, e6, st6⟩ := castY X5 hx hZ hown (hw _ (List.mem_of_getElem? (i := 18) rfl)) e5 (Ins.self E1) (g := (mkF m 12 #[.val (.ref r0), .val (.ref p1)] [(.ref p1), (.int n1)])) rfl rfl (hb hby own_d2_12)
  refine oS (u' := T6.setTop (mkF m 15 #[.val (.ref r0), .val (.ref p1)] [(.ref p1), (.int n1)])) st6 ?_
  obtain ⟨T7, X7, e7, st7⟩ := getF X6 hx hZ hown (host := "") (Or.inl (hw _ (List.mem_of_getElem? (i := 9) rfl))) Via.refl e6 F1 (g := (mkF m 15 #[.val (.ref r0), .val (.ref p1)] [(.ref p1), (.int n1)])) rfl rfl (hb hby own_d2_15)
  refine oS (u' := T7.setTop (mkF m 18 #[.val (.ref r0), .val (.ref p1)] [(.int n2), (.int n1)])) st7 ?_
  by_cases hc8 : n1 = n2
  · refine oS (u' := T7.setTop (mkF m 21 #[.val (.ref r0), .val (.ref p1)] [])) (fun _ kst => XS.icmpNo X7.here hx rfl (hb hby own_d2_18) rfl (teq hc8).2 kst) ?_
    refine oS (u' := T7.setTop (mkF m 22 #[.val (.ref r0), .val (.ref p1)] [(.int (1 : Int32))])) (fun _ kst => XS.iconst X7.here hx rfl (hb hby own_d2_21) kst) ?_
    refine oS (u' := T7.setTop (mkF m 26 #[.val (.ref r0), .val (.ref p1)] [(.int (1 : Int32))])) (fun _ kst => XS.goto X7.here hx rfl (pc0 := 22) (pc' := 26) rfl (hb hby own_d2_22) (by decide) (by decide) kst) ?_
    refine own_retN X7 hx hlk (t := .boolean) hret (by simp) (hb hby own_d2_26) ?_ (by decide) (by decide)
    exact ⟨(by show (some (.int ((1 : Int32) &&& 1)) : Option Value) = _; unfold own_pe; rw [if_pos hc8]), e7, rfl⟩
  · refine oS (u' := T7.setTop (mkF m 25 #[.val (.ref r0), .val (.ref p1)] [])) (fun _ kst => XS.icmpYes X7.here hx rfl (pc0 := 18) (pc' := 25) rfl (hb hby own_d2_18) rfl (feq hc8).2 (by decide) (by decide) kst) ?_
    refine oS (u' := T7.setTop (mkF m 26 #[.val (.ref r0), .val (.ref p1)] [(.int (0 : Int32))])) (fun _ kst => XS.iconst X7.here hx rfl (hb hby own_d2_25) kst) ?_
    refine own_retN X7 hx hlk (t := .boolean) hret (by simp) (hb hby own_d2_26) ?_ (by decide) (by decide)
    exact ⟨(by show (some (.int ((0 : Int32) &&& 1)) : Option Value) = _; unfold own_pe; rw [if_neg hc8]), e7, rfl⟩
set_option maxRecDepth 65536 in
set_option maxHeartbeats 40000000 in
theorem own_rm_pe2 (l : Launch) (Z : State) (a0 : Array Value) (hw : ∀ d ∈ tables_1, d.before a0 Z = true) (r0 : Addr) (p1 : Addr) (h0 : Heap) (E1 : Exa Z h0 p1 "java/lang/Integer") : own_Con l Z [] (⟨"com/example/predicant/predicant/propositional/PropositionalAlgebra", "equals", "(Ljava/lang/Object;)Z"⟩ : MethodName) prog_55_method_20_code 2 (some .boolean) ({ frames := 0, cells := 0, slots := 0, locals := 0 } : Room) #[(.ref r0), (.ref p1)] h0 (own_Q1 (some (.int (0 : Int32))) h0) := by
  refine own_body (plainFor_of_name own_pn_PropositionalAlgebra) ?_
  intro p e s m below meth c s₁ X0 hx hby hml hret hlk hown hnm hZ e0
  refine oS (u' := s₁.setTop (mkF m 0 #[.val (.ref r0), .val (.ref p1)] [])) (fun _ kst => castTop (own_ef2 m r0 p1) kst) ?_
  refine oS (u' := s₁.setTop (mkF m 1 #[.val (.ref r0), .val (.ref p1)] [(.ref p1)])) (fun _ kst => XS.aloadN X0.here hx rfl (hb hby own_d2_0) rfl rfl kst) ?_
  obtain ⟨T9, X9, e9, st9⟩ := instNo X0 hx hZ hown (hw _ (List.mem_of_getElem? (i := 18) rfl)) e0 E1 (own_noint (hw _ (List.mem_of_getElem? (i := 27) rfl)) (hw _ (List.mem_of_getElem? (i := 28) rfl)) (hw _ (List.mem_of_getElem? (i := 29) rfl)) (hw _ (List.mem_of_getElem? (i := 1) rfl))) (g := (mkF m 1 #[.val (.ref r0), .val (.ref p1)] [(.ref p1)])) rfl rfl (hb hby own_d2_1)
  refine oS (u' := T9.setTop (mkF m 4 #[.val (.ref r0), .val (.ref p1)] [(.int (0 : Int32))])) st9 ?_
  refine oS (u' := T9.setTop (mkF m 25 #[.val (.ref r0), .val (.ref p1)] [])) (fun _ kst => XS.ifYes X9.here hx rfl (pc0 := 4) (pc' := 25) rfl (hb hby own_d2_4) rfl ((if0 _ _).trans (teq (by decide : (0 : Int32) = (0 : Int32))).1) (by decide) (by decide) kst) ?_
  refine oS (u' := T9.setTop (mkF m 26 #[.val (.ref r0), .val (.ref p1)] [(.int (0 : Int32))])) (fun _ kst => XS.iconst X9.here hx rfl (hb hby own_d2_25) kst) ?_
  refine own_retN X9 hx hlk (t := .boolean) hret (by simp) (hb hby own_d2_26) ?_ (by decide) (by decide)
  exact ⟨rfl, e9, rfl⟩
theorem own_ef23 (m : MethodId) (x0 : Addr) : entryFrame m #[(.ref x0), .null] 2 = mkF m 0 #[.val (.ref x0), .val .null] [] := by first | (simp [entryFrame, mkF, argsToLocals, Value.category, maxLocals]; done) | rfl
set_option maxRecDepth 65536 in
set_option maxHeartbeats 40000000 in
theorem own_rm_pe3 (l : Launch) (Z : State) (a0 : Array Value) (hw : ∀ d ∈ tables_1, d.before a0 Z = true) (r0 : Addr) (h0 : Heap) : own_Con l Z [] (⟨"com/example/predicant/predicant/propositional/PropositionalAlgebra", "equals", "(Ljava/lang/Object;)Z"⟩ : MethodName) prog_55_method_20_code 2 (some .boolean) ({ frames := 0, cells := 0, slots := 0, locals := 0 } : Room) #[(.ref r0), .null] h0 (own_Q1 (some (.int (0 : Int32))) h0) := by
  refine own_body (plainFor_of_name own_pn_PropositionalAlgebra) ?_
  intro p e s m below meth c s₁ X0 hx hby hml hret hlk hown hnm hZ e0
  refine oS (u' := s₁.setTop (mkF m 0 #[.val (.ref r0), .val .null] [])) (fun _ kst => castTop (own_ef23 m r0) kst) ?_
  refine oS (u' := s₁.setTop (mkF m 1 #[.val (.ref r0), .val .null] [.null])) (fun _ kst => XS.aloadN X0.here hx rfl (hb hby own_d2_0) rfl rfl kst) ?_
  refine oS (u' := s₁.setTop (mkF m 4 #[.val (.ref r0), .val .null] [(.int (0 : Int32))])) (fun _ kst => X0.instanceofNull hx (g := (mkF m 1 #[.val (.ref r0), .val .null] [.null])) rfl rfl (hb hby own_d2_1) _ kst) ?_
  refine oS (u' := s₁.setTop (mkF m 25 #[.val (.ref r0), .val .null] [])) (fun _ kst => XS.ifYes X0.here hx rfl (pc0 := 4) (pc' := 25) rfl (hb hby own_d2_4) rfl ((if0 _ _).trans (teq (by decide : (0 : Int32) = (0 : Int32))).1) (by decide) (by decide) kst) ?_
  refine oS (u' := s₁.setTop (mkF m 26 #[.val (.ref r0), .val .null] [(.int (0 : Int32))])) (fun _ kst => XS.iconst X0.here hx rfl (hb hby own_d2_25) kst) ?_
  refine own_retN X0 hx hlk (t := .boolean) hret (by simp) (hb hby own_d2_26) ?_ (by decide) (by decide)
  exact ⟨rfl, e0, rfl⟩
theorem own_d3_0 : decode jdk_33_method_22_code 0 = .ok (.iload_n 0, 1) := by decide +kernel
theorem own_d3_1 : decode jdk_33_method_22_code 1 = .ok (.bipush (-128), 2) := by decide +kernel
theorem own_d3_3 : decode jdk_33_method_22_code 3 = .ok (.if_icmp .lt 20, 3) := by decide +kernel
theorem own_d3_6 : decode jdk_33_method_22_code 6 = .ok (.iload_n 0, 1) := by decide +kernel
theorem own_d3_7 : decode jdk_33_method_22_code 7 = .ok (.getstatic 191, 3) := by decide +kernel
theorem own_d3_10 : decode jdk_33_method_22_code 10 = .ok (.if_icmp .gt 13, 3) := by decide +kernel
theorem own_d3_13 : decode jdk_33_method_22_code 13 = .ok (.getstatic 195, 3) := by decide +kernel
theorem own_d3_16 : decode jdk_33_method_22_code 16 = .ok (.iload_n 0, 1) := by decide +kernel
theorem own_d3_17 : decode jdk_33_method_22_code 17 = .ok (.sipush 128, 3) := by decide +kernel
theorem own_d3_20 : decode jdk_33_method_22_code 20 = .ok (.iadd, 1) := by decide +kernel
theorem own_d3_21 : decode jdk_33_method_22_code 21 = .ok (.aaload, 1) := by decide +kernel
theorem own_d3_22 : decode jdk_33_method_22_code 22 = .ok (.areturn, 1) := by decide +kernel
theorem own_d3_23 : decode jdk_33_method_22_code 23 = .ok (.new 1, 3) := by decide +kernel
theorem own_d3_26 : decode jdk_33_method_22_code 26 = .ok (.dup, 1) := by decide +kernel
theorem own_d3_27 : decode jdk_33_method_22_code 27 = .ok (.iload_n 0, 1) := by decide +kernel
theorem own_d3_28 : decode jdk_33_method_22_code 28 = .ok (.invokespecial 199, 3) := by decide +kernel
theorem own_d3_31 : decode jdk_33_method_22_code 31 = .ok (.areturn, 1) := by decide +kernel
theorem own_pn_Integer : plainName "java/lang/Integer" = true := by first | (simp [plainName, overriddenIn]; done) | decide +kernel
theorem own_ef3 (m : MethodId) (x0 : Int32) : entryFrame m #[(.int x0)] 1 = mkF m 0 #[.val (.int x0)] [] := by first | (simp [entryFrame, mkF, argsToLocals, Value.category, maxLocals]; done) | rfl
set_option maxRecDepth 65536 in
set_option maxHeartbeats 40000000 in
theorem own_rm_vo (l : Launch) (Z : State) (a0 : Array Value) (hw : ∀ d ∈ tables_1, d.before a0 Z = true) (p1 : Int32) (ca : Addr) (k : Nat) (h0 : Heap) (SH : Sta Z h0 "java/lang/Integer$IntegerCache" "high" "I" (.int (127 : Int32))) (SC : Sta Z h0 "java/lang/Integer$IntegerCache" "cache" "[Ljava/lang/Integer;" (.ref ca)) (CA : own_Cache Z h0 ca) (hj : p1.toInt = (k : Int)) (hk : k ≤ 64) : own_Con l Z [] (⟨"java/lang/Integer", "valueOf", "(I)Ljava/lang/Integer;"⟩ : MethodName) jdk_33_method_22_code 1 (some (.object "java/lang/Integer")) ({ frames := 0, cells := 0, slots := 0, locals := 0 } : Room) #[(.int p1)] h0 (fun v h L => ∃ z : Addr, v = some (.ref z) ∧ h = h0 ∧ L = [] ∧ Exa Z h0 z "java/lang/Integer") := by
  refine own_body (plainFor_of_name own_pn_Integer) ?_
  intro p e s m below meth c s₁ X0 hx hby hml hret hlk hown hnm hZ e0
  refine oS (u' := s₁.setTop (mkF m 0 #[.val (.int p1)] [])) (fun _ kst => castTop (own_ef3 m p1) kst) ?_
  refine oS (u' := s₁.setTop (mkF m 1 #[.val (.int p1)] [(.int p1)])) (fun _ kst => XS.iloadN X0.here hx rfl (hb hby own_d3_0) rfl kst) ?_
  refine oS (u' := s₁.setTop (mkF m 3 #[.val (.int p1)] [(.int (-128 : Int32)), (.int p1)])) (fun _ kst => XS.bipush X0.here hx rfl (hb hby own_d3_1) kst) ?_
  refine oS (u' := s₁.setTop (mkF m 6 #[.val (.int p1)] [])) (fun _ kst => XS.icmpNo X0.here hx rfl (hb hby own_d3_3) rfl (flt (own_v1 hj)).1 kst) ?_
  refine oS (u' := s₁.setTop (mkF m 7 #[.val (.int p1)] [(.int p1)])) (fun _ kst => XS.iloadN X0.here hx rfl (hb hby own_d3_6) rfl kst) ?_
  obtain ⟨T10, X10, e10, st10⟩ := getS2 X0 hx hZ hown (host := "") (Or.inl (hw _ (List.mem_of_getElem? (i := 24) rfl))) Via.refl e0 SH (g := (mkF m 7 #[.val (.int p1)] [(.int p1)])) rfl (hb hby own_d3_7)
  refine oS (u' := T10.setTop (mkF m 10 #[.val (.int p1)] [(.int (127 : Int32)), (.int p1)])) st10 ?_
  refine oS (u' := T10.setTop (mkF m 13 #[.val (.int p1)] [])) (fun _ kst => XS.icmpNo X10.here hx rfl (hb hby own_d3_10) rfl (flt (own_v2 hj hk)).2.2.1 kst) ?_
  obtain ⟨T11, X11, e11, st11⟩ := getS2 X10 hx hZ hown (host := "") (Or.inl (hw _ (List.mem_of_getElem? (i := 26) rfl))) Via.refl e10 SC (g := (mkF m 13 #[.val (.int p1)] [])) rfl (hb hby own_d3_13)
  refine oS (u' := T11.setTop (mkF m 16 #[.val (.int p1)] [(.ref ca)])) st11 ?_
  refine oS (u' := T11.setTop (mkF m 17 #[.val (.int p1)] [(.int p1), (.ref ca)])) (fun _ kst => XS.iloadN X11.here hx rfl (hb hby own_d3_16) rfl kst) ?_
  refine oS (u' := T11.setTop (mkF m 20 #[.val (.int p1)] [(.int (128 : Int32)), (.int p1), (.ref ca)])) (fun _ kst => XS.sipush X11.here hx rfl (hb hby own_d3_17) kst) ?_
  refine oS (u' := T11.setTop (mkF m 21 #[.val (.int p1)] [(.int (p1 + (128 : Int32))), (.ref ca)])) (fun _ kst => XS.iadd X11.here hx rfl (hb hby own_d3_20) rfl kst) ?_
  obtain ⟨cl, ArC, szC, elC⟩ := CA
  obtain ⟨z, hz, EZ⟩ := elC (k + 128) (by omega)
  have hin := own_in (n := 256) (own_addk hj 128 128 rfl (by omega)) (by omega : k + 128 < 256)
  refine oS (u' := T11.setTop (mkF m 22 #[.val (.int p1)] [(.ref z)])) (fun _ kst => X11.aaload hx (by rw [e11]; exact ArC.1) (State.isArrayOf_alike hZ.alike ArC.2.1) rfl ArC.2.2 (by rw [szC]; exact hin.1) (by rw [hin.2]; exact hz) (g := (mkF m 21 #[.val (.int p1)] [(.int (p1 + (128 : Int32))), (.ref ca)])) rfl rfl (hb hby own_d3_21) _ kst) ?_
  refine own_retA X11 hx hlk hret rfl rfl (hb hby own_d3_22) ?_ (by decide) (by decide)
  exact ⟨z, rfl, e11, rfl, EZ⟩
theorem own_psym (a b : Addr) (x y : Int32) : own_pe a b x y = own_pe b a y x := by
  unfold own_pe
  by_cases h : x = y
  · rw [if_pos h, if_pos h.symm]
  · rw [if_neg h, if_neg (fun q => h q.symm)]
theorem own_pgot (a b : Addr) (x y : Int32) : own_pe a b x y = (if x = y then (1 : Int32) else (0 : Int32)) := by
  unfold own_pe
  by_cases h : x = y
  · rw [if_pos h, if_pos h]; rfl
  · rw [if_neg h, if_neg h]; rfl

theorem own_pn_PropositionalAlgebraEqualsPinLaw : plainName "com/example/predicant/predicant/propositional/PropositionalAlgebraEqualsPinLaw" = true := by first | (simp [plainName, overriddenIn]; done) | decide +kernel
theorem own_ef0 (m : MethodId) (x0 : Int32) (x1 : Int32) (x2 : Int32) (x3 : Int32) (x4 : Int32) : entryFrame m #[(.int x0), (.int x1), (.int x2), (.int x3), (.int x4)] maxLocals = mkF m 0 #[.val (.int x0), .val (.int x1), .val (.int x2), .val (.int x3), .val (.int x4), .unset, .unset, .unset, .unset, .unset, .unset, .unset, .unset, .unset, .unset] [] := by first | (simp [entryFrame, mkF, argsToLocals, Value.category, maxLocals]; done) | rfl
theorem own_pd1 : parseMethodDescriptor "(II)V" = some ⟨[.int, .int], none⟩ := by decide +kernel
theorem own_pd2 : parseMethodDescriptor "(I)Ljava/lang/Integer;" = some ⟨[.int], some (.object "java/lang/Integer")⟩ := by decide +kernel
theorem own_pd3 : parseMethodDescriptor "(Ljava/lang/Object;)Z" = some ⟨[(.object "java/lang/Object")], some .boolean⟩ := by decide +kernel
set_option maxRecDepth 65536 in
set_option maxHeartbeats 40000000 in
theorem own_law (l : Launch) (Z : State) (a0 : Array Value) (hw : ∀ d ∈ tables_1, d.before a0 Z = true) (p1 : Int32) (p2 : Int32) (p3 : Int32) (p4 : Int32) (p5 : Int32) (ca : Addr) (h0 : Heap) (n0 : Nat) (Z0 : n0 ≤ h0.size) (SH : Sta Z h0 "java/lang/Integer$IntegerCache" "high" "I" (.int (127 : Int32))) (SC : Sta Z h0 "java/lang/Integer$IntegerCache" "cache" "[Ljava/lang/Integer;" (.ref ca)) (CA : own_Cache Z h0 ca) : own_Con l Z tables_1 x code maxLocals ret room_1 #[(.int p1), (.int p2), (.int p3), (.int p4), (.int p5)] h0 (fun v _ L => v = some (.int (1 : Int32)) ∧ Fr n0 L) := by
  refine own_body (plainFor_of_name own_pn_PropositionalAlgebraEqualsPinLaw) ?_
  intro p e s m below meth c s₁ X0 hx hby hml hret hlk hown hnm hZ e0
  have K0 : Keep h0 h0 [] := Keep.refl _ _
  have N0 := Fr.nil n0
  refine oS (u' := s₁.setTop (mkF m 0 #[.val (.int p1), .val (.int p2), .val (.int p3), .val (.int p4), .val (.int p5), .unset, .unset, .unset, .unset, .unset, .unset, .unset, .unset, .unset, .unset] [])) (fun _ kst => castTop (own_ef0 m p1 p2 p3 p4 p5) kst) ?_
  refine oS (u' := s₁.setTop (mkF m 1 #[.val (.int p1), .val (.int p2), .val (.int p3), .val (.int p4), .val (.int p5), .unset, .unset, .unset, .unset, .unset, .unset, .unset, .unset, .unset, .unset] [(.int (1 : Int32))])) (fun _ kst => XS.iconst X0.here hx rfl (hb hby at_0) kst) ?_
  refine oS (u' := s₁.setTop (mkF m 2 #[.val (.int p1), .val (.int p2), .val (.int p3), .val (.int p4), .val (.int p5), .unset, .unset, .unset, .unset, .unset, .unset, .unset, .unset, .unset, .unset] [(.int p1), (.int (1 : Int32))])) (fun _ kst => XS.iloadN X0.here hx rfl (hb hby at_1) rfl kst) ?_
  refine oS (u' := s₁.setTop (mkF m 4 #[.val (.int p1), .val (.int p2), .val (.int p3), .val (.int p4), .val (.int p5), .unset, .unset, .unset, .unset, .unset, .unset, .unset, .unset, .unset, .unset] [(.int (63 : Int32)), (.int p1), (.int (1 : Int32))])) (fun _ kst => XS.bipush X0.here hx rfl (hb hby at_2) kst) ?_
  refine oS (u' := s₁.setTop (mkF m 5 #[.val (.int p1), .val (.int p2), .val (.int p3), .val (.int p4), .val (.int p5), .unset, .unset, .unset, .unset, .unset, .unset, .unset, .unset, .unset, .unset] [(.int (p1 &&& (63 : Int32))), (.int (1 : Int32))])) (fun _ kst => XS.iand X0.here hx rfl (hb hby at_4) rfl kst) ?_
  refine oS (u' := s₁.setTop (mkF m 6 #[.val (.int p1), .val (.int p2), .val (.int p3), .val (.int p4), .val (.int p5), .unset, .unset, .unset, .unset, .unset, .unset, .unset, .unset, .unset, .unset] [(.int (own_na p1))])) (fun _ kst => XS.iadd X0.here hx rfl (hb hby at_5) rfl kst) ?_
  refine oS (u' := s₁.setTop (mkF m 8 #[.val (.int p1), .val (.int p2), .val (.int p3), .val (.int p4), .val (.int p5), .val (.int (own_na p1)), .unset, .unset, .unset, .unset, .unset, .unset, .unset, .unset, .unset] [])) (fun _ kst => XS.istore X0.here hx rfl (hb hby at_6) rfl (l' := #[.val (.int p1), .val (.int p2), .val (.int p3), .val (.int p4), .val (.int p5), .val (.int (own_na p1)), .unset, .unset, .unset, .unset, .unset, .unset, .unset, .unset, .unset]) rfl kst) ?_
  refine oS (u' := s₁.setTop (mkF m 9 #[.val (.int p1), .val (.int p2), .val (.int p3), .val (.int p4), .val (.int p5), .val (.int (own_na p1)), .unset, .unset, .unset, .unset, .unset, .unset, .unset, .unset, .unset] [(.int (1 : Int32))])) (fun _ kst => XS.iconst X0.here hx rfl (hb hby at_8) kst) ?_
  refine oS (u' := s₁.setTop (mkF m 10 #[.val (.int p1), .val (.int p2), .val (.int p3), .val (.int p4), .val (.int p5), .val (.int (own_na p1)), .unset, .unset, .unset, .unset, .unset, .unset, .unset, .unset, .unset] [(.int p2), (.int (1 : Int32))])) (fun _ kst => XS.iloadN X0.here hx rfl (hb hby at_9) rfl kst) ?_
  refine oS (u' := s₁.setTop (mkF m 12 #[.val (.int p1), .val (.int p2), .val (.int p3), .val (.int p4), .val (.int p5), .val (.int (own_na p1)), .unset, .unset, .unset, .unset, .unset, .unset, .unset, .unset, .unset] [(.int (63 : Int32)), (.int p2), (.int (1 : Int32))])) (fun _ kst => XS.bipush X0.here hx rfl (hb hby at_10) kst) ?_
  refine oS (u' := s₁.setTop (mkF m 13 #[.val (.int p1), .val (.int p2), .val (.int p3), .val (.int p4), .val (.int p5), .val (.int (own_na p1)), .unset, .unset, .unset, .unset, .unset, .unset, .unset, .unset, .unset] [(.int (p2 &&& (63 : Int32))), (.int (1 : Int32))])) (fun _ kst => XS.iand X0.here hx rfl (hb hby at_12) rfl kst) ?_
  refine oS (u' := s₁.setTop (mkF m 14 #[.val (.int p1), .val (.int p2), .val (.int p3), .val (.int p4), .val (.int p5), .val (.int (own_na p1)), .unset, .unset, .unset, .unset, .unset, .unset, .unset, .unset, .unset] [(.int (own_na p2))])) (fun _ kst => XS.iadd X0.here hx rfl (hb hby at_13) rfl kst) ?_
  refine oS (u' := s₁.setTop (mkF m 16 #[.val (.int p1), .val (.int p2), .val (.int p3), .val (.int p4), .val (.int p5), .val (.int (own_na p1)), .val (.int (own_na p2)), .unset, .unset, .unset, .unset, .unset, .unset, .unset, .unset] [])) (fun _ kst => XS.istore X0.here hx rfl (hb hby at_14) rfl (l' := #[.val (.int p1), .val (.int p2), .val (.int p3), .val (.int p4), .val (.int p5), .val (.int (own_na p1)), .val (.int (own_na p2)), .unset, .unset, .unset, .unset, .unset, .unset, .unset, .unset]) rfl kst) ?_
  refine oS (u' := s₁.setTop (mkF m 18 #[.val (.int p1), .val (.int p2), .val (.int p3), .val (.int p4), .val (.int p5), .val (.int (own_na p1)), .val (.int (own_na p2)), .unset, .unset, .unset, .unset, .unset, .unset, .unset, .unset] [(.int p5)])) (fun _ kst => XS.iload X0.here hx rfl (hb hby at_16) rfl kst) ?_
  refine oS (u' := s₁.setTop (mkF m 19 #[.val (.int p1), .val (.int p2), .val (.int p3), .val (.int p4), .val (.int p5), .val (.int (own_na p1)), .val (.int (own_na p2)), .unset, .unset, .unset, .unset, .unset, .unset, .unset, .unset] [(.int (3 : Int32)), (.int p5)])) (fun _ kst => XS.iconst X0.here hx rfl (hb hby at_18) kst) ?_
  refine oS (u' := s₁.setTop (mkF m 20 #[.val (.int p1), .val (.int p2), .val (.int p3), .val (.int p4), .val (.int p5), .val (.int (own_na p1)), .val (.int (own_na p2)), .unset, .unset, .unset, .unset, .unset, .unset, .unset, .unset] [(.int (own_sel p5))])) (fun _ kst => XS.iand X0.here hx rfl (hb hby at_19) rfl kst) ?_
  refine oS (u' := s₁.setTop (mkF m 22 #[.val (.int p1), .val (.int p2), .val (.int p3), .val (.int p4), .val (.int p5), .val (.int (own_na p1)), .val (.int (own_na p2)), .val (.int (own_sel p5)), .unset, .unset, .unset, .unset, .unset, .unset, .unset] [])) (fun _ kst => XS.istore X0.here hx rfl (hb hby at_20) rfl (l' := #[.val (.int p1), .val (.int p2), .val (.int p3), .val (.int p4), .val (.int p5), .val (.int (own_na p1)), .val (.int (own_na p2)), .val (.int (own_sel p5)), .unset, .unset, .unset, .unset, .unset, .unset, .unset]) rfl kst) ?_
  refine oS (u' := s₁.setTop (mkF m 24 #[.val (.int p1), .val (.int p2), .val (.int p3), .val (.int p4), .val (.int p5), .val (.int (own_na p1)), .val (.int (own_na p2)), .val (.int (own_sel p5)), .unset, .unset, .unset, .unset, .unset, .unset, .unset] [(.int (own_sel p5))])) (fun _ kst => XS.iload X0.here hx rfl (hb hby at_22) rfl kst) ?_
  refine oS (u' := s₁.setTop (mkF m 25 #[.val (.int p1), .val (.int p2), .val (.int p3), .val (.int p4), .val (.int p5), .val (.int (own_na p1)), .val (.int (own_na p2)), .val (.int (own_sel p5)), .unset, .unset, .unset, .unset, .unset, .unset, .unset] [(.int (1 : Int32)), (.int (own_sel p5))])) (fun _ kst => XS.iconst X0.here hx rfl (hb hby at_24) kst) ?_
  have km13 : ∀ t, Steps p.tables e below (s₁.setTop (mkF m 35 #[.val (.int p1), .val (.int p2), .val (.int p3), .val (.int p4), .val (.int p5), .val (.int (own_na p1)), .val (.int (own_na p2)), .val (.int (own_sel p5)), .unset, .unset, .unset, .unset, .unset, .unset, .unset] [(.int (if (own_sel p5) = (1 : Int32) then (own_na p1) else (own_na p2)))])) t → Steps p.tables e below (s₁.setTop (mkF m 25 #[.val (.int p1), .val (.int p2), .val (.int p3), .val (.int p4), .val (.int p5), .val (.int (own_na p1)), .val (.int (own_na p2)), .val (.int (own_sel p5)), .unset, .unset, .unset, .unset, .unset, .unset, .unset] [(.int (1 : Int32)), (.int (own_sel p5))])) t := by
    intro tgt kst
    by_cases hc12 : (own_sel p5) = (1 : Int32)
    · rw [show (if (own_sel p5) = (1 : Int32) then (own_na p1) else (own_na p2)) = (own_na p1) from if_pos hc12] at kst
      refine XS.icmpNo X0.here hx rfl (hb hby at_25) rfl (teq hc12).2 ?_
      show Steps p.tables e below (s₁.setTop (mkF m 28 #[.val (.int p1), .val (.int p2), .val (.int p3), .val (.int p4), .val (.int p5), .val (.int (own_na p1)), .val (.int (own_na p2)), .val (.int (own_sel p5)), .unset, .unset, .unset, .unset, .unset, .unset, .unset] [])) _
      refine XS.iload X0.here hx rfl (hb hby at_28) rfl ?_
      show Steps p.tables e below (s₁.setTop (mkF m 30 #[.val (.int p1), .val (.int p2), .val (.int p3), .val (.int p4), .val (.int p5), .val (.int (own_na p1)), .val (.int (own_na p2)), .val (.int (own_sel p5)), .unset, .unset, .unset, .unset, .unset, .unset, .unset] [(.int (own_na p1))])) _
      refine XS.goto X0.here hx rfl (pc0 := 30) (pc' := 35) rfl (hb hby at_30) (by decide) (by decide) ?_
      show Steps p.tables e below (s₁.setTop (mkF m 35 #[.val (.int p1), .val (.int p2), .val (.int p3), .val (.int p4), .val (.int p5), .val (.int (own_na p1)), .val (.int (own_na p2)), .val (.int (own_sel p5)), .unset, .unset, .unset, .unset, .unset, .unset, .unset] [(.int (own_na p1))])) _
      exact kst
    · rw [show (if (own_sel p5) = (1 : Int32) then (own_na p1) else (own_na p2)) = (own_na p2) from if_neg hc12] at kst
      refine XS.icmpYes X0.here hx rfl (pc0 := 25) (pc' := 33) rfl (hb hby at_25) rfl (feq hc12).2 (by decide) (by decide) ?_
      show Steps p.tables e below (s₁.setTop (mkF m 33 #[.val (.int p1), .val (.int p2), .val (.int p3), .val (.int p4), .val (.int p5), .val (.int (own_na p1)), .val (.int (own_na p2)), .val (.int (own_sel p5)), .unset, .unset, .unset, .unset, .unset, .unset, .unset] [])) _
      refine XS.iload X0.here hx rfl (hb hby at_33) rfl ?_
      show Steps p.tables e below (s₁.setTop (mkF m 35 #[.val (.int p1), .val (.int p2), .val (.int p3), .val (.int p4), .val (.int p5), .val (.int (own_na p1)), .val (.int (own_na p2)), .val (.int (own_sel p5)), .unset, .unset, .unset, .unset, .unset, .unset, .unset] [(.int (own_na p2))])) _
      exact kst
  refine oS (u' := s₁.setTop (mkF m 35 #[.val (.int p1), .val (.int p2), .val (.int p3), .val (.int p4), .val (.int p5), .val (.int (own_na p1)), .val (.int (own_na p2)), .val (.int (own_sel p5)), .unset, .unset, .unset, .unset, .unset, .unset, .unset] [(.int (own_nb p1 p2 p5))])) km13 ?_
  refine oS (u' := s₁.setTop (mkF m 37 #[.val (.int p1), .val (.int p2), .val (.int p3), .val (.int p4), .val (.int p5), .val (.int (own_na p1)), .val (.int (own_na p2)), .val (.int (own_sel p5)), .val (.int (own_nb p1 p2 p5)), .unset, .unset, .unset, .unset, .unset, .unset] [])) (fun _ kst => XS.istore X0.here hx rfl (hb hby at_35) rfl (l' := #[.val (.int p1), .val (.int p2), .val (.int p3), .val (.int p4), .val (.int p5), .val (.int (own_na p1)), .val (.int (own_na p2)), .val (.int (own_sel p5)), .val (.int (own_nb p1 p2 p5)), .unset, .unset, .unset, .unset, .unset, .unset]) rfl kst) ?_
  obtain ⟨T14, h14, X14, e14, E14, A14, D14, -, st14⟩ := newO X0 hx hZ hown (hw _ (List.mem_of_getElem? (i := 0) rfl)) (hw _ (List.mem_of_getElem? (i := 1) rfl)) (hw _ (List.mem_of_getElem? (i := 2) rfl)) e0 (g := (mkF m 37 #[.val (.int p1), .val (.int p2), .val (.int p3), .val (.int p4), .val (.int p5), .val (.int (own_na p1)), .val (.int (own_na p2)), .val (.int (own_sel p5)), .val (.int (own_nb p1 p2 p5)), .unset, .unset, .unset, .unset, .unset, .unset] [])) rfl (hb hby at_37) (by decide) (by decide)
  obtain ⟨b14, g14⟩ : ∃ z, z = h0.size := ⟨_, rfl⟩
  rw [← g14] at A14 D14 st14
  have gb_b14 : n0 ≤ b14 := Nat.le_trans Z0 (Nat.le_of_eq g14.symm)
  have sz_b14 : h0.size ≤ b14 := Nat.le_trans K0.1 (Nat.le_of_eq g14.symm)
  have K14 := K0.ext E14
  have Z14 := Nat.le_trans Z0 E14.1
  have f14_F_m_nVariables : Fld Z h14 b14 "com/example/predicant/predicant/propositional/PropositionalAlgebra" "m_nVariables" "I" (.int (0 : Int32)) := D14 (Or.inr (hw _ (List.mem_of_getElem? (i := 10) rfl))) (ty := .int) (by decide)
  have f14_F_m_nBudget : Fld Z h14 b14 "com/example/predicant/predicant/propositional/PropositionalAlgebra" "m_nBudget" "I" (.int (0 : Int32)) := D14 (Or.inr (hw _ (List.mem_of_getElem? (i := 12) rfl))) (ty := .int) (by decide)
  refine oS (u' := T14.setTop (mkF m 40 #[.val (.int p1), .val (.int p2), .val (.int p3), .val (.int p4), .val (.int p5), .val (.int (own_na p1)), .val (.int (own_na p2)), .val (.int (own_sel p5)), .val (.int (own_nb p1 p2 p5)), .unset, .unset, .unset, .unset, .unset, .unset] [(.ref b14)])) st14 ?_
  refine oS (u' := T14.setTop (mkF m 41 #[.val (.int p1), .val (.int p2), .val (.int p3), .val (.int p4), .val (.int p5), .val (.int (own_na p1)), .val (.int (own_na p2)), .val (.int (own_sel p5)), .val (.int (own_nb p1 p2 p5)), .unset, .unset, .unset, .unset, .unset, .unset] [(.ref b14), (.ref b14)])) (fun _ kst => XS.dup X14.here hx rfl (hb hby at_40) rfl rfl kst) ?_
  refine oS (u' := T14.setTop (mkF m 43 #[.val (.int p1), .val (.int p2), .val (.int p3), .val (.int p4), .val (.int p5), .val (.int (own_na p1)), .val (.int (own_na p2)), .val (.int (own_sel p5)), .val (.int (own_nb p1 p2 p5)), .unset, .unset, .unset, .unset, .unset, .unset] [(.int (own_na p1)), (.ref b14), (.ref b14)])) (fun _ kst => XS.iload X14.here hx rfl (hb hby at_41) rfl kst) ?_
  refine oS (u' := T14.setTop (mkF m 44 #[.val (.int p1), .val (.int p2), .val (.int p3), .val (.int p4), .val (.int p5), .val (.int (own_na p1)), .val (.int (own_na p2)), .val (.int (own_sel p5)), .val (.int (own_nb p1 p2 p5)), .unset, .unset, .unset, .unset, .unset, .unset] [(.int p3), (.int (own_na p1)), (.ref b14), (.ref b14)])) (fun _ kst => XS.iloadN X14.here hx rfl (hb hby at_43) rfl kst) ?_
  obtain ⟨v15, T15, L15, X15, hQ15, st15⟩ := own_callI X14 hx hZ (y := (⟨"com/example/predicant/predicant/propositional/PropositionalAlgebra", "<init>", "(II)V"⟩ : MethodName)) rfl hown (hw _ (List.mem_of_getElem? (i := 3) rfl)) (hw _ (List.mem_of_getElem? (i := 4) rfl)) (hw _ (List.mem_of_getElem? (i := 5) rfl)) (hw _ (List.mem_of_getElem? (i := 2) rfl)) (by decide) e14 (W := 1) (own_rm_pai l Z a0 hw b14 (own_na p1) p3 h14 n0 Z14 A14 f14_F_m_nVariables f14_F_m_nBudget gb_b14 (own_na_in p1)) (by decide) (by decide) (g := (mkF m 44 #[.val (.int p1), .val (.int p2), .val (.int p3), .val (.int p4), .val (.int p5), .val (.int (own_na p1)), .val (.int (own_na p2)), .val (.int (own_sel p5)), .val (.int (own_nb p1 p2 p5)), .unset, .unset, .unset, .unset, .unset, .unset] [(.int p3), (.int (own_na p1)), (.ref b14), (.ref b14)])) rfl (by rw [hml]; rfl) (a := b14) (argsL := [(.int (own_na p1)), (.int p3)]) (rest := [(.ref b14)]) (lenOf own_pd1 rfl) rfl (by show 2 * 0 + _ ≤ _; exact Nat.le_of_eq rfl) (hb hby at_44) (by decide) (by decide)
  obtain ⟨rfl, Nq15, Kq15, Fv15⟩ := hQ15
  have f15_E_b14 := A14.keep Kq15
  have K15 := K14.trans Kq15 (allS (Or.inr sz_b14) all0)
  have Z15 := Nat.le_trans Z14 Kq15.1
  have N15 := Fr.app N0 Nq15
  refine oS (u' := T15.setTop (mkF m 47 #[.val (.int p1), .val (.int p2), .val (.int p3), .val (.int p4), .val (.int p5), .val (.int (own_na p1)), .val (.int (own_na p2)), .val (.int (own_sel p5)), .val (.int (own_nb p1 p2 p5)), .unset, .unset, .unset, .unset, .unset, .unset] [(.ref b14)])) st15 ?_
  refine oS (u' := T15.setTop (mkF m 49 #[.val (.int p1), .val (.int p2), .val (.int p3), .val (.int p4), .val (.int p5), .val (.int (own_na p1)), .val (.int (own_na p2)), .val (.int (own_sel p5)), .val (.int (own_nb p1 p2 p5)), .val (.ref b14), .unset, .unset, .unset, .unset, .unset] [])) (fun _ kst => XS.astore X15.here hx rfl (hb hby at_47) rfl rfl (l' := #[.val (.int p1), .val (.int p2), .val (.int p3), .val (.int p4), .val (.int p5), .val (.int (own_na p1)), .val (.int (own_na p2)), .val (.int (own_sel p5)), .val (.int (own_nb p1 p2 p5)), .val (.ref b14), .unset, .unset, .unset, .unset, .unset]) rfl kst) ?_
  obtain ⟨T16, h16, X16, e16, E16, A16, D16, -, st16⟩ := newO X15 hx hZ hown (hw _ (List.mem_of_getElem? (i := 0) rfl)) (hw _ (List.mem_of_getElem? (i := 1) rfl)) (hw _ (List.mem_of_getElem? (i := 2) rfl)) rfl (g := (mkF m 49 #[.val (.int p1), .val (.int p2), .val (.int p3), .val (.int p4), .val (.int p5), .val (.int (own_na p1)), .val (.int (own_na p2)), .val (.int (own_sel p5)), .val (.int (own_nb p1 p2 p5)), .val (.ref b14), .unset, .unset, .unset, .unset, .unset] [])) rfl (hb hby at_49) (by decide) (by decide)
  obtain ⟨b16, g16⟩ : ∃ z, z = T15.heap.size := ⟨_, rfl⟩
  rw [← g16] at A16 D16 st16
  have ne_b14_b16 : b14 ≠ b16 := Nat.ne_of_lt (Nat.lt_of_lt_of_le (f15_E_b14).lt (Nat.le_of_eq g16.symm))
  have f16_E_b14 := f15_E_b14.ext E16
  have f16_F_b14_m_nVariables := Fv15.ext E16
  have gb_b16 : n0 ≤ b16 := Nat.le_trans Z15 (Nat.le_of_eq g16.symm)
  have sz_b16 : h0.size ≤ b16 := Nat.le_trans K15.1 (Nat.le_of_eq g16.symm)
  have K16 := K15.ext E16
  have Z16 := Nat.le_trans Z15 E16.1
  have f16_F_m_nVariables : Fld Z h16 b16 "com/example/predicant/predicant/propositional/PropositionalAlgebra" "m_nVariables" "I" (.int (0 : Int32)) := D16 (Or.inr (hw _ (List.mem_of_getElem? (i := 10) rfl))) (ty := .int) (by decide)
  have f16_F_m_nBudget : Fld Z h16 b16 "com/example/predicant/predicant/propositional/PropositionalAlgebra" "m_nBudget" "I" (.int (0 : Int32)) := D16 (Or.inr (hw _ (List.mem_of_getElem? (i := 12) rfl))) (ty := .int) (by decide)
  refine oS (u' := T16.setTop (mkF m 52 #[.val (.int p1), .val (.int p2), .val (.int p3), .val (.int p4), .val (.int p5), .val (.int (own_na p1)), .val (.int (own_na p2)), .val (.int (own_sel p5)), .val (.int (own_nb p1 p2 p5)), .val (.ref b14), .unset, .unset, .unset, .unset, .unset] [(.ref b16)])) st16 ?_
  refine oS (u' := T16.setTop (mkF m 53 #[.val (.int p1), .val (.int p2), .val (.int p3), .val (.int p4), .val (.int p5), .val (.int (own_na p1)), .val (.int (own_na p2)), .val (.int (own_sel p5)), .val (.int (own_nb p1 p2 p5)), .val (.ref b14), .unset, .unset, .unset, .unset, .unset] [(.ref b16), (.ref b16)])) (fun _ kst => XS.dup X16.here hx rfl (hb hby at_52) rfl rfl kst) ?_
  refine oS (u' := T16.setTop (mkF m 55 #[.val (.int p1), .val (.int p2), .val (.int p3), .val (.int p4), .val (.int p5), .val (.int (own_na p1)), .val (.int (own_na p2)), .val (.int (own_sel p5)), .val (.int (own_nb p1 p2 p5)), .val (.ref b14), .unset, .unset, .unset, .unset, .unset] [(.int (own_nb p1 p2 p5)), (.ref b16), (.ref b16)])) (fun _ kst => XS.iload X16.here hx rfl (hb hby at_53) rfl kst) ?_
  refine oS (u' := T16.setTop (mkF m 56 #[.val (.int p1), .val (.int p2), .val (.int p3), .val (.int p4), .val (.int p5), .val (.int (own_na p1)), .val (.int (own_na p2)), .val (.int (own_sel p5)), .val (.int (own_nb p1 p2 p5)), .val (.ref b14), .unset, .unset, .unset, .unset, .unset] [(.int p4), (.int (own_nb p1 p2 p5)), (.ref b16), (.ref b16)])) (fun _ kst => XS.iloadN X16.here hx rfl (hb hby at_55) rfl kst) ?_
  obtain ⟨v17, T17, L17, X17, hQ17, st17⟩ := own_callI X16 hx hZ (y := (⟨"com/example/predicant/predicant/propositional/PropositionalAlgebra", "<init>", "(II)V"⟩ : MethodName)) rfl hown (hw _ (List.mem_of_getElem? (i := 3) rfl)) (hw _ (List.mem_of_getElem? (i := 4) rfl)) (hw _ (List.mem_of_getElem? (i := 5) rfl)) (hw _ (List.mem_of_getElem? (i := 2) rfl)) (by decide) e16 (W := 1) (own_rm_pai l Z a0 hw b16 (own_nb p1 p2 p5) p4 h16 n0 Z16 A16 f16_F_m_nVariables f16_F_m_nBudget gb_b16 (own_nb_in p1 p2 p5)) (by decide) (by decide) (g := (mkF m 56 #[.val (.int p1), .val (.int p2), .val (.int p3), .val (.int p4), .val (.int p5), .val (.int (own_na p1)), .val (.int (own_na p2)), .val (.int (own_sel p5)), .val (.int (own_nb p1 p2 p5)), .val (.ref b14), .unset, .unset, .unset, .unset, .unset] [(.int p4), (.int (own_nb p1 p2 p5)), (.ref b16), (.ref b16)])) rfl (by rw [hml]; rfl) (a := b16) (argsL := [(.int (own_nb p1 p2 p5)), (.int p4)]) (rest := [(.ref b16)]) (lenOf own_pd1 rfl) rfl (by show 2 * 0 + _ ≤ _; exact Nat.le_of_eq rfl) (hb hby at_56) (by decide) (by decide)
  obtain ⟨rfl, Nq17, Kq17, Fv17⟩ := hQ17
  have f17_E_b14 := f16_E_b14.keep Kq17
  have f17_F_b14_m_nVariables := f16_F_b14_m_nVariables.keep Kq17 (ninS ne_b14_b16 nin0)
  have f17_E_b16 := A16.keep Kq17
  have K17 := K16.trans Kq17 (allS (Or.inr sz_b16) all0)
  have Z17 := Nat.le_trans Z16 Kq17.1
  have N17 := Fr.app N15 Nq17
  refine oS (u' := T17.setTop (mkF m 59 #[.val (.int p1), .val (.int p2), .val (.int p3), .val (.int p4), .val (.int p5), .val (.int (own_na p1)), .val (.int (own_na p2)), .val (.int (own_sel p5)), .val (.int (own_nb p1 p2 p5)), .val (.ref b14), .unset, .unset, .unset, .unset, .unset] [(.ref b16)])) st17 ?_
  refine oS (u' := T17.setTop (mkF m 61 #[.val (.int p1), .val (.int p2), .val (.int p3), .val (.int p4), .val (.int p5), .val (.int (own_na p1)), .val (.int (own_na p2)), .val (.int (own_sel p5)), .val (.int (own_nb p1 p2 p5)), .val (.ref b14), .val (.ref b16), .unset, .unset, .unset, .unset] [])) (fun _ kst => XS.astore X17.here hx rfl (hb hby at_59) rfl rfl (l' := #[.val (.int p1), .val (.int p2), .val (.int p3), .val (.int p4), .val (.int p5), .val (.int (own_na p1)), .val (.int (own_na p2)), .val (.int (own_sel p5)), .val (.int (own_nb p1 p2 p5)), .val (.ref b14), .val (.ref b16), .unset, .unset, .unset, .unset]) rfl kst) ?_
  refine oS (u' := T17.setTop (mkF m 63 #[.val (.int p1), .val (.int p2), .val (.int p3), .val (.int p4), .val (.int p5), .val (.int (own_na p1)), .val (.int (own_na p2)), .val (.int (own_sel p5)), .val (.int (own_nb p1 p2 p5)), .val (.ref b14), .val (.ref b16), .unset, .unset, .unset, .unset] [(.int (own_sel p5))])) (fun _ kst => XS.iload X17.here hx rfl (hb hby at_61) rfl kst) ?_
  refine oS (u' := T17.setTop (mkF m 64 #[.val (.int p1), .val (.int p2), .val (.int p3), .val (.int p4), .val (.int p5), .val (.int (own_na p1)), .val (.int (own_na p2)), .val (.int (own_sel p5)), .val (.int (own_nb p1 p2 p5)), .val (.ref b14), .val (.ref b16), .unset, .unset, .unset, .unset] [(.int (1 : Int32)), (.int (own_sel p5))])) (fun _ kst => XS.iconst X17.here hx rfl (hb hby at_63) kst) ?_
  by_cases hc18 : (1 : Int32) < (own_sel p5)
  · refine oS (u' := T17.setTop (mkF m 74 #[.val (.int p1), .val (.int p2), .val (.int p3), .val (.int p4), .val (.int p5), .val (.int (own_na p1)), .val (.int (own_na p2)), .val (.int (own_sel p5)), .val (.int (own_nb p1 p2 p5)), .val (.ref b14), .val (.ref b16), .unset, .unset, .unset, .unset] [])) (fun _ kst => XS.icmpYes X17.here hx rfl (pc0 := 64) (pc' := 74) rfl (hb hby at_64) rfl (tlt hc18).2.2.1 (by decide) (by decide) kst) ?_
    refine oS (u' := T17.setTop (mkF m 76 #[.val (.int p1), .val (.int p2), .val (.int p3), .val (.int p4), .val (.int p5), .val (.int (own_na p1)), .val (.int (own_na p2)), .val (.int (own_sel p5)), .val (.int (own_nb p1 p2 p5)), .val (.ref b14), .val (.ref b16), .unset, .unset, .unset, .unset] [(.int (own_sel p5))])) (fun _ kst => XS.iload X17.here hx rfl (hb hby at_74) rfl kst) ?_
    refine oS (u' := T17.setTop (mkF m 77 #[.val (.int p1), .val (.int p2), .val (.int p3), .val (.int p4), .val (.int p5), .val (.int (own_na p1)), .val (.int (own_na p2)), .val (.int (own_sel p5)), .val (.int (own_nb p1 p2 p5)), .val (.ref b14), .val (.ref b16), .unset, .unset, .unset, .unset] [(.int (2 : Int32)), (.int (own_sel p5))])) (fun _ kst => XS.iconst X17.here hx rfl (hb hby at_76) kst) ?_
    by_cases hc19 : (own_sel p5) = (2 : Int32)
    · refine oS (u' := T17.setTop (mkF m 80 #[.val (.int p1), .val (.int p2), .val (.int p3), .val (.int p4), .val (.int p5), .val (.int (own_na p1)), .val (.int (own_na p2)), .val (.int (own_sel p5)), .val (.int (own_nb p1 p2 p5)), .val (.ref b14), .val (.ref b16), .unset, .unset, .unset, .unset] [])) (fun _ kst => XS.icmpNo X17.here hx rfl (hb hby at_77) rfl (teq hc19).2 kst) ?_
      refine oS (u' := T17.setTop (mkF m 82 #[.val (.int p1), .val (.int p2), .val (.int p3), .val (.int p4), .val (.int p5), .val (.int (own_na p1)), .val (.int (own_na p2)), .val (.int (own_sel p5)), .val (.int (own_nb p1 p2 p5)), .val (.ref b14), .val (.ref b16), .unset, .unset, .unset, .unset] [(.int (own_na p1))])) (fun _ kst => XS.iload X17.here hx rfl (hb hby at_80) rfl kst) ?_
      obtain ⟨v20, T20, L20, X20, hQ20, st20⟩ := own_callS X17 hx hZ (y := (⟨"java/lang/Integer", "valueOf", "(I)Ljava/lang/Integer;"⟩ : MethodName)) hown (hw _ (List.mem_of_getElem? (i := 20) rfl)) (hw _ (List.mem_of_getElem? (i := 21) rfl)) (hw _ (List.mem_of_getElem? (i := 23) rfl)) (hw _ (List.mem_of_getElem? (i := 22) rfl)) (by decide) rfl (W := 0) (own_rm_vo l Z a0 hw (own_na p1) ca (own_na p1).toInt.toNat T17.heap (SH.ext (own_kext K17)) (SC.ext (own_kext K17)) (CA.ext (own_kext K17)) (own_na_nat p1).1 (own_na_nat p1).2) (by decide) (by decide) (g := (mkF m 82 #[.val (.int p1), .val (.int p2), .val (.int p3), .val (.int p4), .val (.int p5), .val (.int (own_na p1)), .val (.int (own_na p2)), .val (.int (own_sel p5)), .val (.int (own_nb p1 p2 p5)), .val (.ref b14), .val (.ref b16), .unset, .unset, .unset, .unset] [(.int (own_na p1))])) rfl (by rw [hml]; rfl) (argsL := [(.int (own_na p1))]) (rest := []) (lenOf own_pd2 rfl) rfl (by show 2 * 0 + _ ≤ _; exact Nat.le_of_eq rfl) (hb hby at_82) (by decide) (by decide)
      obtain ⟨z20, rfl, hh20, rfl, EZ20⟩ := hQ20
      rw [List.append_nil] at X20
      refine oS (u' := T20.setTop (mkF m 85 #[.val (.int p1), .val (.int p2), .val (.int p3), .val (.int p4), .val (.int p5), .val (.int (own_na p1)), .val (.int (own_na p2)), .val (.int (own_sel p5)), .val (.int (own_nb p1 p2 p5)), .val (.ref b14), .val (.ref b16), .unset, .unset, .unset, .unset] [(.ref z20)])) st20 ?_
      refine oS (u' := T20.setTop (mkF m 87 #[.val (.int p1), .val (.int p2), .val (.int p3), .val (.int p4), .val (.int p5), .val (.int (own_na p1)), .val (.int (own_na p2)), .val (.int (own_sel p5)), .val (.int (own_nb p1 p2 p5)), .val (.ref b14), .val (.ref b16), .val (.ref z20), .unset, .unset, .unset] [])) (fun _ kst => XS.astore X20.here hx rfl (hb hby at_85) rfl rfl (l' := #[.val (.int p1), .val (.int p2), .val (.int p3), .val (.int p4), .val (.int p5), .val (.int (own_na p1)), .val (.int (own_na p2)), .val (.int (own_sel p5)), .val (.int (own_nb p1 p2 p5)), .val (.ref b14), .val (.ref b16), .val (.ref z20), .unset, .unset, .unset]) rfl kst) ?_
      refine oS (u' := T20.setTop (mkF m 93 #[.val (.int p1), .val (.int p2), .val (.int p3), .val (.int p4), .val (.int p5), .val (.int (own_na p1)), .val (.int (own_na p2)), .val (.int (own_sel p5)), .val (.int (own_nb p1 p2 p5)), .val (.ref b14), .val (.ref b16), .val (.ref z20), .unset, .unset, .unset] [])) (fun _ kst => XS.goto X20.here hx rfl (pc0 := 87) (pc' := 93) rfl (hb hby at_87) (by decide) (by decide) kst) ?_
      refine oS (u' := T20.setTop (mkF m 95 #[.val (.int p1), .val (.int p2), .val (.int p3), .val (.int p4), .val (.int p5), .val (.int (own_na p1)), .val (.int (own_na p2)), .val (.int (own_sel p5)), .val (.int (own_nb p1 p2 p5)), .val (.ref b14), .val (.ref b16), .val (.ref z20), .unset, .unset, .unset] [(.int (own_sel p5))])) (fun _ kst => XS.iload X20.here hx rfl (hb hby at_93) rfl kst) ?_
      refine oS (u' := T20.setTop (mkF m 96 #[.val (.int p1), .val (.int p2), .val (.int p3), .val (.int p4), .val (.int p5), .val (.int (own_na p1)), .val (.int (own_na p2)), .val (.int (own_sel p5)), .val (.int (own_nb p1 p2 p5)), .val (.ref b14), .val (.ref b16), .val (.ref z20), .unset, .unset, .unset] [(.int (1 : Int32)), (.int (own_sel p5))])) (fun _ kst => XS.iconst X20.here hx rfl (hb hby at_95) kst) ?_
      refine oS (u' := T20.setTop (mkF m 110 #[.val (.int p1), .val (.int p2), .val (.int p3), .val (.int p4), .val (.int p5), .val (.int (own_na p1)), .val (.int (own_na p2)), .val (.int (own_sel p5)), .val (.int (own_nb p1 p2 p5)), .val (.ref b14), .val (.ref b16), .val (.ref z20), .unset, .unset, .unset] [])) (fun _ kst => XS.icmpYes X20.here hx rfl (pc0 := 96) (pc' := 110) rfl (hb hby at_96) rfl (tlt hc18).2.2.1 (by decide) (by decide) kst) ?_
      refine oS (u' := T20.setTop (mkF m 111 #[.val (.int p1), .val (.int p2), .val (.int p3), .val (.int p4), .val (.int p5), .val (.int (own_na p1)), .val (.int (own_na p2)), .val (.int (own_sel p5)), .val (.int (own_nb p1 p2 p5)), .val (.ref b14), .val (.ref b16), .val (.ref z20), .unset, .unset, .unset] [(.int (0 : Int32))])) (fun _ kst => XS.iconst X20.here hx rfl (hb hby at_110) kst) ?_
      refine oS (u' := T20.setTop (mkF m 113 #[.val (.int p1), .val (.int p2), .val (.int p3), .val (.int p4), .val (.int p5), .val (.int (own_na p1)), .val (.int (own_na p2)), .val (.int (own_sel p5)), .val (.int (own_nb p1 p2 p5)), .val (.ref b14), .val (.ref b16), .val (.ref z20), .val (.int (0 : Int32)), .unset, .unset] [])) (fun _ kst => XS.istore X20.here hx rfl (hb hby at_111) rfl (l' := #[.val (.int p1), .val (.int p2), .val (.int p3), .val (.int p4), .val (.int p5), .val (.int (own_na p1)), .val (.int (own_na p2)), .val (.int (own_sel p5)), .val (.int (own_nb p1 p2 p5)), .val (.ref b14), .val (.ref b16), .val (.ref z20), .val (.int (0 : Int32)), .unset, .unset]) rfl kst) ?_
      refine oS (u' := T20.setTop (mkF m 115 #[.val (.int p1), .val (.int p2), .val (.int p3), .val (.int p4), .val (.int p5), .val (.int (own_na p1)), .val (.int (own_na p2)), .val (.int (own_sel p5)), .val (.int (own_nb p1 p2 p5)), .val (.ref b14), .val (.ref b16), .val (.ref z20), .val (.int (0 : Int32)), .unset, .unset] [(.ref b14)])) (fun _ kst => XS.aload X20.here hx rfl (hb hby at_113) rfl rfl kst) ?_
      refine oS (u' := T20.setTop (mkF m 117 #[.val (.int p1), .val (.int p2), .val (.int p3), .val (.int p4), .val (.int p5), .val (.int (own_na p1)), .val (.int (own_na p2)), .val (.int (own_sel p5)), .val (.int (own_nb p1 p2 p5)), .val (.ref b14), .val (.ref b16), .val (.ref z20), .val (.int (0 : Int32)), .unset, .unset] [(.ref z20), (.ref b14)])) (fun _ kst => XS.aload X20.here hx rfl (hb hby at_115) rfl rfl kst) ?_
      obtain ⟨T21, X21, e21, st21⟩ := own_callVP X20 hx hZ (y := (⟨"com/example/predicant/predicant/propositional/PropositionalAlgebra", "equals", "(Ljava/lang/Object;)Z"⟩ : MethodName)) (z := (⟨"com/example/predicant/predicant/propositional/PropositionalAlgebra", "equals", "(Ljava/lang/Object;)Z"⟩ : MethodName)) hown (hw _ (List.mem_of_getElem? (i := 13) rfl)) (hw _ (List.mem_of_getElem? (i := 14) rfl)) (notFace_of_selects (args := #[]) (mvT hZ (hw _ (List.mem_of_getElem? (i := 16) rfl)))) (hw _ (List.mem_of_getElem? (i := 16) rfl)) (hw _ (List.mem_of_getElem? (i := 15) rfl)) (by decide) hh20 f17_E_b14 (W := 0) (own_rm_pe2 l Z a0 hw b14 z20 T17.heap EZ20) (hw _ (List.mem_of_getElem? (i := 17) rfl)) (hw _ (List.mem_of_getElem? (i := 2) rfl)) (by decide) (by decide) (g := (mkF m 117 #[.val (.int p1), .val (.int p2), .val (.int p3), .val (.int p4), .val (.int p5), .val (.int (own_na p1)), .val (.int (own_na p2)), .val (.int (own_sel p5)), .val (.int (own_nb p1 p2 p5)), .val (.ref b14), .val (.ref b16), .val (.ref z20), .val (.int (0 : Int32)), .unset, .unset] [(.ref z20), (.ref b14)])) rfl (by rw [hml]; rfl) (b := b14) (argsL := [(.ref z20)]) (rest := []) (lenOf own_pd3 rfl) rfl (by show 2 * 0 + _ ≤ _; exact Nat.le_of_eq rfl) (hb hby at_117) (by decide) (by decide)
      refine oS (u' := T21.setTop (mkF m 120 #[.val (.int p1), .val (.int p2), .val (.int p3), .val (.int p4), .val (.int p5), .val (.int (own_na p1)), .val (.int (own_na p2)), .val (.int (own_sel p5)), .val (.int (own_nb p1 p2 p5)), .val (.ref b14), .val (.ref b16), .val (.ref z20), .val (.int (0 : Int32)), .unset, .unset] [(.int (0 : Int32))])) st21 ?_
      refine oS (u' := T21.setTop (mkF m 122 #[.val (.int p1), .val (.int p2), .val (.int p3), .val (.int p4), .val (.int p5), .val (.int (own_na p1)), .val (.int (own_na p2)), .val (.int (own_sel p5)), .val (.int (own_nb p1 p2 p5)), .val (.ref b14), .val (.ref b16), .val (.ref z20), .val (.int (0 : Int32)), .val (.int (0 : Int32)), .unset] [])) (fun _ kst => XS.istore X21.here hx rfl (hb hby at_120) rfl (l' := #[.val (.int p1), .val (.int p2), .val (.int p3), .val (.int p4), .val (.int p5), .val (.int (own_na p1)), .val (.int (own_na p2)), .val (.int (own_sel p5)), .val (.int (own_nb p1 p2 p5)), .val (.ref b14), .val (.ref b16), .val (.ref z20), .val (.int (0 : Int32)), .val (.int (0 : Int32)), .unset]) rfl kst) ?_
      refine oS (u' := T21.setTop (mkF m 123 #[.val (.int p1), .val (.int p2), .val (.int p3), .val (.int p4), .val (.int p5), .val (.int (own_na p1)), .val (.int (own_na p2)), .val (.int (own_sel p5)), .val (.int (own_nb p1 p2 p5)), .val (.ref b14), .val (.ref b16), .val (.ref z20), .val (.int (0 : Int32)), .val (.int (0 : Int32)), .unset] [(.int (1 : Int32))])) (fun _ kst => XS.iconst X21.here hx rfl (hb hby at_122) kst) ?_
      refine oS (u' := T21.setTop (mkF m 125 #[.val (.int p1), .val (.int p2), .val (.int p3), .val (.int p4), .val (.int p5), .val (.int (own_na p1)), .val (.int (own_na p2)), .val (.int (own_sel p5)), .val (.int (own_nb p1 p2 p5)), .val (.ref b14), .val (.ref b16), .val (.ref z20), .val (.int (0 : Int32)), .val (.int (0 : Int32)), .val (.int (1 : Int32))] [])) (fun _ kst => XS.istore X21.here hx rfl (hb hby at_123) rfl (l' := #[.val (.int p1), .val (.int p2), .val (.int p3), .val (.int p4), .val (.int p5), .val (.int (own_na p1)), .val (.int (own_na p2)), .val (.int (own_sel p5)), .val (.int (own_nb p1 p2 p5)), .val (.ref b14), .val (.ref b16), .val (.ref z20), .val (.int (0 : Int32)), .val (.int (0 : Int32)), .val (.int (1 : Int32))]) rfl kst) ?_
      refine oS (u' := T21.setTop (mkF m 127 #[.val (.int p1), .val (.int p2), .val (.int p3), .val (.int p4), .val (.int p5), .val (.int (own_na p1)), .val (.int (own_na p2)), .val (.int (own_sel p5)), .val (.int (own_nb p1 p2 p5)), .val (.ref b14), .val (.ref b16), .val (.ref z20), .val (.int (0 : Int32)), .val (.int (0 : Int32)), .val (.int (1 : Int32))] [(.int (own_sel p5))])) (fun _ kst => XS.iload X21.here hx rfl (hb hby at_125) rfl kst) ?_
      refine oS (u' := T21.setTop (mkF m 128 #[.val (.int p1), .val (.int p2), .val (.int p3), .val (.int p4), .val (.int p5), .val (.int (own_na p1)), .val (.int (own_na p2)), .val (.int (own_sel p5)), .val (.int (own_nb p1 p2 p5)), .val (.ref b14), .val (.ref b16), .val (.ref z20), .val (.int (0 : Int32)), .val (.int (0 : Int32)), .val (.int (1 : Int32))] [(.int (1 : Int32)), (.int (own_sel p5))])) (fun _ kst => XS.iconst X21.here hx rfl (hb hby at_127) kst) ?_
      refine oS (u' := T21.setTop (mkF m 150 #[.val (.int p1), .val (.int p2), .val (.int p3), .val (.int p4), .val (.int p5), .val (.int (own_na p1)), .val (.int (own_na p2)), .val (.int (own_sel p5)), .val (.int (own_nb p1 p2 p5)), .val (.ref b14), .val (.ref b16), .val (.ref z20), .val (.int (0 : Int32)), .val (.int (0 : Int32)), .val (.int (1 : Int32))] [])) (fun _ kst => XS.icmpYes X21.here hx rfl (pc0 := 128) (pc' := 150) rfl (hb hby at_128) rfl (tlt hc18).2.2.1 (by decide) (by decide) kst) ?_
      refine oS (u' := T21.setTop (mkF m 152 #[.val (.int p1), .val (.int p2), .val (.int p3), .val (.int p4), .val (.int p5), .val (.int (own_na p1)), .val (.int (own_na p2)), .val (.int (own_sel p5)), .val (.int (own_nb p1 p2 p5)), .val (.ref b14), .val (.ref b16), .val (.ref z20), .val (.int (0 : Int32)), .val (.int (0 : Int32)), .val (.int (1 : Int32))] [(.int (0 : Int32))])) (fun _ kst => XS.iload X21.here hx rfl (hb hby at_150) rfl kst) ?_
      refine oS (u' := T21.setTop (mkF m 154 #[.val (.int p1), .val (.int p2), .val (.int p3), .val (.int p4), .val (.int p5), .val (.int (own_na p1)), .val (.int (own_na p2)), .val (.int (own_sel p5)), .val (.int (own_nb p1 p2 p5)), .val (.ref b14), .val (.ref b16), .val (.ref z20), .val (.int (0 : Int32)), .val (.int (0 : Int32)), .val (.int (1 : Int32))] [(.int (0 : Int32)), (.int (0 : Int32))])) (fun _ kst => XS.iload X21.here hx rfl (hb hby at_152) rfl kst) ?_
      refine oS (u' := T21.setTop (mkF m 157 #[.val (.int p1), .val (.int p2), .val (.int p3), .val (.int p4), .val (.int p5), .val (.int (own_na p1)), .val (.int (own_na p2)), .val (.int (own_sel p5)), .val (.int (own_nb p1 p2 p5)), .val (.ref b14), .val (.ref b16), .val (.ref z20), .val (.int (0 : Int32)), .val (.int (0 : Int32)), .val (.int (1 : Int32))] [])) (fun _ kst => XS.icmpNo X21.here hx rfl (hb hby at_154) rfl (teq (rfl : (0 : Int32) = (0 : Int32))).2 kst) ?_
      refine oS (u' := T21.setTop (mkF m 159 #[.val (.int p1), .val (.int p2), .val (.int p3), .val (.int p4), .val (.int p5), .val (.int (own_na p1)), .val (.int (own_na p2)), .val (.int (own_sel p5)), .val (.int (own_nb p1 p2 p5)), .val (.ref b14), .val (.ref b16), .val (.ref z20), .val (.int (0 : Int32)), .val (.int (0 : Int32)), .val (.int (1 : Int32))] [(.int (1 : Int32))])) (fun _ kst => XS.iload X21.here hx rfl (hb hby at_157) rfl kst) ?_
      refine oS (u' := T21.setTop (mkF m 162 #[.val (.int p1), .val (.int p2), .val (.int p3), .val (.int p4), .val (.int p5), .val (.int (own_na p1)), .val (.int (own_na p2)), .val (.int (own_sel p5)), .val (.int (own_nb p1 p2 p5)), .val (.ref b14), .val (.ref b16), .val (.ref z20), .val (.int (0 : Int32)), .val (.int (0 : Int32)), .val (.int (1 : Int32))] [])) (fun _ kst => XS.ifNo X21.here hx rfl (hb hby at_159) rfl ((if0 _ _).trans (feq (by decide : ¬ ((1 : Int32) = (0 : Int32)))).1) kst) ?_
      refine oS (u' := T21.setTop (mkF m 163 #[.val (.int p1), .val (.int p2), .val (.int p3), .val (.int p4), .val (.int p5), .val (.int (own_na p1)), .val (.int (own_na p2)), .val (.int (own_sel p5)), .val (.int (own_nb p1 p2 p5)), .val (.ref b14), .val (.ref b16), .val (.ref z20), .val (.int (0 : Int32)), .val (.int (0 : Int32)), .val (.int (1 : Int32))] [(.int (1 : Int32))])) (fun _ kst => XS.iconst X21.here hx rfl (hb hby at_162) kst) ?_
      refine oS (u' := T21.setTop (mkF m 167 #[.val (.int p1), .val (.int p2), .val (.int p3), .val (.int p4), .val (.int p5), .val (.int (own_na p1)), .val (.int (own_na p2)), .val (.int (own_sel p5)), .val (.int (own_nb p1 p2 p5)), .val (.ref b14), .val (.ref b16), .val (.ref z20), .val (.int (0 : Int32)), .val (.int (0 : Int32)), .val (.int (1 : Int32))] [(.int (1 : Int32))])) (fun _ kst => XS.goto X21.here hx rfl (pc0 := 163) (pc' := 167) rfl (hb hby at_163) (by decide) (by decide) kst) ?_
      refine own_retN X21 hx hlk (t := .boolean) hret (by simp) (hb hby at_167) ?_ (by decide) (by decide)
      exact ⟨rfl, N17⟩
    · refine oS (u' := T17.setTop (mkF m 90 #[.val (.int p1), .val (.int p2), .val (.int p3), .val (.int p4), .val (.int p5), .val (.int (own_na p1)), .val (.int (own_na p2)), .val (.int (own_sel p5)), .val (.int (own_nb p1 p2 p5)), .val (.ref b14), .val (.ref b16), .unset, .unset, .unset, .unset] [])) (fun _ kst => XS.icmpYes X17.here hx rfl (pc0 := 77) (pc' := 90) rfl (hb hby at_77) rfl (feq hc19).2 (by decide) (by decide) kst) ?_
      refine oS (u' := T17.setTop (mkF m 91 #[.val (.int p1), .val (.int p2), .val (.int p3), .val (.int p4), .val (.int p5), .val (.int (own_na p1)), .val (.int (own_na p2)), .val (.int (own_sel p5)), .val (.int (own_nb p1 p2 p5)), .val (.ref b14), .val (.ref b16), .unset, .unset, .unset, .unset] [.null])) (fun _ kst => XS.aconstNull X17.here hx rfl (hb hby at_90) kst) ?_
      refine oS (u' := T17.setTop (mkF m 93 #[.val (.int p1), .val (.int p2), .val (.int p3), .val (.int p4), .val (.int p5), .val (.int (own_na p1)), .val (.int (own_na p2)), .val (.int (own_sel p5)), .val (.int (own_nb p1 p2 p5)), .val (.ref b14), .val (.ref b16), .val .null, .unset, .unset, .unset] [])) (fun _ kst => XS.astore X17.here hx rfl (hb hby at_91) rfl rfl (l' := #[.val (.int p1), .val (.int p2), .val (.int p3), .val (.int p4), .val (.int p5), .val (.int (own_na p1)), .val (.int (own_na p2)), .val (.int (own_sel p5)), .val (.int (own_nb p1 p2 p5)), .val (.ref b14), .val (.ref b16), .val .null, .unset, .unset, .unset]) rfl kst) ?_
      refine oS (u' := T17.setTop (mkF m 95 #[.val (.int p1), .val (.int p2), .val (.int p3), .val (.int p4), .val (.int p5), .val (.int (own_na p1)), .val (.int (own_na p2)), .val (.int (own_sel p5)), .val (.int (own_nb p1 p2 p5)), .val (.ref b14), .val (.ref b16), .val .null, .unset, .unset, .unset] [(.int (own_sel p5))])) (fun _ kst => XS.iload X17.here hx rfl (hb hby at_93) rfl kst) ?_
      refine oS (u' := T17.setTop (mkF m 96 #[.val (.int p1), .val (.int p2), .val (.int p3), .val (.int p4), .val (.int p5), .val (.int (own_na p1)), .val (.int (own_na p2)), .val (.int (own_sel p5)), .val (.int (own_nb p1 p2 p5)), .val (.ref b14), .val (.ref b16), .val .null, .unset, .unset, .unset] [(.int (1 : Int32)), (.int (own_sel p5))])) (fun _ kst => XS.iconst X17.here hx rfl (hb hby at_95) kst) ?_
      refine oS (u' := T17.setTop (mkF m 110 #[.val (.int p1), .val (.int p2), .val (.int p3), .val (.int p4), .val (.int p5), .val (.int (own_na p1)), .val (.int (own_na p2)), .val (.int (own_sel p5)), .val (.int (own_nb p1 p2 p5)), .val (.ref b14), .val (.ref b16), .val .null, .unset, .unset, .unset] [])) (fun _ kst => XS.icmpYes X17.here hx rfl (pc0 := 96) (pc' := 110) rfl (hb hby at_96) rfl (tlt hc18).2.2.1 (by decide) (by decide) kst) ?_
      refine oS (u' := T17.setTop (mkF m 111 #[.val (.int p1), .val (.int p2), .val (.int p3), .val (.int p4), .val (.int p5), .val (.int (own_na p1)), .val (.int (own_na p2)), .val (.int (own_sel p5)), .val (.int (own_nb p1 p2 p5)), .val (.ref b14), .val (.ref b16), .val .null, .unset, .unset, .unset] [(.int (0 : Int32))])) (fun _ kst => XS.iconst X17.here hx rfl (hb hby at_110) kst) ?_
      refine oS (u' := T17.setTop (mkF m 113 #[.val (.int p1), .val (.int p2), .val (.int p3), .val (.int p4), .val (.int p5), .val (.int (own_na p1)), .val (.int (own_na p2)), .val (.int (own_sel p5)), .val (.int (own_nb p1 p2 p5)), .val (.ref b14), .val (.ref b16), .val .null, .val (.int (0 : Int32)), .unset, .unset] [])) (fun _ kst => XS.istore X17.here hx rfl (hb hby at_111) rfl (l' := #[.val (.int p1), .val (.int p2), .val (.int p3), .val (.int p4), .val (.int p5), .val (.int (own_na p1)), .val (.int (own_na p2)), .val (.int (own_sel p5)), .val (.int (own_nb p1 p2 p5)), .val (.ref b14), .val (.ref b16), .val .null, .val (.int (0 : Int32)), .unset, .unset]) rfl kst) ?_
      refine oS (u' := T17.setTop (mkF m 115 #[.val (.int p1), .val (.int p2), .val (.int p3), .val (.int p4), .val (.int p5), .val (.int (own_na p1)), .val (.int (own_na p2)), .val (.int (own_sel p5)), .val (.int (own_nb p1 p2 p5)), .val (.ref b14), .val (.ref b16), .val .null, .val (.int (0 : Int32)), .unset, .unset] [(.ref b14)])) (fun _ kst => XS.aload X17.here hx rfl (hb hby at_113) rfl rfl kst) ?_
      refine oS (u' := T17.setTop (mkF m 117 #[.val (.int p1), .val (.int p2), .val (.int p3), .val (.int p4), .val (.int p5), .val (.int (own_na p1)), .val (.int (own_na p2)), .val (.int (own_sel p5)), .val (.int (own_nb p1 p2 p5)), .val (.ref b14), .val (.ref b16), .val .null, .val (.int (0 : Int32)), .unset, .unset] [.null, (.ref b14)])) (fun _ kst => XS.aload X17.here hx rfl (hb hby at_115) rfl rfl kst) ?_
      obtain ⟨T22, X22, e22, st22⟩ := own_callVP X17 hx hZ (y := (⟨"com/example/predicant/predicant/propositional/PropositionalAlgebra", "equals", "(Ljava/lang/Object;)Z"⟩ : MethodName)) (z := (⟨"com/example/predicant/predicant/propositional/PropositionalAlgebra", "equals", "(Ljava/lang/Object;)Z"⟩ : MethodName)) hown (hw _ (List.mem_of_getElem? (i := 13) rfl)) (hw _ (List.mem_of_getElem? (i := 14) rfl)) (notFace_of_selects (args := #[]) (mvT hZ (hw _ (List.mem_of_getElem? (i := 16) rfl)))) (hw _ (List.mem_of_getElem? (i := 16) rfl)) (hw _ (List.mem_of_getElem? (i := 15) rfl)) (by decide) rfl f17_E_b14 (W := 0) (own_rm_pe3 l Z a0 hw b14 T17.heap ) (hw _ (List.mem_of_getElem? (i := 17) rfl)) (hw _ (List.mem_of_getElem? (i := 2) rfl)) (by decide) (by decide) (g := (mkF m 117 #[.val (.int p1), .val (.int p2), .val (.int p3), .val (.int p4), .val (.int p5), .val (.int (own_na p1)), .val (.int (own_na p2)), .val (.int (own_sel p5)), .val (.int (own_nb p1 p2 p5)), .val (.ref b14), .val (.ref b16), .val .null, .val (.int (0 : Int32)), .unset, .unset] [.null, (.ref b14)])) rfl (by rw [hml]; rfl) (b := b14) (argsL := [.null]) (rest := []) (lenOf own_pd3 rfl) rfl (by show 2 * 0 + _ ≤ _; exact Nat.le_of_eq rfl) (hb hby at_117) (by decide) (by decide)
      refine oS (u' := T22.setTop (mkF m 120 #[.val (.int p1), .val (.int p2), .val (.int p3), .val (.int p4), .val (.int p5), .val (.int (own_na p1)), .val (.int (own_na p2)), .val (.int (own_sel p5)), .val (.int (own_nb p1 p2 p5)), .val (.ref b14), .val (.ref b16), .val .null, .val (.int (0 : Int32)), .unset, .unset] [(.int (0 : Int32))])) st22 ?_
      refine oS (u' := T22.setTop (mkF m 122 #[.val (.int p1), .val (.int p2), .val (.int p3), .val (.int p4), .val (.int p5), .val (.int (own_na p1)), .val (.int (own_na p2)), .val (.int (own_sel p5)), .val (.int (own_nb p1 p2 p5)), .val (.ref b14), .val (.ref b16), .val .null, .val (.int (0 : Int32)), .val (.int (0 : Int32)), .unset] [])) (fun _ kst => XS.istore X22.here hx rfl (hb hby at_120) rfl (l' := #[.val (.int p1), .val (.int p2), .val (.int p3), .val (.int p4), .val (.int p5), .val (.int (own_na p1)), .val (.int (own_na p2)), .val (.int (own_sel p5)), .val (.int (own_nb p1 p2 p5)), .val (.ref b14), .val (.ref b16), .val .null, .val (.int (0 : Int32)), .val (.int (0 : Int32)), .unset]) rfl kst) ?_
      refine oS (u' := T22.setTop (mkF m 123 #[.val (.int p1), .val (.int p2), .val (.int p3), .val (.int p4), .val (.int p5), .val (.int (own_na p1)), .val (.int (own_na p2)), .val (.int (own_sel p5)), .val (.int (own_nb p1 p2 p5)), .val (.ref b14), .val (.ref b16), .val .null, .val (.int (0 : Int32)), .val (.int (0 : Int32)), .unset] [(.int (1 : Int32))])) (fun _ kst => XS.iconst X22.here hx rfl (hb hby at_122) kst) ?_
      refine oS (u' := T22.setTop (mkF m 125 #[.val (.int p1), .val (.int p2), .val (.int p3), .val (.int p4), .val (.int p5), .val (.int (own_na p1)), .val (.int (own_na p2)), .val (.int (own_sel p5)), .val (.int (own_nb p1 p2 p5)), .val (.ref b14), .val (.ref b16), .val .null, .val (.int (0 : Int32)), .val (.int (0 : Int32)), .val (.int (1 : Int32))] [])) (fun _ kst => XS.istore X22.here hx rfl (hb hby at_123) rfl (l' := #[.val (.int p1), .val (.int p2), .val (.int p3), .val (.int p4), .val (.int p5), .val (.int (own_na p1)), .val (.int (own_na p2)), .val (.int (own_sel p5)), .val (.int (own_nb p1 p2 p5)), .val (.ref b14), .val (.ref b16), .val .null, .val (.int (0 : Int32)), .val (.int (0 : Int32)), .val (.int (1 : Int32))]) rfl kst) ?_
      refine oS (u' := T22.setTop (mkF m 127 #[.val (.int p1), .val (.int p2), .val (.int p3), .val (.int p4), .val (.int p5), .val (.int (own_na p1)), .val (.int (own_na p2)), .val (.int (own_sel p5)), .val (.int (own_nb p1 p2 p5)), .val (.ref b14), .val (.ref b16), .val .null, .val (.int (0 : Int32)), .val (.int (0 : Int32)), .val (.int (1 : Int32))] [(.int (own_sel p5))])) (fun _ kst => XS.iload X22.here hx rfl (hb hby at_125) rfl kst) ?_
      refine oS (u' := T22.setTop (mkF m 128 #[.val (.int p1), .val (.int p2), .val (.int p3), .val (.int p4), .val (.int p5), .val (.int (own_na p1)), .val (.int (own_na p2)), .val (.int (own_sel p5)), .val (.int (own_nb p1 p2 p5)), .val (.ref b14), .val (.ref b16), .val .null, .val (.int (0 : Int32)), .val (.int (0 : Int32)), .val (.int (1 : Int32))] [(.int (1 : Int32)), (.int (own_sel p5))])) (fun _ kst => XS.iconst X22.here hx rfl (hb hby at_127) kst) ?_
      refine oS (u' := T22.setTop (mkF m 150 #[.val (.int p1), .val (.int p2), .val (.int p3), .val (.int p4), .val (.int p5), .val (.int (own_na p1)), .val (.int (own_na p2)), .val (.int (own_sel p5)), .val (.int (own_nb p1 p2 p5)), .val (.ref b14), .val (.ref b16), .val .null, .val (.int (0 : Int32)), .val (.int (0 : Int32)), .val (.int (1 : Int32))] [])) (fun _ kst => XS.icmpYes X22.here hx rfl (pc0 := 128) (pc' := 150) rfl (hb hby at_128) rfl (tlt hc18).2.2.1 (by decide) (by decide) kst) ?_
      refine oS (u' := T22.setTop (mkF m 152 #[.val (.int p1), .val (.int p2), .val (.int p3), .val (.int p4), .val (.int p5), .val (.int (own_na p1)), .val (.int (own_na p2)), .val (.int (own_sel p5)), .val (.int (own_nb p1 p2 p5)), .val (.ref b14), .val (.ref b16), .val .null, .val (.int (0 : Int32)), .val (.int (0 : Int32)), .val (.int (1 : Int32))] [(.int (0 : Int32))])) (fun _ kst => XS.iload X22.here hx rfl (hb hby at_150) rfl kst) ?_
      refine oS (u' := T22.setTop (mkF m 154 #[.val (.int p1), .val (.int p2), .val (.int p3), .val (.int p4), .val (.int p5), .val (.int (own_na p1)), .val (.int (own_na p2)), .val (.int (own_sel p5)), .val (.int (own_nb p1 p2 p5)), .val (.ref b14), .val (.ref b16), .val .null, .val (.int (0 : Int32)), .val (.int (0 : Int32)), .val (.int (1 : Int32))] [(.int (0 : Int32)), (.int (0 : Int32))])) (fun _ kst => XS.iload X22.here hx rfl (hb hby at_152) rfl kst) ?_
      refine oS (u' := T22.setTop (mkF m 157 #[.val (.int p1), .val (.int p2), .val (.int p3), .val (.int p4), .val (.int p5), .val (.int (own_na p1)), .val (.int (own_na p2)), .val (.int (own_sel p5)), .val (.int (own_nb p1 p2 p5)), .val (.ref b14), .val (.ref b16), .val .null, .val (.int (0 : Int32)), .val (.int (0 : Int32)), .val (.int (1 : Int32))] [])) (fun _ kst => XS.icmpNo X22.here hx rfl (hb hby at_154) rfl (teq (rfl : (0 : Int32) = (0 : Int32))).2 kst) ?_
      refine oS (u' := T22.setTop (mkF m 159 #[.val (.int p1), .val (.int p2), .val (.int p3), .val (.int p4), .val (.int p5), .val (.int (own_na p1)), .val (.int (own_na p2)), .val (.int (own_sel p5)), .val (.int (own_nb p1 p2 p5)), .val (.ref b14), .val (.ref b16), .val .null, .val (.int (0 : Int32)), .val (.int (0 : Int32)), .val (.int (1 : Int32))] [(.int (1 : Int32))])) (fun _ kst => XS.iload X22.here hx rfl (hb hby at_157) rfl kst) ?_
      refine oS (u' := T22.setTop (mkF m 162 #[.val (.int p1), .val (.int p2), .val (.int p3), .val (.int p4), .val (.int p5), .val (.int (own_na p1)), .val (.int (own_na p2)), .val (.int (own_sel p5)), .val (.int (own_nb p1 p2 p5)), .val (.ref b14), .val (.ref b16), .val .null, .val (.int (0 : Int32)), .val (.int (0 : Int32)), .val (.int (1 : Int32))] [])) (fun _ kst => XS.ifNo X22.here hx rfl (hb hby at_159) rfl ((if0 _ _).trans (feq (by decide : ¬ ((1 : Int32) = (0 : Int32)))).1) kst) ?_
      refine oS (u' := T22.setTop (mkF m 163 #[.val (.int p1), .val (.int p2), .val (.int p3), .val (.int p4), .val (.int p5), .val (.int (own_na p1)), .val (.int (own_na p2)), .val (.int (own_sel p5)), .val (.int (own_nb p1 p2 p5)), .val (.ref b14), .val (.ref b16), .val .null, .val (.int (0 : Int32)), .val (.int (0 : Int32)), .val (.int (1 : Int32))] [(.int (1 : Int32))])) (fun _ kst => XS.iconst X22.here hx rfl (hb hby at_162) kst) ?_
      refine oS (u' := T22.setTop (mkF m 167 #[.val (.int p1), .val (.int p2), .val (.int p3), .val (.int p4), .val (.int p5), .val (.int (own_na p1)), .val (.int (own_na p2)), .val (.int (own_sel p5)), .val (.int (own_nb p1 p2 p5)), .val (.ref b14), .val (.ref b16), .val .null, .val (.int (0 : Int32)), .val (.int (0 : Int32)), .val (.int (1 : Int32))] [(.int (1 : Int32))])) (fun _ kst => XS.goto X22.here hx rfl (pc0 := 163) (pc' := 167) rfl (hb hby at_163) (by decide) (by decide) kst) ?_
      refine own_retN X22 hx hlk (t := .boolean) hret (by simp) (hb hby at_167) ?_ (by decide) (by decide)
      exact ⟨rfl, N17⟩
  · refine oS (u' := T17.setTop (mkF m 67 #[.val (.int p1), .val (.int p2), .val (.int p3), .val (.int p4), .val (.int p5), .val (.int (own_na p1)), .val (.int (own_na p2)), .val (.int (own_sel p5)), .val (.int (own_nb p1 p2 p5)), .val (.ref b14), .val (.ref b16), .unset, .unset, .unset, .unset] [])) (fun _ kst => XS.icmpNo X17.here hx rfl (hb hby at_64) rfl (flt hc18).2.2.1 kst) ?_
    refine oS (u' := T17.setTop (mkF m 69 #[.val (.int p1), .val (.int p2), .val (.int p3), .val (.int p4), .val (.int p5), .val (.int (own_na p1)), .val (.int (own_na p2)), .val (.int (own_sel p5)), .val (.int (own_nb p1 p2 p5)), .val (.ref b14), .val (.ref b16), .unset, .unset, .unset, .unset] [(.ref b16)])) (fun _ kst => XS.aload X17.here hx rfl (hb hby at_67) rfl rfl kst) ?_
    refine oS (u' := T17.setTop (mkF m 71 #[.val (.int p1), .val (.int p2), .val (.int p3), .val (.int p4), .val (.int p5), .val (.int (own_na p1)), .val (.int (own_na p2)), .val (.int (own_sel p5)), .val (.int (own_nb p1 p2 p5)), .val (.ref b14), .val (.ref b16), .val (.ref b16), .unset, .unset, .unset] [])) (fun _ kst => XS.astore X17.here hx rfl (hb hby at_69) rfl rfl (l' := #[.val (.int p1), .val (.int p2), .val (.int p3), .val (.int p4), .val (.int p5), .val (.int (own_na p1)), .val (.int (own_na p2)), .val (.int (own_sel p5)), .val (.int (own_nb p1 p2 p5)), .val (.ref b14), .val (.ref b16), .val (.ref b16), .unset, .unset, .unset]) rfl kst) ?_
    refine oS (u' := T17.setTop (mkF m 93 #[.val (.int p1), .val (.int p2), .val (.int p3), .val (.int p4), .val (.int p5), .val (.int (own_na p1)), .val (.int (own_na p2)), .val (.int (own_sel p5)), .val (.int (own_nb p1 p2 p5)), .val (.ref b14), .val (.ref b16), .val (.ref b16), .unset, .unset, .unset] [])) (fun _ kst => XS.goto X17.here hx rfl (pc0 := 71) (pc' := 93) rfl (hb hby at_71) (by decide) (by decide) kst) ?_
    refine oS (u' := T17.setTop (mkF m 95 #[.val (.int p1), .val (.int p2), .val (.int p3), .val (.int p4), .val (.int p5), .val (.int (own_na p1)), .val (.int (own_na p2)), .val (.int (own_sel p5)), .val (.int (own_nb p1 p2 p5)), .val (.ref b14), .val (.ref b16), .val (.ref b16), .unset, .unset, .unset] [(.int (own_sel p5))])) (fun _ kst => XS.iload X17.here hx rfl (hb hby at_93) rfl kst) ?_
    refine oS (u' := T17.setTop (mkF m 96 #[.val (.int p1), .val (.int p2), .val (.int p3), .val (.int p4), .val (.int p5), .val (.int (own_na p1)), .val (.int (own_na p2)), .val (.int (own_sel p5)), .val (.int (own_nb p1 p2 p5)), .val (.ref b14), .val (.ref b16), .val (.ref b16), .unset, .unset, .unset] [(.int (1 : Int32)), (.int (own_sel p5))])) (fun _ kst => XS.iconst X17.here hx rfl (hb hby at_95) kst) ?_
    refine oS (u' := T17.setTop (mkF m 99 #[.val (.int p1), .val (.int p2), .val (.int p3), .val (.int p4), .val (.int p5), .val (.int (own_na p1)), .val (.int (own_na p2)), .val (.int (own_sel p5)), .val (.int (own_nb p1 p2 p5)), .val (.ref b14), .val (.ref b16), .val (.ref b16), .unset, .unset, .unset] [])) (fun _ kst => XS.icmpNo X17.here hx rfl (hb hby at_96) rfl (flt hc18).2.2.1 kst) ?_
    refine oS (u' := T17.setTop (mkF m 101 #[.val (.int p1), .val (.int p2), .val (.int p3), .val (.int p4), .val (.int p5), .val (.int (own_na p1)), .val (.int (own_na p2)), .val (.int (own_sel p5)), .val (.int (own_nb p1 p2 p5)), .val (.ref b14), .val (.ref b16), .val (.ref b16), .unset, .unset, .unset] [(.int (own_na p1))])) (fun _ kst => XS.iload X17.here hx rfl (hb hby at_99) rfl kst) ?_
    refine oS (u' := T17.setTop (mkF m 103 #[.val (.int p1), .val (.int p2), .val (.int p3), .val (.int p4), .val (.int p5), .val (.int (own_na p1)), .val (.int (own_na p2)), .val (.int (own_sel p5)), .val (.int (own_nb p1 p2 p5)), .val (.ref b14), .val (.ref b16), .val (.ref b16), .unset, .unset, .unset] [(.int (own_nb p1 p2 p5)), (.int (own_na p1))])) (fun _ kst => XS.iload X17.here hx rfl (hb hby at_101) rfl kst) ?_
    have km24 : ∀ t, Steps p.tables e below (T17.setTop (mkF m 111 #[.val (.int p1), .val (.int p2), .val (.int p3), .val (.int p4), .val (.int p5), .val (.int (own_na p1)), .val (.int (own_na p2)), .val (.int (own_sel p5)), .val (.int (own_nb p1 p2 p5)), .val (.ref b14), .val (.ref b16), .val (.ref b16), .unset, .unset, .unset] [(.int (if (own_na p1) = (own_nb p1 p2 p5) then (1 : Int32) else (0 : Int32)))])) t → Steps p.tables e below (T17.setTop (mkF m 103 #[.val (.int p1), .val (.int p2), .val (.int p3), .val (.int p4), .val (.int p5), .val (.int (own_na p1)), .val (.int (own_na p2)), .val (.int (own_sel p5)), .val (.int (own_nb p1 p2 p5)), .val (.ref b14), .val (.ref b16), .val (.ref b16), .unset, .unset, .unset] [(.int (own_nb p1 p2 p5)), (.int (own_na p1))])) t := by
      intro tgt kst
      by_cases hc23 : (own_na p1) = (own_nb p1 p2 p5)
      · rw [show (if (own_na p1) = (own_nb p1 p2 p5) then (1 : Int32) else (0 : Int32)) = (1 : Int32) from if_pos hc23] at kst
        refine XS.icmpNo X17.here hx rfl (hb hby at_103) rfl (teq hc23).2 ?_
        show Steps p.tables e below (T17.setTop (mkF m 106 #[.val (.int p1), .val (.int p2), .val (.int p3), .val (.int p4), .val (.int p5), .val (.int (own_na p1)), .val (.int (own_na p2)), .val (.int (own_sel p5)), .val (.int (own_nb p1 p2 p5)), .val (.ref b14), .val (.ref b16), .val (.ref b16), .unset, .unset, .unset] [])) _
        refine XS.iconst X17.here hx rfl (hb hby at_106) ?_
        show Steps p.tables e below (T17.setTop (mkF m 107 #[.val (.int p1), .val (.int p2), .val (.int p3), .val (.int p4), .val (.int p5), .val (.int (own_na p1)), .val (.int (own_na p2)), .val (.int (own_sel p5)), .val (.int (own_nb p1 p2 p5)), .val (.ref b14), .val (.ref b16), .val (.ref b16), .unset, .unset, .unset] [(.int (1 : Int32))])) _
        refine XS.goto X17.here hx rfl (pc0 := 107) (pc' := 111) rfl (hb hby at_107) (by decide) (by decide) ?_
        show Steps p.tables e below (T17.setTop (mkF m 111 #[.val (.int p1), .val (.int p2), .val (.int p3), .val (.int p4), .val (.int p5), .val (.int (own_na p1)), .val (.int (own_na p2)), .val (.int (own_sel p5)), .val (.int (own_nb p1 p2 p5)), .val (.ref b14), .val (.ref b16), .val (.ref b16), .unset, .unset, .unset] [(.int (1 : Int32))])) _
        exact kst
      · rw [show (if (own_na p1) = (own_nb p1 p2 p5) then (1 : Int32) else (0 : Int32)) = (0 : Int32) from if_neg hc23] at kst
        refine XS.icmpYes X17.here hx rfl (pc0 := 103) (pc' := 110) rfl (hb hby at_103) rfl (feq hc23).2 (by decide) (by decide) ?_
        show Steps p.tables e below (T17.setTop (mkF m 110 #[.val (.int p1), .val (.int p2), .val (.int p3), .val (.int p4), .val (.int p5), .val (.int (own_na p1)), .val (.int (own_na p2)), .val (.int (own_sel p5)), .val (.int (own_nb p1 p2 p5)), .val (.ref b14), .val (.ref b16), .val (.ref b16), .unset, .unset, .unset] [])) _
        refine XS.iconst X17.here hx rfl (hb hby at_110) ?_
        show Steps p.tables e below (T17.setTop (mkF m 111 #[.val (.int p1), .val (.int p2), .val (.int p3), .val (.int p4), .val (.int p5), .val (.int (own_na p1)), .val (.int (own_na p2)), .val (.int (own_sel p5)), .val (.int (own_nb p1 p2 p5)), .val (.ref b14), .val (.ref b16), .val (.ref b16), .unset, .unset, .unset] [(.int (0 : Int32))])) _
        exact kst
    refine oS (u' := T17.setTop (mkF m 111 #[.val (.int p1), .val (.int p2), .val (.int p3), .val (.int p4), .val (.int p5), .val (.int (own_na p1)), .val (.int (own_na p2)), .val (.int (own_sel p5)), .val (.int (own_nb p1 p2 p5)), .val (.ref b14), .val (.ref b16), .val (.ref b16), .unset, .unset, .unset] [(.int (if (own_na p1) = (own_nb p1 p2 p5) then (1 : Int32) else (0 : Int32)))])) km24 ?_
    refine oS (u' := T17.setTop (mkF m 113 #[.val (.int p1), .val (.int p2), .val (.int p3), .val (.int p4), .val (.int p5), .val (.int (own_na p1)), .val (.int (own_na p2)), .val (.int (own_sel p5)), .val (.int (own_nb p1 p2 p5)), .val (.ref b14), .val (.ref b16), .val (.ref b16), .val (.int (if (own_na p1) = (own_nb p1 p2 p5) then (1 : Int32) else (0 : Int32))), .unset, .unset] [])) (fun _ kst => XS.istore X17.here hx rfl (hb hby at_111) rfl (l' := #[.val (.int p1), .val (.int p2), .val (.int p3), .val (.int p4), .val (.int p5), .val (.int (own_na p1)), .val (.int (own_na p2)), .val (.int (own_sel p5)), .val (.int (own_nb p1 p2 p5)), .val (.ref b14), .val (.ref b16), .val (.ref b16), .val (.int (if (own_na p1) = (own_nb p1 p2 p5) then (1 : Int32) else (0 : Int32))), .unset, .unset]) rfl kst) ?_
    refine oS (u' := T17.setTop (mkF m 115 #[.val (.int p1), .val (.int p2), .val (.int p3), .val (.int p4), .val (.int p5), .val (.int (own_na p1)), .val (.int (own_na p2)), .val (.int (own_sel p5)), .val (.int (own_nb p1 p2 p5)), .val (.ref b14), .val (.ref b16), .val (.ref b16), .val (.int (if (own_na p1) = (own_nb p1 p2 p5) then (1 : Int32) else (0 : Int32))), .unset, .unset] [(.ref b14)])) (fun _ kst => XS.aload X17.here hx rfl (hb hby at_113) rfl rfl kst) ?_
    refine oS (u' := T17.setTop (mkF m 117 #[.val (.int p1), .val (.int p2), .val (.int p3), .val (.int p4), .val (.int p5), .val (.int (own_na p1)), .val (.int (own_na p2)), .val (.int (own_sel p5)), .val (.int (own_nb p1 p2 p5)), .val (.ref b14), .val (.ref b16), .val (.ref b16), .val (.int (if (own_na p1) = (own_nb p1 p2 p5) then (1 : Int32) else (0 : Int32))), .unset, .unset] [(.ref b16), (.ref b14)])) (fun _ kst => XS.aload X17.here hx rfl (hb hby at_115) rfl rfl kst) ?_
    obtain ⟨T25, X25, e25, st25⟩ := own_callVP X17 hx hZ (y := (⟨"com/example/predicant/predicant/propositional/PropositionalAlgebra", "equals", "(Ljava/lang/Object;)Z"⟩ : MethodName)) (z := (⟨"com/example/predicant/predicant/propositional/PropositionalAlgebra", "equals", "(Ljava/lang/Object;)Z"⟩ : MethodName)) hown (hw _ (List.mem_of_getElem? (i := 13) rfl)) (hw _ (List.mem_of_getElem? (i := 14) rfl)) (notFace_of_selects (args := #[]) (mvT hZ (hw _ (List.mem_of_getElem? (i := 16) rfl)))) (hw _ (List.mem_of_getElem? (i := 16) rfl)) (hw _ (List.mem_of_getElem? (i := 15) rfl)) (by decide) rfl f17_E_b14 (W := 0) (own_rm_pe l Z a0 hw b14 b16 (own_na p1) (own_nb p1 p2 p5) T17.heap f17_E_b16 f17_F_b14_m_nVariables Fv17) (hw _ (List.mem_of_getElem? (i := 17) rfl)) (hw _ (List.mem_of_getElem? (i := 2) rfl)) (by decide) (by decide) (g := (mkF m 117 #[.val (.int p1), .val (.int p2), .val (.int p3), .val (.int p4), .val (.int p5), .val (.int (own_na p1)), .val (.int (own_na p2)), .val (.int (own_sel p5)), .val (.int (own_nb p1 p2 p5)), .val (.ref b14), .val (.ref b16), .val (.ref b16), .val (.int (if (own_na p1) = (own_nb p1 p2 p5) then (1 : Int32) else (0 : Int32))), .unset, .unset] [(.ref b16), (.ref b14)])) rfl (by rw [hml]; rfl) (b := b14) (argsL := [(.ref b16)]) (rest := []) (lenOf own_pd3 rfl) rfl (by show 2 * 0 + _ ≤ _; exact Nat.le_of_eq rfl) (hb hby at_117) (by decide) (by decide)
    refine oS (u' := T25.setTop (mkF m 120 #[.val (.int p1), .val (.int p2), .val (.int p3), .val (.int p4), .val (.int p5), .val (.int (own_na p1)), .val (.int (own_na p2)), .val (.int (own_sel p5)), .val (.int (own_nb p1 p2 p5)), .val (.ref b14), .val (.ref b16), .val (.ref b16), .val (.int (if (own_na p1) = (own_nb p1 p2 p5) then (1 : Int32) else (0 : Int32))), .unset, .unset] [(.int (own_pe b14 b16 (own_na p1) (own_nb p1 p2 p5)))])) st25 ?_
    refine oS (u' := T25.setTop (mkF m 122 #[.val (.int p1), .val (.int p2), .val (.int p3), .val (.int p4), .val (.int p5), .val (.int (own_na p1)), .val (.int (own_na p2)), .val (.int (own_sel p5)), .val (.int (own_nb p1 p2 p5)), .val (.ref b14), .val (.ref b16), .val (.ref b16), .val (.int (if (own_na p1) = (own_nb p1 p2 p5) then (1 : Int32) else (0 : Int32))), .val (.int (own_pe b14 b16 (own_na p1) (own_nb p1 p2 p5))), .unset] [])) (fun _ kst => XS.istore X25.here hx rfl (hb hby at_120) rfl (l' := #[.val (.int p1), .val (.int p2), .val (.int p3), .val (.int p4), .val (.int p5), .val (.int (own_na p1)), .val (.int (own_na p2)), .val (.int (own_sel p5)), .val (.int (own_nb p1 p2 p5)), .val (.ref b14), .val (.ref b16), .val (.ref b16), .val (.int (if (own_na p1) = (own_nb p1 p2 p5) then (1 : Int32) else (0 : Int32))), .val (.int (own_pe b14 b16 (own_na p1) (own_nb p1 p2 p5))), .unset]) rfl kst) ?_
    refine oS (u' := T25.setTop (mkF m 123 #[.val (.int p1), .val (.int p2), .val (.int p3), .val (.int p4), .val (.int p5), .val (.int (own_na p1)), .val (.int (own_na p2)), .val (.int (own_sel p5)), .val (.int (own_nb p1 p2 p5)), .val (.ref b14), .val (.ref b16), .val (.ref b16), .val (.int (if (own_na p1) = (own_nb p1 p2 p5) then (1 : Int32) else (0 : Int32))), .val (.int (own_pe b14 b16 (own_na p1) (own_nb p1 p2 p5))), .unset] [(.int (1 : Int32))])) (fun _ kst => XS.iconst X25.here hx rfl (hb hby at_122) kst) ?_
    refine oS (u' := T25.setTop (mkF m 125 #[.val (.int p1), .val (.int p2), .val (.int p3), .val (.int p4), .val (.int p5), .val (.int (own_na p1)), .val (.int (own_na p2)), .val (.int (own_sel p5)), .val (.int (own_nb p1 p2 p5)), .val (.ref b14), .val (.ref b16), .val (.ref b16), .val (.int (if (own_na p1) = (own_nb p1 p2 p5) then (1 : Int32) else (0 : Int32))), .val (.int (own_pe b14 b16 (own_na p1) (own_nb p1 p2 p5))), .val (.int (1 : Int32))] [])) (fun _ kst => XS.istore X25.here hx rfl (hb hby at_123) rfl (l' := #[.val (.int p1), .val (.int p2), .val (.int p3), .val (.int p4), .val (.int p5), .val (.int (own_na p1)), .val (.int (own_na p2)), .val (.int (own_sel p5)), .val (.int (own_nb p1 p2 p5)), .val (.ref b14), .val (.ref b16), .val (.ref b16), .val (.int (if (own_na p1) = (own_nb p1 p2 p5) then (1 : Int32) else (0 : Int32))), .val (.int (own_pe b14 b16 (own_na p1) (own_nb p1 p2 p5))), .val (.int (1 : Int32))]) rfl kst) ?_
    refine oS (u' := T25.setTop (mkF m 127 #[.val (.int p1), .val (.int p2), .val (.int p3), .val (.int p4), .val (.int p5), .val (.int (own_na p1)), .val (.int (own_na p2)), .val (.int (own_sel p5)), .val (.int (own_nb p1 p2 p5)), .val (.ref b14), .val (.ref b16), .val (.ref b16), .val (.int (if (own_na p1) = (own_nb p1 p2 p5) then (1 : Int32) else (0 : Int32))), .val (.int (own_pe b14 b16 (own_na p1) (own_nb p1 p2 p5))), .val (.int (1 : Int32))] [(.int (own_sel p5))])) (fun _ kst => XS.iload X25.here hx rfl (hb hby at_125) rfl kst) ?_
    refine oS (u' := T25.setTop (mkF m 128 #[.val (.int p1), .val (.int p2), .val (.int p3), .val (.int p4), .val (.int p5), .val (.int (own_na p1)), .val (.int (own_na p2)), .val (.int (own_sel p5)), .val (.int (own_nb p1 p2 p5)), .val (.ref b14), .val (.ref b16), .val (.ref b16), .val (.int (if (own_na p1) = (own_nb p1 p2 p5) then (1 : Int32) else (0 : Int32))), .val (.int (own_pe b14 b16 (own_na p1) (own_nb p1 p2 p5))), .val (.int (1 : Int32))] [(.int (1 : Int32)), (.int (own_sel p5))])) (fun _ kst => XS.iconst X25.here hx rfl (hb hby at_127) kst) ?_
    refine oS (u' := T25.setTop (mkF m 131 #[.val (.int p1), .val (.int p2), .val (.int p3), .val (.int p4), .val (.int p5), .val (.int (own_na p1)), .val (.int (own_na p2)), .val (.int (own_sel p5)), .val (.int (own_nb p1 p2 p5)), .val (.ref b14), .val (.ref b16), .val (.ref b16), .val (.int (if (own_na p1) = (own_nb p1 p2 p5) then (1 : Int32) else (0 : Int32))), .val (.int (own_pe b14 b16 (own_na p1) (own_nb p1 p2 p5))), .val (.int (1 : Int32))] [])) (fun _ kst => XS.icmpNo X25.here hx rfl (hb hby at_128) rfl (flt hc18).2.2.1 kst) ?_
    refine oS (u' := T25.setTop (mkF m 133 #[.val (.int p1), .val (.int p2), .val (.int p3), .val (.int p4), .val (.int p5), .val (.int (own_na p1)), .val (.int (own_na p2)), .val (.int (own_sel p5)), .val (.int (own_nb p1 p2 p5)), .val (.ref b14), .val (.ref b16), .val (.ref b16), .val (.int (if (own_na p1) = (own_nb p1 p2 p5) then (1 : Int32) else (0 : Int32))), .val (.int (own_pe b14 b16 (own_na p1) (own_nb p1 p2 p5))), .val (.int (1 : Int32))] [(.ref b16)])) (fun _ kst => XS.aload X25.here hx rfl (hb hby at_131) rfl rfl kst) ?_
    refine oS (u' := T25.setTop (mkF m 135 #[.val (.int p1), .val (.int p2), .val (.int p3), .val (.int p4), .val (.int p5), .val (.int (own_na p1)), .val (.int (own_na p2)), .val (.int (own_sel p5)), .val (.int (own_nb p1 p2 p5)), .val (.ref b14), .val (.ref b16), .val (.ref b16), .val (.int (if (own_na p1) = (own_nb p1 p2 p5) then (1 : Int32) else (0 : Int32))), .val (.int (own_pe b14 b16 (own_na p1) (own_nb p1 p2 p5))), .val (.int (1 : Int32))] [(.ref b14), (.ref b16)])) (fun _ kst => XS.aload X25.here hx rfl (hb hby at_133) rfl rfl kst) ?_
    obtain ⟨T26, X26, e26, st26⟩ := own_callVP X25 hx hZ (y := (⟨"com/example/predicant/predicant/propositional/PropositionalAlgebra", "equals", "(Ljava/lang/Object;)Z"⟩ : MethodName)) (z := (⟨"com/example/predicant/predicant/propositional/PropositionalAlgebra", "equals", "(Ljava/lang/Object;)Z"⟩ : MethodName)) hown (hw _ (List.mem_of_getElem? (i := 13) rfl)) (hw _ (List.mem_of_getElem? (i := 14) rfl)) (notFace_of_selects (args := #[]) (mvT hZ (hw _ (List.mem_of_getElem? (i := 16) rfl)))) (hw _ (List.mem_of_getElem? (i := 16) rfl)) (hw _ (List.mem_of_getElem? (i := 15) rfl)) (by decide) e25 f17_E_b16 (W := 0) (own_rm_pe l Z a0 hw b16 b14 (own_nb p1 p2 p5) (own_na p1) T17.heap f17_E_b14 Fv17 f17_F_b14_m_nVariables) (hw _ (List.mem_of_getElem? (i := 17) rfl)) (hw _ (List.mem_of_getElem? (i := 2) rfl)) (by decide) (by decide) (g := (mkF m 135 #[.val (.int p1), .val (.int p2), .val (.int p3), .val (.int p4), .val (.int p5), .val (.int (own_na p1)), .val (.int (own_na p2)), .val (.int (own_sel p5)), .val (.int (own_nb p1 p2 p5)), .val (.ref b14), .val (.ref b16), .val (.ref b16), .val (.int (if (own_na p1) = (own_nb p1 p2 p5) then (1 : Int32) else (0 : Int32))), .val (.int (own_pe b14 b16 (own_na p1) (own_nb p1 p2 p5))), .val (.int (1 : Int32))] [(.ref b14), (.ref b16)])) rfl (by rw [hml]; rfl) (b := b16) (argsL := [(.ref b14)]) (rest := []) (lenOf own_pd3 rfl) rfl (by show 2 * 0 + _ ≤ _; exact Nat.le_of_eq rfl) (hb hby at_135) (by decide) (by decide)
    refine oS (u' := T26.setTop (mkF m 138 #[.val (.int p1), .val (.int p2), .val (.int p3), .val (.int p4), .val (.int p5), .val (.int (own_na p1)), .val (.int (own_na p2)), .val (.int (own_sel p5)), .val (.int (own_nb p1 p2 p5)), .val (.ref b14), .val (.ref b16), .val (.ref b16), .val (.int (if (own_na p1) = (own_nb p1 p2 p5) then (1 : Int32) else (0 : Int32))), .val (.int (own_pe b14 b16 (own_na p1) (own_nb p1 p2 p5))), .val (.int (1 : Int32))] [(.int (own_pe b16 b14 (own_nb p1 p2 p5) (own_na p1)))])) st26 ?_
    refine oS (u' := T26.setTop (mkF m 140 #[.val (.int p1), .val (.int p2), .val (.int p3), .val (.int p4), .val (.int p5), .val (.int (own_na p1)), .val (.int (own_na p2)), .val (.int (own_sel p5)), .val (.int (own_nb p1 p2 p5)), .val (.ref b14), .val (.ref b16), .val (.ref b16), .val (.int (if (own_na p1) = (own_nb p1 p2 p5) then (1 : Int32) else (0 : Int32))), .val (.int (own_pe b14 b16 (own_na p1) (own_nb p1 p2 p5))), .val (.int (1 : Int32))] [(.int (own_pe b14 b16 (own_na p1) (own_nb p1 p2 p5))), (.int (own_pe b16 b14 (own_nb p1 p2 p5) (own_na p1)))])) (fun _ kst => XS.iload X26.here hx rfl (hb hby at_138) rfl kst) ?_
    refine oS (u' := T26.setTop (mkF m 143 #[.val (.int p1), .val (.int p2), .val (.int p3), .val (.int p4), .val (.int p5), .val (.int (own_na p1)), .val (.int (own_na p2)), .val (.int (own_sel p5)), .val (.int (own_nb p1 p2 p5)), .val (.ref b14), .val (.ref b16), .val (.ref b16), .val (.int (if (own_na p1) = (own_nb p1 p2 p5) then (1 : Int32) else (0 : Int32))), .val (.int (own_pe b14 b16 (own_na p1) (own_nb p1 p2 p5))), .val (.int (1 : Int32))] [])) (fun _ kst => XS.icmpNo X26.here hx rfl (hb hby at_140) rfl (teq (own_psym _ _ _ _)).2 kst) ?_
    refine oS (u' := T26.setTop (mkF m 144 #[.val (.int p1), .val (.int p2), .val (.int p3), .val (.int p4), .val (.int p5), .val (.int (own_na p1)), .val (.int (own_na p2)), .val (.int (own_sel p5)), .val (.int (own_nb p1 p2 p5)), .val (.ref b14), .val (.ref b16), .val (.ref b16), .val (.int (if (own_na p1) = (own_nb p1 p2 p5) then (1 : Int32) else (0 : Int32))), .val (.int (own_pe b14 b16 (own_na p1) (own_nb p1 p2 p5))), .val (.int (1 : Int32))] [(.int (1 : Int32))])) (fun _ kst => XS.iconst X26.here hx rfl (hb hby at_143) kst) ?_
    refine oS (u' := T26.setTop (mkF m 148 #[.val (.int p1), .val (.int p2), .val (.int p3), .val (.int p4), .val (.int p5), .val (.int (own_na p1)), .val (.int (own_na p2)), .val (.int (own_sel p5)), .val (.int (own_nb p1 p2 p5)), .val (.ref b14), .val (.ref b16), .val (.ref b16), .val (.int (if (own_na p1) = (own_nb p1 p2 p5) then (1 : Int32) else (0 : Int32))), .val (.int (own_pe b14 b16 (own_na p1) (own_nb p1 p2 p5))), .val (.int (1 : Int32))] [(.int (1 : Int32))])) (fun _ kst => XS.goto X26.here hx rfl (pc0 := 144) (pc' := 148) rfl (hb hby at_144) (by decide) (by decide) kst) ?_
    refine oS (u' := T26.setTop (mkF m 150 #[.val (.int p1), .val (.int p2), .val (.int p3), .val (.int p4), .val (.int p5), .val (.int (own_na p1)), .val (.int (own_na p2)), .val (.int (own_sel p5)), .val (.int (own_nb p1 p2 p5)), .val (.ref b14), .val (.ref b16), .val (.ref b16), .val (.int (if (own_na p1) = (own_nb p1 p2 p5) then (1 : Int32) else (0 : Int32))), .val (.int (own_pe b14 b16 (own_na p1) (own_nb p1 p2 p5))), .val (.int (1 : Int32))] [])) (fun _ kst => XS.istore X26.here hx rfl (hb hby at_148) rfl (l' := #[.val (.int p1), .val (.int p2), .val (.int p3), .val (.int p4), .val (.int p5), .val (.int (own_na p1)), .val (.int (own_na p2)), .val (.int (own_sel p5)), .val (.int (own_nb p1 p2 p5)), .val (.ref b14), .val (.ref b16), .val (.ref b16), .val (.int (if (own_na p1) = (own_nb p1 p2 p5) then (1 : Int32) else (0 : Int32))), .val (.int (own_pe b14 b16 (own_na p1) (own_nb p1 p2 p5))), .val (.int (1 : Int32))]) rfl kst) ?_
    refine oS (u' := T26.setTop (mkF m 152 #[.val (.int p1), .val (.int p2), .val (.int p3), .val (.int p4), .val (.int p5), .val (.int (own_na p1)), .val (.int (own_na p2)), .val (.int (own_sel p5)), .val (.int (own_nb p1 p2 p5)), .val (.ref b14), .val (.ref b16), .val (.ref b16), .val (.int (if (own_na p1) = (own_nb p1 p2 p5) then (1 : Int32) else (0 : Int32))), .val (.int (own_pe b14 b16 (own_na p1) (own_nb p1 p2 p5))), .val (.int (1 : Int32))] [(.int (own_pe b14 b16 (own_na p1) (own_nb p1 p2 p5)))])) (fun _ kst => XS.iload X26.here hx rfl (hb hby at_150) rfl kst) ?_
    refine oS (u' := T26.setTop (mkF m 154 #[.val (.int p1), .val (.int p2), .val (.int p3), .val (.int p4), .val (.int p5), .val (.int (own_na p1)), .val (.int (own_na p2)), .val (.int (own_sel p5)), .val (.int (own_nb p1 p2 p5)), .val (.ref b14), .val (.ref b16), .val (.ref b16), .val (.int (if (own_na p1) = (own_nb p1 p2 p5) then (1 : Int32) else (0 : Int32))), .val (.int (own_pe b14 b16 (own_na p1) (own_nb p1 p2 p5))), .val (.int (1 : Int32))] [(.int (if (own_na p1) = (own_nb p1 p2 p5) then (1 : Int32) else (0 : Int32))), (.int (own_pe b14 b16 (own_na p1) (own_nb p1 p2 p5)))])) (fun _ kst => XS.iload X26.here hx rfl (hb hby at_152) rfl kst) ?_
    refine oS (u' := T26.setTop (mkF m 157 #[.val (.int p1), .val (.int p2), .val (.int p3), .val (.int p4), .val (.int p5), .val (.int (own_na p1)), .val (.int (own_na p2)), .val (.int (own_sel p5)), .val (.int (own_nb p1 p2 p5)), .val (.ref b14), .val (.ref b16), .val (.ref b16), .val (.int (if (own_na p1) = (own_nb p1 p2 p5) then (1 : Int32) else (0 : Int32))), .val (.int (own_pe b14 b16 (own_na p1) (own_nb p1 p2 p5))), .val (.int (1 : Int32))] [])) (fun _ kst => XS.icmpNo X26.here hx rfl (hb hby at_154) rfl (teq (own_pgot _ _ _ _)).2 kst) ?_
    refine oS (u' := T26.setTop (mkF m 159 #[.val (.int p1), .val (.int p2), .val (.int p3), .val (.int p4), .val (.int p5), .val (.int (own_na p1)), .val (.int (own_na p2)), .val (.int (own_sel p5)), .val (.int (own_nb p1 p2 p5)), .val (.ref b14), .val (.ref b16), .val (.ref b16), .val (.int (if (own_na p1) = (own_nb p1 p2 p5) then (1 : Int32) else (0 : Int32))), .val (.int (own_pe b14 b16 (own_na p1) (own_nb p1 p2 p5))), .val (.int (1 : Int32))] [(.int (1 : Int32))])) (fun _ kst => XS.iload X26.here hx rfl (hb hby at_157) rfl kst) ?_
    refine oS (u' := T26.setTop (mkF m 162 #[.val (.int p1), .val (.int p2), .val (.int p3), .val (.int p4), .val (.int p5), .val (.int (own_na p1)), .val (.int (own_na p2)), .val (.int (own_sel p5)), .val (.int (own_nb p1 p2 p5)), .val (.ref b14), .val (.ref b16), .val (.ref b16), .val (.int (if (own_na p1) = (own_nb p1 p2 p5) then (1 : Int32) else (0 : Int32))), .val (.int (own_pe b14 b16 (own_na p1) (own_nb p1 p2 p5))), .val (.int (1 : Int32))] [])) (fun _ kst => XS.ifNo X26.here hx rfl (hb hby at_159) rfl ((if0 _ _).trans (feq (by decide : ¬ ((1 : Int32) = (0 : Int32)))).1) kst) ?_
    refine oS (u' := T26.setTop (mkF m 163 #[.val (.int p1), .val (.int p2), .val (.int p3), .val (.int p4), .val (.int p5), .val (.int (own_na p1)), .val (.int (own_na p2)), .val (.int (own_sel p5)), .val (.int (own_nb p1 p2 p5)), .val (.ref b14), .val (.ref b16), .val (.ref b16), .val (.int (if (own_na p1) = (own_nb p1 p2 p5) then (1 : Int32) else (0 : Int32))), .val (.int (own_pe b14 b16 (own_na p1) (own_nb p1 p2 p5))), .val (.int (1 : Int32))] [(.int (1 : Int32))])) (fun _ kst => XS.iconst X26.here hx rfl (hb hby at_162) kst) ?_
    refine oS (u' := T26.setTop (mkF m 167 #[.val (.int p1), .val (.int p2), .val (.int p3), .val (.int p4), .val (.int p5), .val (.int (own_na p1)), .val (.int (own_na p2)), .val (.int (own_sel p5)), .val (.int (own_nb p1 p2 p5)), .val (.ref b14), .val (.ref b16), .val (.ref b16), .val (.int (if (own_na p1) = (own_nb p1 p2 p5) then (1 : Int32) else (0 : Int32))), .val (.int (own_pe b14 b16 (own_na p1) (own_nb p1 p2 p5))), .val (.int (1 : Int32))] [(.int (1 : Int32))])) (fun _ kst => XS.goto X26.here hx rfl (pc0 := 163) (pc' := 167) rfl (hb hby at_163) (by decide) (by decide) kst) ?_
    refine own_retN X26 hx hlk (t := .boolean) hret (by simp) (hb hby at_167) ?_ (by decide) (by decide)
    exact ⟨rfl, N17⟩
set_option maxRecDepth 65536 in
set_option maxHeartbeats 40000000 in
theorem comes_1 {Post : Tables → Env → Array Value → State → Outcome → State → Prop} (hpost : ∀ tb e args s v u, (limb_1_1.after args s (.returned v) u = true ∧ limb_1_2.after args s (.returned v) u = true ∧ True) → FrameEnd s (.returned v) u (Jvm.fieldLocs frame_1_writes args s ++ Jvm.arrayLocs frame_1_arrays args s ++ Jvm.staticLocs frame_1_statics s) 16 128 → Post tb e args s (.returned v) u) :
    ArmFor flags0 classFile x code maxLocals ret World_1 tables_1 room_1 Calls_1 rest_1 Pre_1 Post := by
  intro l hfl _ _ p e ha hc hk s m args below hf hA hF happ hP
  obtain ⟨hcalls, hrest, hpre⟩ := hP
  obtain ⟨-, -, -, hnamed, -, -, -, hat⟩ := (Spec.applies_iff hf).mp happ
  obtain ⟨hg, hn⟩ := and_e (Cond.before_iff.mp (show (Jvm.Cond.and given_1 narrow_1).before args s = true from hpre))
  obtain ⟨g0, gg0⟩ := and_e hg
  obtain ⟨g1, gg1⟩ := and_e gg0
  obtain ⟨g2, gg2⟩ := and_e gg1
  obtain ⟨g3, gg3⟩ := and_e gg2
  obtain ⟨g4, gg4⟩ := and_e gg3
  obtain ⟨w0, w1, w2, w3, w4, rfl⟩ : ∃ w0 w1 w2 w3 w4 : Value, args = #[w0, w1, w2, w3, w4] := by
    have hs : args.size = 5 := by simpa [Cond.value, given_1] using g0
    obtain ⟨L⟩ := args
    match L, hs with
    | [w0, w1, w2, w3, w4], _ => exact ⟨w0, w1, w2, w3, w4, rfl⟩
  have hw := fun d (hd : d ∈ tables_1) => atoms_spec (ws := Jvm.Cond.code x code maxLocals ret :: tables_1) hat d (List.mem_cons_of_mem _ hd)
  have hfit : Fit s := fun {y c} hc i hi => by
    obtain ⟨ha, rfl⟩ := Array.getElem?_eq_some_iff.mp hc
    have q := List.all_eq_true.mp ((Array.all_eq_true_iff_forall_mem.mp hF) _ (Array.getElem_mem ha)) i (List.mem_range.mpr hi)
    simpa [Array.getElem?_eq_getElem hi] using q
  obtain ⟨i0, ei0⟩ := is_v g1
  obtain rfl : w0 = (.int i0) := Option.some.inj ei0
  obtain ⟨i1, ei1⟩ := is_v g2
  obtain rfl : w1 = (.int i1) := Option.some.inj ei1
  obtain ⟨i2, ei2⟩ := is_v g3
  obtain rfl : w2 = (.int i2) := Option.some.inj ei2
  obtain ⟨i3, ei3⟩ := is_v g4
  obtain rfl : w3 = (.int i3) := Option.some.inj ei3
  obtain ⟨i4, ei4⟩ := is_v gg4
  obtain rfl : w4 = (.int i4) := Option.some.inj ei4
  obtain ⟨hsets, hown0⟩ := atoms_of _ (rest_1_c_eq ▸ (show rest_1_c.before _ s = true from hrest))
  have s3 := Cond.before_iff.mp (hsets _ (List.mem_of_getElem? (i := 3) rfl))
  have s4 := Cond.before_iff.mp (hsets _ (List.mem_of_getElem? (i := 4) rfl))
  have s6 := Cond.before_iff.mp (hsets _ (List.mem_of_getElem? (i := 6) rfl))
  have s7 := Cond.before_iff.mp (hsets _ (List.mem_of_getElem? (i := 7) rfl))
  have SH := Sta.start (own_eq_int s3) (Or.inr ⟨(hw _ (List.mem_of_getElem? (i := 25) rfl)), hsets _ (List.mem_of_getElem? (i := 0) rfl)⟩)
  obtain ⟨ca, vC⟩ := arr_v s4
  have SC := Sta.start vC (Or.inr ⟨(hw _ (List.mem_of_getElem? (i := 25) rfl)), hsets _ (List.mem_of_getElem? (i := 2) rfl)⟩)
  have CA := own_cache_start (fun _ => vC) s4 (own_eq_int s6) s7
  obtain ⟨n, o, h1, h2, h3, _, L, rfl, ⟨rfl, N⟩, hq⟩ := own_law l s _ hw i0 i1 i2 i3 i4 ca s.heap s.heap.size (Nat.le_refl _) SH SC CA p e ha hc hk s m _ below hf ((Spec.applies_iff_loose hf).mp happ).1 ⟨rfl, State.Warmed39.refl s, rfl⟩ trivial
  refine ⟨n, _, h1, h2, h3, hpost _ _ _ _ _ _ ⟨Cond.after_iff.mpr rfl, Cond.after_iff.mpr (eq_i res_at (Term.int_eval (1)) rfl), trivial⟩ ⟨hq.1, hq.2.1, (hq.2.2.sift fun y hy => Or.inr (N y hy)).mono (by decide) (by decide)⟩⟩
theorem main_1_1 : Claimed_1_1 := comes_1 fun _ _ _ _ _ _ h hF => ⟨h.1, hF⟩
theorem main_1_2 : Claimed_1_2 := comes_1 fun _ _ _ _ _ _ h hF => ⟨h.2.1, hF⟩
end Jvm.Pilot.@@N@@
namespace Jvm.Pilot.@@N@@
open Jvm Jvm.ClassFile Sem Op Lib Jvm.Free Jvm.Stand Jvm.Pilot.@@N@@.Jvm.D
/-! MADE BY PROGRAM (witnessworld.py) out of the Statement's table words and the real class files: 17 classes; the members and pool entries that the words name. The judged class is class 1, her method 1. -/
namespace start1
open Jvm.ClassFile
def u (s : String) : CpInfo := .utf8 (stringToUtf16 s)
/-- a pool by its gaps: so many unusable entries, then the entry; so many at the end -/
def gap : Nat → List CpInfo → List CpInfo
  | 0, r => r
  | n + 1, r => .unusable :: gap n r
def poolList (es : List (Nat × CpInfo)) (last : Nat) : List CpInfo := es.foldr (fun e r => gap e.1 (e.2 :: r)) (gap last [])
def pool (es : List (Nat × CpInfo)) (last : Nat) : Array CpInfo := ⟨poolList es last⟩
def fileOf (pool : Array CpInfo) (this : Nat) (attrs : Array Attribute := #[]) (ms : Array MethodInfo := #[]) (fl : Nat := 33) (sup : Nat := 0) (ifs : Array Nat := #[]) (fds : Array FieldInfo := #[]) : ClassFile where
  minorVersion := 0
  majorVersion := 65
  constantPool := pool
  accessFlags := fl
  thisClass := this
  superClass := sup
  interfaces := ifs
  fields := fds
  methods := ms
  attributes := attrs
def plain (name : String) (sup : Option ClassId) : Class where
  name := name
  kind := .ordinary
  loader := none
  accessFlags := 33
  super := sup
  interfaces := #[]
  cf := none
  fields := #[]
  methods := #[]
  instanceTypes := #[]
  staticTypes := #[]
  resolved := #[]
  callSites := []
  init := .initialized
  statics := none
  mirror := none

def pool0 : Array CpInfo := pool [(5, u "<init>"), (0, u "()V"), (1, .class_ 10), (1, u "java/lang/Object")] 113

def k0c0 : Code := { maxStack := 0, maxLocals := 1, code := object_method_1_code, exceptionTable := #[], attributes := #[] }
def k0m0 : Method := { name := "<init>", desc := "()V", sig := { parameters := [], returnType := none }, accessFlags := 1, code := some k0c0 }
/-- java/lang/Object -/
def k0 : Class := { plain "java/lang/Object" none with
  accessFlags := 33
  interfaces := #[]
  cf := some (fileOf pool0 8 #[] #[{ accessFlags := 1, nameIndex := 5, descriptorIndex := 6, attributes := #[] }] 33 0 #[] #[])
  fields := #[]
  methods := #[k0m0]
  instanceTypes := #[]
  staticTypes := #[]
  resolved := Array.replicate 124 none
  statics := none }

def pool1 : Array CpInfo := pool [(2, .class_ 4), (1, u "java/lang/Object"), (0, u "<init>"), (0, u "()V"), (0, .class_ 8), (0, u "com/example/predicant/predicant/propositional/PropositionalAlgebra"), (0, .methodref 7 10), (0, .nameAndType 5 11), (0, u "(II)V"), (0, .methodref 13 14), (0, .class_ 15), (0, .nameAndType 16 17), (0, u "java/lang/Integer"), (0, u "valueOf"), (0, u "(I)Ljava/lang/Integer;"), (0, .methodref 7 19), (0, .nameAndType 20 21), (0, u "equals"), (0, u "(Ljava/lang/Object;)Z"), (0, .class_ 23), (0, u "com/example/predicant/predicant/propositional/PropositionalAlgebraEqualsPinLaw"), (2, u "law"), (0, u "(IIIII)Z")] 3

def k1m0 : Method := { name := "<init>", desc := "()V", sig := { parameters := [], returnType := none }, accessFlags := 1, code := none }
def k1c1 : Code := { maxStack := 4, maxLocals := 15, code := code, exceptionTable := #[], attributes := #[] }
def k1m1 : Method := { name := "law", desc := "(IIIII)Z", sig := { parameters := [.int, .int, .int, .int, .int], returnType := some .boolean }, accessFlags := 9, code := some k1c1 }
/-- com/example/predicant/predicant/propositional/PropositionalAlgebraEqualsPinLaw -/
def k1 : Class := { plain "com/example/predicant/predicant/propositional/PropositionalAlgebraEqualsPinLaw" (some 0) with
  accessFlags := 49
  interfaces := #[]
  cf := some (fileOf pool1 22 #[] #[{ accessFlags := 1, nameIndex := 5, descriptorIndex := 6, attributes := #[] }, { accessFlags := 9, nameIndex := 26, descriptorIndex := 27, attributes := #[] }] 49 2 #[] #[])
  fields := #[]
  methods := #[k1m0, k1m1]
  instanceTypes := #[]
  staticTypes := #[]
  resolved := Array.replicate 31 none
  statics := none }

def pool2 : Array CpInfo := pool [(2, .class_ 4), (1, u "com/example/predicant/predicant/Algebra"), (31, .class_ 37), (0, u "java/lang/Object")] 37

/-- com/example/predicant/predicant/Algebra -/
def k2 : Class := { plain "com/example/predicant/predicant/Algebra" (some 0) with
  accessFlags := 1537
  interfaces := #[]
  cf := some (fileOf pool2 2 #[] #[] 1537 36 #[] #[])
  fields := #[]
  methods := #[]
  instanceTypes := #[]
  staticTypes := #[]
  resolved := Array.replicate 75 none
  statics := none }

def pool3 : Array CpInfo := pool [(3, .class_ 4), (0, u "com/example/predicant/predicant/propositional/PropositionalAlgebra"), (2, u "<init>"), (0, u "(II)V"), (0, .methodref 10 11), (0, .class_ 12), (0, .nameAndType 7 13), (0, u "java/lang/Object"), (0, u "()V"), (9, .fieldref 3 24), (0, .nameAndType 25 26), (0, u "m_nVariables"), (0, u "I"), (0, .fieldref 3 28), (0, .nameAndType 29 26), (0, u "m_nBudget"), (118, u "(Ljava/lang/Object;)Z"), (67, .class_ 217), (0, u "com/example/predicant/predicant/Algebra"), (0, u "MAX_VARIABLES"), (2, u "DIAGRAM_BUDGET"), (20, u "equals")] 31

def k3c0 : Code := { maxStack := 3, maxLocals := 3, code := prog_55_method_2_code, exceptionTable := #[], attributes := #[] }
def k3m0 : Method := { name := "<init>", desc := "(II)V", sig := { parameters := [.int, .int], returnType := none }, accessFlags := 0, code := some k3c0 }
def k3c1 : Code := { maxStack := 2, maxLocals := 2, code := prog_55_method_20_code, exceptionTable := #[], attributes := #[] }
def k3m1 : Method := { name := "equals", desc := "(Ljava/lang/Object;)Z", sig := { parameters := [(.object "java/lang/Object")], returnType := some .boolean }, accessFlags := 1, code := some k3c1 }
/-- com/example/predicant/predicant/propositional/PropositionalAlgebra -/
def k3 : Class := { plain "com/example/predicant/predicant/propositional/PropositionalAlgebra" (some 0) with
  accessFlags := 49
  interfaces := #[2]
  cf := some (fileOf pool3 3 #[] #[{ accessFlags := 0, nameIndex := 7, descriptorIndex := 8, attributes := #[] }, { accessFlags := 1, nameIndex := 242, descriptorIndex := 148, attributes := #[] }] 49 10 #[216] #[{ accessFlags := 25, nameIndex := 218, descriptorIndex := 26, attributes := #[] }, { accessFlags := 24, nameIndex := 221, descriptorIndex := 26, attributes := #[] }, { accessFlags := 18, nameIndex := 25, descriptorIndex := 26, attributes := #[] }, { accessFlags := 18, nameIndex := 29, descriptorIndex := 26, attributes := #[] }])
  fields := #[{ name := "MAX_VARIABLES", type := .int, accessFlags := 25, slot := 0, constantValue := 0 }, { name := "DIAGRAM_BUDGET", type := .int, accessFlags := 24, slot := 1, constantValue := 0 }, { name := "m_nVariables", type := .int, accessFlags := 18, slot := 0, constantValue := 0 }, { name := "m_nBudget", type := .int, accessFlags := 18, slot := 1, constantValue := 0 }]
  methods := #[k3m0, k3m1]
  instanceTypes := #[.int, .int]
  staticTypes := #[.int, .int]
  resolved := Array.replicate 274 none
  statics := none }

def pool4 : Array CpInfo := pool [(1, .class_ 2), (0, u "java/io/Serializable"), (0, .class_ 4), (0, u "java/lang/Object")] 2

/-- java/io/Serializable -/
def k4 : Class := { plain "java/io/Serializable" (some 0) with
  accessFlags := 1537
  interfaces := #[]
  cf := some (fileOf pool4 1 #[] #[] 1537 3 #[] #[])
  fields := #[]
  methods := #[]
  instanceTypes := #[]
  staticTypes := #[]
  resolved := Array.replicate 7 none
  statics := none }

def pool5 : Array CpInfo := pool [(2, .class_ 4), (1, u "java/lang/Object"), (0, u "<init>"), (0, u "()V"), (1, .class_ 10), (1, u "java/lang/Number"), (2, .class_ 14), (0, u "java/io/Serializable"), (0, u "serialVersionUID"), (0, u "J")] 20

def k5m0 : Method := { name := "<init>", desc := "()V", sig := { parameters := [], returnType := none }, accessFlags := 1, code := none }
/-- java/lang/Number -/
def k5 : Class := { plain "java/lang/Number" (some 0) with
  accessFlags := 1057
  interfaces := #[4]
  cf := some (fileOf pool5 8 #[] #[{ accessFlags := 1, nameIndex := 5, descriptorIndex := 6, attributes := #[] }] 1057 2 #[13] #[{ accessFlags := 26, nameIndex := 15, descriptorIndex := 16, attributes := #[] }])
  fields := #[{ name := "serialVersionUID", type := .long, accessFlags := 26, slot := 0, constantValue := 0 }]
  methods := #[k5m0]
  instanceTypes := #[]
  staticTypes := #[.long]
  resolved := Array.replicate 37 none
  statics := none }

def pool6 : Array CpInfo := pool [(1, .class_ 2), (0, u "java/lang/Comparable"), (0, .class_ 4), (0, u "java/lang/Object")] 7

/-- java/lang/Comparable -/
def k6 : Class := { plain "java/lang/Comparable" (some 0) with
  accessFlags := 1537
  interfaces := #[]
  cf := some (fileOf pool6 1 #[] #[] 1537 3 #[] #[])
  fields := #[]
  methods := #[]
  instanceTypes := #[]
  staticTypes := #[]
  resolved := Array.replicate 12 none
  statics := none }

def pool7 : Array CpInfo := pool [(1, .class_ 2), (0, u "java/lang/constant/Constable"), (0, .class_ 4), (0, u "java/lang/Object")] 6

/-- java/lang/constant/Constable -/
def k7 : Class := { plain "java/lang/constant/Constable" (some 0) with
  accessFlags := 1537
  interfaces := #[]
  cf := some (fileOf pool7 1 #[] #[] 1537 3 #[] #[])
  fields := #[]
  methods := #[]
  instanceTypes := #[]
  staticTypes := #[]
  resolved := Array.replicate 11 none
  statics := none }

def pool8 : Array CpInfo := pool [(1, .class_ 2), (0, u "java/lang/constant/ConstantDesc"), (0, .class_ 4), (0, u "java/lang/Object")] 32

/-- java/lang/constant/ConstantDesc -/
def k8 : Class := { plain "java/lang/constant/ConstantDesc" (some 0) with
  accessFlags := 1537
  interfaces := #[]
  cf := some (fileOf pool8 1 #[] #[] 1537 3 #[] #[])
  fields := #[]
  methods := #[]
  instanceTypes := #[]
  staticTypes := #[]
  resolved := Array.replicate 37 none
  statics := none }

def pool9 : Array CpInfo := pool [(1, .class_ 2), (0, u "java/lang/Integer"), (16, u "digits"), (0, u "[C"), (64, u "DigitOnes"), (0, u "[B"), (2, u "DigitTens"), (97, u "valueOf"), (0, u "(I)Ljava/lang/Integer;"), (0, .class_ 190), (0, u "java/lang/Integer$IntegerCache"), (0, .fieldref 189 192), (0, .nameAndType 193 194), (0, u "high"), (0, u "I"), (0, .fieldref 189 196), (0, .nameAndType 197 198), (0, u "cache"), (0, u "[Ljava/lang/Integer;"), (4, .class_ 204), (0, u "java/lang/Number"), (2, u "value"), (94, u "TYPE"), (0, u "Ljava/lang/Class;"), (0, .class_ 305), (0, u "java/lang/Comparable"), (0, .class_ 307), (0, u "java/lang/constant/Constable"), (0, .class_ 309), (0, u "java/lang/constant/ConstantDesc"), (0, u "MIN_VALUE"), (1, u "MAX_VALUE"), (3, u "SIZE"), (1, u "BYTES"), (1, u "serialVersionUID"), (0, u "J")] 131

def k9c0 : Code := { maxStack := 3, maxLocals := 1, code := jdk_33_method_22_code, exceptionTable := #[], attributes := #[] }
def k9m0 : Method := { name := "valueOf", desc := "(I)Ljava/lang/Integer;", sig := { parameters := [.int], returnType := some (.object "java/lang/Integer") }, accessFlags := 9, code := some k9c0 }
/-- java/lang/Integer -/
def k9 : Class := { plain "java/lang/Integer" (some 5) with
  accessFlags := 49
  interfaces := #[6, 7, 8]
  cf := some (fileOf pool9 1 #[.nestMembers #[189]] #[{ accessFlags := 9, nameIndex := 187, descriptorIndex := 188, attributes := #[] }] 49 203 #[304, 306, 308] #[{ accessFlags := 25, nameIndex := 310, descriptorIndex := 194, attributes := #[] }, { accessFlags := 25, nameIndex := 312, descriptorIndex := 194, attributes := #[] }, { accessFlags := 25, nameIndex := 302, descriptorIndex := 303, attributes := #[] }, { accessFlags := 24, nameIndex := 19, descriptorIndex := 20, attributes := #[] }, { accessFlags := 24, nameIndex := 89, descriptorIndex := 86, attributes := #[] }, { accessFlags := 24, nameIndex := 85, descriptorIndex := 86, attributes := #[] }, { accessFlags := 18, nameIndex := 207, descriptorIndex := 194, attributes := #[] }, { accessFlags := 25, nameIndex := 316, descriptorIndex := 194, attributes := #[] }, { accessFlags := 25, nameIndex := 318, descriptorIndex := 194, attributes := #[] }, { accessFlags := 26, nameIndex := 320, descriptorIndex := 321, attributes := #[] }])
  fields := #[{ name := "MIN_VALUE", type := .int, accessFlags := 25, slot := 0, constantValue := 0 }, { name := "MAX_VALUE", type := .int, accessFlags := 25, slot := 1, constantValue := 0 }, { name := "TYPE", type := (.object "java/lang/Class"), accessFlags := 25, slot := 2, constantValue := 0 }, { name := "digits", type := (.array .char), accessFlags := 24, slot := 3, constantValue := 0 }, { name := "DigitTens", type := (.array .byte), accessFlags := 24, slot := 4, constantValue := 0 }, { name := "DigitOnes", type := (.array .byte), accessFlags := 24, slot := 5, constantValue := 0 }, { name := "value", type := .int, accessFlags := 18, slot := 0, constantValue := 0 }, { name := "SIZE", type := .int, accessFlags := 25, slot := 6, constantValue := 0 }, { name := "BYTES", type := .int, accessFlags := 25, slot := 7, constantValue := 0 }, { name := "serialVersionUID", type := .long, accessFlags := 26, slot := 8, constantValue := 0 }]
  methods := #[k9m0]
  instanceTypes := #[.int]
  staticTypes := #[.int, .int, (.object "java/lang/Class"), (.array .char), (.array .byte), (.array .byte), .int, .int, .long]
  resolved := Array.replicate 453 none
  statics := none }

def pool10 : Array CpInfo := pool [(2, .class_ 4), (1, u "java/lang/Object"), (0, u "<init>"), (0, u "()V"), (0, .class_ 8), (0, u "java/lang/Integer"), (7, .class_ 18), (1, u "java/lang/Integer$IntegerCache"), (0, u "$assertionsDisabled"), (0, u "Z"), (26, u "high"), (0, u "I"), (8, u "archivedCache"), (0, u "[Ljava/lang/Integer;"), (12, u "cache"), (0, u "low")] 27

def k10m0 : Method := { name := "<init>", desc := "()V", sig := { parameters := [], returnType := none }, accessFlags := 2, code := none }
/-- java/lang/Integer$IntegerCache -/
def k10 : Class := { plain "java/lang/Integer$IntegerCache" (some 0) with
  accessFlags := 48
  interfaces := #[]
  cf := some (fileOf pool10 16 #[.nestHost 7] #[{ accessFlags := 2, nameIndex := 5, descriptorIndex := 6, attributes := #[] }] 48 2 #[] #[{ accessFlags := 24, nameIndex := 72, descriptorIndex := 48, attributes := #[] }, { accessFlags := 24, nameIndex := 47, descriptorIndex := 48, attributes := #[] }, { accessFlags := 24, nameIndex := 71, descriptorIndex := 58, attributes := #[] }, { accessFlags := 8, nameIndex := 57, descriptorIndex := 58, attributes := #[] }, { accessFlags := 4120, nameIndex := 19, descriptorIndex := 20, attributes := #[] }])
  fields := #[{ name := "low", type := .int, accessFlags := 24, slot := 0, constantValue := 0 }, { name := "high", type := .int, accessFlags := 24, slot := 1, constantValue := 0 }, { name := "cache", type := (.array (.object "java/lang/Integer")), accessFlags := 24, slot := 2, constantValue := 0 }, { name := "archivedCache", type := (.array (.object "java/lang/Integer")), accessFlags := 8, slot := 3, constantValue := 0 }, { name := "$assertionsDisabled", type := .boolean, accessFlags := 4120, slot := 4, constantValue := 0 }]
  methods := #[k10m0]
  instanceTypes := #[]
  staticTypes := #[.int, .int, (.array (.object "java/lang/Integer")), (.array (.object "java/lang/Integer")), .boolean]
  resolved := Array.replicate 100 none
  statics := some 0 }

def pool11 : Array CpInfo := pool [(1, u "java/lang/Cloneable"), (0, .class_ 1), (0, u "java/lang/Object"), (0, .class_ 3)] 3

/-- java/lang/Cloneable -/
def k11 : Class := { plain "java/lang/Cloneable" (some 0) with
  accessFlags := 1537
  interfaces := #[]
  cf := some (fileOf pool11 2 #[] #[] 1537 4 #[] #[])
  fields := #[]
  methods := #[]
  instanceTypes := #[]
  staticTypes := #[]
  resolved := Array.replicate 8 none
  statics := none }

/-- the primitive byte -/
def k12 : Class := { plain "byte" none with kind := .primitive 'B', accessFlags := 0x411 }
/-- [B -/
def k13 : Class := { plain "[B" (some 0) with kind := .array 12 .byte, interfaces := #[11, 4], accessFlags := 1041 }

/-- the primitive int -/
def k14 : Class := { plain "int" none with kind := .primitive 'I', accessFlags := 0x411 }
/-- [I -/
def k15 : Class := { plain "[I" (some 0) with kind := .array 14 .int, interfaces := #[11, 4], accessFlags := 1041 }

/-- [Ljava/lang/Integer; -/
def k16 : Class := { plain "[Ljava/lang/Integer;" (some 0) with kind := .array 9 (.object "java/lang/Integer"), interfaces := #[11, 4], accessFlags := 1041 }

def heap : Heap := #[{ cls := 10, slots := #[.int 0, .int 127, .ref 1, .null, .int 0], vm := .statics 10 },
  { cls := 16, slots := #[.ref 2, .ref 3, .ref 4, .ref 5, .ref 6, .ref 7, .ref 8, .ref 9, .ref 10, .ref 11, .ref 12, .ref 13, .ref 14, .ref 15, .ref 16, .ref 17, .ref 18, .ref 19, .ref 20, .ref 21, .ref 22, .ref 23, .ref 24, .ref 25, .ref 26, .ref 27, .ref 28, .ref 29, .ref 30, .ref 31, .ref 32, .ref 33, .ref 34, .ref 35, .ref 36, .ref 37, .ref 38, .ref 39, .ref 40, .ref 41, .ref 42, .ref 43, .ref 44, .ref 45, .ref 46, .ref 47, .ref 48, .ref 49, .ref 50, .ref 51, .ref 52, .ref 53, .ref 54, .ref 55, .ref 56, .ref 57, .ref 58, .ref 59, .ref 60, .ref 61, .ref 62, .ref 63, .ref 64, .ref 65, .ref 66, .ref 67, .ref 68, .ref 69, .ref 70, .ref 71, .ref 72, .ref 73, .ref 74, .ref 75, .ref 76, .ref 77, .ref 78, .ref 79, .ref 80, .ref 81, .ref 82, .ref 83, .ref 84, .ref 85, .ref 86, .ref 87, .ref 88, .ref 89, .ref 90, .ref 91, .ref 92, .ref 93, .ref 94, .ref 95, .ref 96, .ref 97, .ref 98, .ref 99, .ref 100, .ref 101, .ref 102, .ref 103, .ref 104, .ref 105, .ref 106, .ref 107, .ref 108, .ref 109, .ref 110, .ref 111, .ref 112, .ref 113, .ref 114, .ref 115, .ref 116, .ref 117, .ref 118, .ref 119, .ref 120, .ref 121, .ref 122, .ref 123, .ref 124, .ref 125, .ref 126, .ref 127, .ref 128, .ref 129, .ref 130, .ref 131, .ref 132, .ref 133, .ref 134, .ref 135, .ref 136, .ref 137, .ref 138, .ref 139, .ref 140, .ref 141, .ref 142, .ref 143, .ref 144, .ref 145, .ref 146, .ref 147, .ref 148, .ref 149, .ref 150, .ref 151, .ref 152, .ref 153, .ref 154, .ref 155, .ref 156, .ref 157, .ref 158, .ref 159, .ref 160, .ref 161, .ref 162, .ref 163, .ref 164, .ref 165, .ref 166, .ref 167, .ref 168, .ref 169, .ref 170, .ref 171, .ref 172, .ref 173, .ref 174, .ref 175, .ref 176, .ref 177, .ref 178, .ref 179, .ref 180, .ref 181, .ref 182, .ref 183, .ref 184, .ref 185, .ref 186, .ref 187, .ref 188, .ref 189, .ref 190, .ref 191, .ref 192, .ref 193, .ref 194, .ref 195, .ref 196, .ref 197, .ref 198, .ref 199, .ref 200, .ref 201, .ref 202, .ref 203, .ref 204, .ref 205, .ref 206, .ref 207, .ref 208, .ref 209, .ref 210, .ref 211, .ref 212, .ref 213, .ref 214, .ref 215, .ref 216, .ref 217, .ref 218, .ref 219, .ref 220, .ref 221, .ref 222, .ref 223, .ref 224, .ref 225, .ref 226, .ref 227, .ref 228, .ref 229, .ref 230, .ref 231, .ref 232, .ref 233, .ref 234, .ref 235, .ref 236, .ref 237, .ref 238, .ref 239, .ref 240, .ref 241, .ref 242, .ref 243, .ref 244, .ref 245, .ref 246, .ref 247, .ref 248, .ref 249, .ref 250, .ref 251, .ref 252, .ref 253, .ref 254, .ref 255, .ref 256, .ref 257], vm := .none },
  { cls := 9, slots := #[.int (-128)], vm := .none },
  { cls := 9, slots := #[.int (-127)], vm := .none },
  { cls := 9, slots := #[.int (-126)], vm := .none },
  { cls := 9, slots := #[.int (-125)], vm := .none },
  { cls := 9, slots := #[.int (-124)], vm := .none },
  { cls := 9, slots := #[.int (-123)], vm := .none },
  { cls := 9, slots := #[.int (-122)], vm := .none },
  { cls := 9, slots := #[.int (-121)], vm := .none },
  { cls := 9, slots := #[.int (-120)], vm := .none },
  { cls := 9, slots := #[.int (-119)], vm := .none },
  { cls := 9, slots := #[.int (-118)], vm := .none },
  { cls := 9, slots := #[.int (-117)], vm := .none },
  { cls := 9, slots := #[.int (-116)], vm := .none },
  { cls := 9, slots := #[.int (-115)], vm := .none },
  { cls := 9, slots := #[.int (-114)], vm := .none },
  { cls := 9, slots := #[.int (-113)], vm := .none },
  { cls := 9, slots := #[.int (-112)], vm := .none },
  { cls := 9, slots := #[.int (-111)], vm := .none },
  { cls := 9, slots := #[.int (-110)], vm := .none },
  { cls := 9, slots := #[.int (-109)], vm := .none },
  { cls := 9, slots := #[.int (-108)], vm := .none },
  { cls := 9, slots := #[.int (-107)], vm := .none },
  { cls := 9, slots := #[.int (-106)], vm := .none },
  { cls := 9, slots := #[.int (-105)], vm := .none },
  { cls := 9, slots := #[.int (-104)], vm := .none },
  { cls := 9, slots := #[.int (-103)], vm := .none },
  { cls := 9, slots := #[.int (-102)], vm := .none },
  { cls := 9, slots := #[.int (-101)], vm := .none },
  { cls := 9, slots := #[.int (-100)], vm := .none },
  { cls := 9, slots := #[.int (-99)], vm := .none },
  { cls := 9, slots := #[.int (-98)], vm := .none },
  { cls := 9, slots := #[.int (-97)], vm := .none },
  { cls := 9, slots := #[.int (-96)], vm := .none },
  { cls := 9, slots := #[.int (-95)], vm := .none },
  { cls := 9, slots := #[.int (-94)], vm := .none },
  { cls := 9, slots := #[.int (-93)], vm := .none },
  { cls := 9, slots := #[.int (-92)], vm := .none },
  { cls := 9, slots := #[.int (-91)], vm := .none },
  { cls := 9, slots := #[.int (-90)], vm := .none },
  { cls := 9, slots := #[.int (-89)], vm := .none },
  { cls := 9, slots := #[.int (-88)], vm := .none },
  { cls := 9, slots := #[.int (-87)], vm := .none },
  { cls := 9, slots := #[.int (-86)], vm := .none },
  { cls := 9, slots := #[.int (-85)], vm := .none },
  { cls := 9, slots := #[.int (-84)], vm := .none },
  { cls := 9, slots := #[.int (-83)], vm := .none },
  { cls := 9, slots := #[.int (-82)], vm := .none },
  { cls := 9, slots := #[.int (-81)], vm := .none },
  { cls := 9, slots := #[.int (-80)], vm := .none },
  { cls := 9, slots := #[.int (-79)], vm := .none },
  { cls := 9, slots := #[.int (-78)], vm := .none },
  { cls := 9, slots := #[.int (-77)], vm := .none },
  { cls := 9, slots := #[.int (-76)], vm := .none },
  { cls := 9, slots := #[.int (-75)], vm := .none },
  { cls := 9, slots := #[.int (-74)], vm := .none },
  { cls := 9, slots := #[.int (-73)], vm := .none },
  { cls := 9, slots := #[.int (-72)], vm := .none },
  { cls := 9, slots := #[.int (-71)], vm := .none },
  { cls := 9, slots := #[.int (-70)], vm := .none },
  { cls := 9, slots := #[.int (-69)], vm := .none },
  { cls := 9, slots := #[.int (-68)], vm := .none },
  { cls := 9, slots := #[.int (-67)], vm := .none },
  { cls := 9, slots := #[.int (-66)], vm := .none },
  { cls := 9, slots := #[.int (-65)], vm := .none },
  { cls := 9, slots := #[.int (-64)], vm := .none },
  { cls := 9, slots := #[.int (-63)], vm := .none },
  { cls := 9, slots := #[.int (-62)], vm := .none },
  { cls := 9, slots := #[.int (-61)], vm := .none },
  { cls := 9, slots := #[.int (-60)], vm := .none },
  { cls := 9, slots := #[.int (-59)], vm := .none },
  { cls := 9, slots := #[.int (-58)], vm := .none },
  { cls := 9, slots := #[.int (-57)], vm := .none },
  { cls := 9, slots := #[.int (-56)], vm := .none },
  { cls := 9, slots := #[.int (-55)], vm := .none },
  { cls := 9, slots := #[.int (-54)], vm := .none },
  { cls := 9, slots := #[.int (-53)], vm := .none },
  { cls := 9, slots := #[.int (-52)], vm := .none },
  { cls := 9, slots := #[.int (-51)], vm := .none },
  { cls := 9, slots := #[.int (-50)], vm := .none },
  { cls := 9, slots := #[.int (-49)], vm := .none },
  { cls := 9, slots := #[.int (-48)], vm := .none },
  { cls := 9, slots := #[.int (-47)], vm := .none },
  { cls := 9, slots := #[.int (-46)], vm := .none },
  { cls := 9, slots := #[.int (-45)], vm := .none },
  { cls := 9, slots := #[.int (-44)], vm := .none },
  { cls := 9, slots := #[.int (-43)], vm := .none },
  { cls := 9, slots := #[.int (-42)], vm := .none },
  { cls := 9, slots := #[.int (-41)], vm := .none },
  { cls := 9, slots := #[.int (-40)], vm := .none },
  { cls := 9, slots := #[.int (-39)], vm := .none },
  { cls := 9, slots := #[.int (-38)], vm := .none },
  { cls := 9, slots := #[.int (-37)], vm := .none },
  { cls := 9, slots := #[.int (-36)], vm := .none },
  { cls := 9, slots := #[.int (-35)], vm := .none },
  { cls := 9, slots := #[.int (-34)], vm := .none },
  { cls := 9, slots := #[.int (-33)], vm := .none },
  { cls := 9, slots := #[.int (-32)], vm := .none },
  { cls := 9, slots := #[.int (-31)], vm := .none },
  { cls := 9, slots := #[.int (-30)], vm := .none },
  { cls := 9, slots := #[.int (-29)], vm := .none },
  { cls := 9, slots := #[.int (-28)], vm := .none },
  { cls := 9, slots := #[.int (-27)], vm := .none },
  { cls := 9, slots := #[.int (-26)], vm := .none },
  { cls := 9, slots := #[.int (-25)], vm := .none },
  { cls := 9, slots := #[.int (-24)], vm := .none },
  { cls := 9, slots := #[.int (-23)], vm := .none },
  { cls := 9, slots := #[.int (-22)], vm := .none },
  { cls := 9, slots := #[.int (-21)], vm := .none },
  { cls := 9, slots := #[.int (-20)], vm := .none },
  { cls := 9, slots := #[.int (-19)], vm := .none },
  { cls := 9, slots := #[.int (-18)], vm := .none },
  { cls := 9, slots := #[.int (-17)], vm := .none },
  { cls := 9, slots := #[.int (-16)], vm := .none },
  { cls := 9, slots := #[.int (-15)], vm := .none },
  { cls := 9, slots := #[.int (-14)], vm := .none },
  { cls := 9, slots := #[.int (-13)], vm := .none },
  { cls := 9, slots := #[.int (-12)], vm := .none },
  { cls := 9, slots := #[.int (-11)], vm := .none },
  { cls := 9, slots := #[.int (-10)], vm := .none },
  { cls := 9, slots := #[.int (-9)], vm := .none },
  { cls := 9, slots := #[.int (-8)], vm := .none },
  { cls := 9, slots := #[.int (-7)], vm := .none },
  { cls := 9, slots := #[.int (-6)], vm := .none },
  { cls := 9, slots := #[.int (-5)], vm := .none },
  { cls := 9, slots := #[.int (-4)], vm := .none },
  { cls := 9, slots := #[.int (-3)], vm := .none },
  { cls := 9, slots := #[.int (-2)], vm := .none },
  { cls := 9, slots := #[.int (-1)], vm := .none },
  { cls := 9, slots := #[.int 0], vm := .none },
  { cls := 9, slots := #[.int 1], vm := .none },
  { cls := 9, slots := #[.int 2], vm := .none },
  { cls := 9, slots := #[.int 3], vm := .none },
  { cls := 9, slots := #[.int 4], vm := .none },
  { cls := 9, slots := #[.int 5], vm := .none },
  { cls := 9, slots := #[.int 6], vm := .none },
  { cls := 9, slots := #[.int 7], vm := .none },
  { cls := 9, slots := #[.int 8], vm := .none },
  { cls := 9, slots := #[.int 9], vm := .none },
  { cls := 9, slots := #[.int 10], vm := .none },
  { cls := 9, slots := #[.int 11], vm := .none },
  { cls := 9, slots := #[.int 12], vm := .none },
  { cls := 9, slots := #[.int 13], vm := .none },
  { cls := 9, slots := #[.int 14], vm := .none },
  { cls := 9, slots := #[.int 15], vm := .none },
  { cls := 9, slots := #[.int 16], vm := .none },
  { cls := 9, slots := #[.int 17], vm := .none },
  { cls := 9, slots := #[.int 18], vm := .none },
  { cls := 9, slots := #[.int 19], vm := .none },
  { cls := 9, slots := #[.int 20], vm := .none },
  { cls := 9, slots := #[.int 21], vm := .none },
  { cls := 9, slots := #[.int 22], vm := .none },
  { cls := 9, slots := #[.int 23], vm := .none },
  { cls := 9, slots := #[.int 24], vm := .none },
  { cls := 9, slots := #[.int 25], vm := .none },
  { cls := 9, slots := #[.int 26], vm := .none },
  { cls := 9, slots := #[.int 27], vm := .none },
  { cls := 9, slots := #[.int 28], vm := .none },
  { cls := 9, slots := #[.int 29], vm := .none },
  { cls := 9, slots := #[.int 30], vm := .none },
  { cls := 9, slots := #[.int 31], vm := .none },
  { cls := 9, slots := #[.int 32], vm := .none },
  { cls := 9, slots := #[.int 33], vm := .none },
  { cls := 9, slots := #[.int 34], vm := .none },
  { cls := 9, slots := #[.int 35], vm := .none },
  { cls := 9, slots := #[.int 36], vm := .none },
  { cls := 9, slots := #[.int 37], vm := .none },
  { cls := 9, slots := #[.int 38], vm := .none },
  { cls := 9, slots := #[.int 39], vm := .none },
  { cls := 9, slots := #[.int 40], vm := .none },
  { cls := 9, slots := #[.int 41], vm := .none },
  { cls := 9, slots := #[.int 42], vm := .none },
  { cls := 9, slots := #[.int 43], vm := .none },
  { cls := 9, slots := #[.int 44], vm := .none },
  { cls := 9, slots := #[.int 45], vm := .none },
  { cls := 9, slots := #[.int 46], vm := .none },
  { cls := 9, slots := #[.int 47], vm := .none },
  { cls := 9, slots := #[.int 48], vm := .none },
  { cls := 9, slots := #[.int 49], vm := .none },
  { cls := 9, slots := #[.int 50], vm := .none },
  { cls := 9, slots := #[.int 51], vm := .none },
  { cls := 9, slots := #[.int 52], vm := .none },
  { cls := 9, slots := #[.int 53], vm := .none },
  { cls := 9, slots := #[.int 54], vm := .none },
  { cls := 9, slots := #[.int 55], vm := .none },
  { cls := 9, slots := #[.int 56], vm := .none },
  { cls := 9, slots := #[.int 57], vm := .none },
  { cls := 9, slots := #[.int 58], vm := .none },
  { cls := 9, slots := #[.int 59], vm := .none },
  { cls := 9, slots := #[.int 60], vm := .none },
  { cls := 9, slots := #[.int 61], vm := .none },
  { cls := 9, slots := #[.int 62], vm := .none },
  { cls := 9, slots := #[.int 63], vm := .none },
  { cls := 9, slots := #[.int 64], vm := .none },
  { cls := 9, slots := #[.int 65], vm := .none },
  { cls := 9, slots := #[.int 66], vm := .none },
  { cls := 9, slots := #[.int 67], vm := .none },
  { cls := 9, slots := #[.int 68], vm := .none },
  { cls := 9, slots := #[.int 69], vm := .none },
  { cls := 9, slots := #[.int 70], vm := .none },
  { cls := 9, slots := #[.int 71], vm := .none },
  { cls := 9, slots := #[.int 72], vm := .none },
  { cls := 9, slots := #[.int 73], vm := .none },
  { cls := 9, slots := #[.int 74], vm := .none },
  { cls := 9, slots := #[.int 75], vm := .none },
  { cls := 9, slots := #[.int 76], vm := .none },
  { cls := 9, slots := #[.int 77], vm := .none },
  { cls := 9, slots := #[.int 78], vm := .none },
  { cls := 9, slots := #[.int 79], vm := .none },
  { cls := 9, slots := #[.int 80], vm := .none },
  { cls := 9, slots := #[.int 81], vm := .none },
  { cls := 9, slots := #[.int 82], vm := .none },
  { cls := 9, slots := #[.int 83], vm := .none },
  { cls := 9, slots := #[.int 84], vm := .none },
  { cls := 9, slots := #[.int 85], vm := .none },
  { cls := 9, slots := #[.int 86], vm := .none },
  { cls := 9, slots := #[.int 87], vm := .none },
  { cls := 9, slots := #[.int 88], vm := .none },
  { cls := 9, slots := #[.int 89], vm := .none },
  { cls := 9, slots := #[.int 90], vm := .none },
  { cls := 9, slots := #[.int 91], vm := .none },
  { cls := 9, slots := #[.int 92], vm := .none },
  { cls := 9, slots := #[.int 93], vm := .none },
  { cls := 9, slots := #[.int 94], vm := .none },
  { cls := 9, slots := #[.int 95], vm := .none },
  { cls := 9, slots := #[.int 96], vm := .none },
  { cls := 9, slots := #[.int 97], vm := .none },
  { cls := 9, slots := #[.int 98], vm := .none },
  { cls := 9, slots := #[.int 99], vm := .none },
  { cls := 9, slots := #[.int 100], vm := .none },
  { cls := 9, slots := #[.int 101], vm := .none },
  { cls := 9, slots := #[.int 102], vm := .none },
  { cls := 9, slots := #[.int 103], vm := .none },
  { cls := 9, slots := #[.int 104], vm := .none },
  { cls := 9, slots := #[.int 105], vm := .none },
  { cls := 9, slots := #[.int 106], vm := .none },
  { cls := 9, slots := #[.int 107], vm := .none },
  { cls := 9, slots := #[.int 108], vm := .none },
  { cls := 9, slots := #[.int 109], vm := .none },
  { cls := 9, slots := #[.int 110], vm := .none },
  { cls := 9, slots := #[.int 111], vm := .none },
  { cls := 9, slots := #[.int 112], vm := .none },
  { cls := 9, slots := #[.int 113], vm := .none },
  { cls := 9, slots := #[.int 114], vm := .none },
  { cls := 9, slots := #[.int 115], vm := .none },
  { cls := 9, slots := #[.int 116], vm := .none },
  { cls := 9, slots := #[.int 117], vm := .none },
  { cls := 9, slots := #[.int 118], vm := .none },
  { cls := 9, slots := #[.int 119], vm := .none },
  { cls := 9, slots := #[.int 120], vm := .none },
  { cls := 9, slots := #[.int 121], vm := .none },
  { cls := 9, slots := #[.int 122], vm := .none },
  { cls := 9, slots := #[.int 123], vm := .none },
  { cls := 9, slots := #[.int 124], vm := .none },
  { cls := 9, slots := #[.int 125], vm := .none },
  { cls := 9, slots := #[.int 126], vm := .none },
  { cls := 9, slots := #[.int 127], vm := .none }]
def classes : Array Class := #[k0, k1, k2, k3, k4, k5, k6, k7, k8, k9, k10, k11, k12, k13, k14, k15, k16]
def interned : List (Array UInt16 × Addr) := []
def slotsUsed : Nat := 517
def theMethod : MethodId := ⟨1, 1⟩
def args0 : Array Value := #[.int 5, .int 6, .int 7, .int 8, .int 1]
def aboutOver (below : List Frame) : State where
  vm := { classes := classes, interned := interned.toArray }
  heap := heap
  slotsUsed := slotsUsed
  threads := #[{ frames := .invoking theMethod args0 :: below }]
def below0 : List Frame := [.native { method := ⟨0, 0⟩, args := #[] }]
def about1 : State := aboutOver below0
def p0 : Program := .bare "" "" ""
def e0 : Env := launch0.env 0 0 0
theorem w_frames : about1.frames = Frame.invoking theMethod args0 :: below0 := rfl
set_option maxRecDepth 65536 in
theorem w_args : argsFit about1.vm theMethod args0 = true := by decide +kernel
set_option maxRecDepth 65536 in
theorem w_heap : heapFits about1 = true := by decide +kernel
set_option maxRecDepth 65536 in
theorem w_runnable : about1.curStatus? = some .runnable := by decide +kernel
set_option maxRecDepth 65536 in
theorem w_alone : about1.alone = true := by decide +kernel
set_option maxRecDepth 65536 in
theorem w_named : about1.methodNamed? x = some theMethod := by decide +kernel
set_option maxRecDepth 65536 in
theorem w_hears : about1.hears theMethod below0 = true := by decide +kernel
set_option maxRecDepth 65536 in
theorem w_ripe : about1.ripe theMethod args0 below0 = true := by decide +kernel
theorem w_running : about1.status = .running := rfl
set_option maxRecDepth 65536 in
theorem w_room : about1.hasRoom e0.platform room_1 = true :=
  launch0.hasRoom_least _ room_1 (by decide +kernel) (by decide +kernel) (by decide +kernel) (by decide +kernel) (by decide +kernel) (by decide +kernel)
theorem allAtoms_all (ts : List Jvm.Cond) (a : Array Jvm.Value) (st : Jvm.State) : (allAtoms ts).before a st = ts.all (fun c => c.before a st) := by
  induction ts with
  | nil => rfl
  | cons c t ih =>
    show (Jvm.Cond.and c (allAtoms t)).before a st = _
    rw [Jvm.Cond.before_and, ih, List.all_cons]
def words1 : List Jvm.Cond := Jvm.Cond.code x code maxLocals ret :: tables_1
/-- a 'code' word, met by the world's own term for the bytes: nothing is compared byte by byte -/
theorem code_word {y : MethodName} {bytes : ByteArray} {mx : Nat} {rt : Option FieldType} {a : Array Value} {s : State} {m : MethodId} {meth : Method} {c : Code} (h1 : s.methodNamed? y = some m) (h2 : s.vm.method? m = some meth) (h3 : meth.code = some c) (h4 : c.code = bytes)
    (h5 : (c.maxLocals == mx && c.exceptionTable.isEmpty && decide (c.maxStack ≤ mostOperands) && decide (meth.sig.returnType = rt) && !meth.locks && decide (parseMethodDescriptor y.desc = some meth.sig)) = true) : (Jvm.Cond.code y bytes mx rt).before a s = true := by
  simp only [Bool.and_eq_true, beq_iff_eq, Bool.not_eq_true', decide_eq_true_eq] at h5
  obtain ⟨⟨⟨⟨⟨g1, g2⟩, g3⟩, g4⟩, g5⟩, g6⟩ := h5
  simp [Cond.before, Cond.holds, Cond.value, h1, h2, h3, h4, g1, g2, g3, g4, g5, g6]
def isCode : Jvm.Cond → Bool
  | .code _ _ _ _ => true
  | _ => false
theorem all_split {L : List Jvm.Cond} {P : Jvm.Cond → Bool} (h1 : L.all (fun c => isCode c || P c) = true) (h2 : ∀ c ∈ L.filter isCode, P c = true) : L.all P = true := by
  refine List.all_eq_true.mpr fun c hc => ?_
  have h := List.all_eq_true.mp h1 c hc
  rcases Bool.eq_false_or_eq_true (isCode c) with hi | hi
  · exact h2 c (List.mem_filter.mpr ⟨hc, hi⟩)
  · simpa [hi] using h
set_option maxRecDepth 65536 in
theorem w_c0 : (Jvm.Cond.code x code maxLocals ret).before args0 about1 = true := code_word (m := ⟨1, 1⟩) (meth := k1m1) (c := k1c1) (by decide +kernel) rfl rfl rfl (by decide +kernel)
set_option maxRecDepth 65536 in
theorem w_c1 : (Jvm.Cond.code ({ cls := "com/example/predicant/predicant/propositional/PropositionalAlgebra", name := "<init>", desc := "(II)V" } : Jvm.MethodName) prog_55_method_2_code (3 : Nat) (Option.none : Option Jvm.ClassFile.FieldType)).before args0 about1 = true := code_word (m := ⟨3, 0⟩) (meth := k3m0) (c := k3c0) (by decide +kernel) rfl rfl rfl (by decide +kernel)
set_option maxRecDepth 65536 in
theorem w_c2 : (Jvm.Cond.code ({ cls := "java/lang/Object", name := "<init>", desc := "()V" } : Jvm.MethodName) object_method_1_code (1 : Nat) (Option.none : Option Jvm.ClassFile.FieldType)).before args0 about1 = true := code_word (m := ⟨0, 0⟩) (meth := k0m0) (c := k0c0) (by decide +kernel) rfl rfl rfl (by decide +kernel)
set_option maxRecDepth 65536 in
theorem w_c3 : (Jvm.Cond.code ({ cls := "com/example/predicant/predicant/propositional/PropositionalAlgebra", name := "equals", desc := "(Ljava/lang/Object;)Z" } : Jvm.MethodName) prog_55_method_20_code (2 : Nat) (Option.some Jvm.ClassFile.FieldType.boolean)).before args0 about1 = true := code_word (m := ⟨3, 1⟩) (meth := k3m1) (c := k3c1) (by decide +kernel) rfl rfl rfl (by decide +kernel)
set_option maxRecDepth 65536 in
theorem w_c4 : (Jvm.Cond.code ({ cls := "java/lang/Integer", name := "valueOf", desc := "(I)Ljava/lang/Integer;" } : Jvm.MethodName) jdk_33_method_22_code (1 : Nat) (Option.some (Jvm.ClassFile.FieldType.object "java/lang/Integer"))).before args0 about1 = true := code_word (m := ⟨9, 0⟩) (meth := k9m0) (c := k9c0) (by decide +kernel) rfl rfl rfl (by decide +kernel)
def codes1 : List Jvm.Cond := [Jvm.Cond.code x code maxLocals ret, Jvm.Cond.code ({ cls := "com/example/predicant/predicant/propositional/PropositionalAlgebra", name := "<init>", desc := "(II)V" } : Jvm.MethodName) prog_55_method_2_code (3 : Nat) (Option.none : Option Jvm.ClassFile.FieldType), Jvm.Cond.code ({ cls := "java/lang/Object", name := "<init>", desc := "()V" } : Jvm.MethodName) object_method_1_code (1 : Nat) (Option.none : Option Jvm.ClassFile.FieldType), Jvm.Cond.code ({ cls := "com/example/predicant/predicant/propositional/PropositionalAlgebra", name := "equals", desc := "(Ljava/lang/Object;)Z" } : Jvm.MethodName) prog_55_method_20_code (2 : Nat) (Option.some Jvm.ClassFile.FieldType.boolean), Jvm.Cond.code ({ cls := "java/lang/Integer", name := "valueOf", desc := "(I)Ljava/lang/Integer;" } : Jvm.MethodName) jdk_33_method_22_code (1 : Nat) (Option.some (Jvm.ClassFile.FieldType.object "java/lang/Integer"))]
set_option maxRecDepth 65536 in
theorem codes_eq : words1.filter isCode = codes1 := rfl
theorem w_codes : ∀ c ∈ words1.filter isCode, c.before args0 about1 = true := by
  rw [codes_eq]
  intro c hc
  simp only [codes1, List.mem_cons, List.not_mem_nil, or_false] at hc
  rcases hc with rfl | rfl | rfl | rfl | rfl
  · exact w_c0
  · exact w_c1
  · exact w_c2
  · exact w_c3
  · exact w_c4
set_option maxRecDepth 65536 in
theorem w_t1 : (words1.take 24).all (fun c => isCode c || c.before args0 about1) = true := by decide +kernel
set_option maxRecDepth 65536 in
theorem w_t2 : (words1.drop 24).all (fun c => isCode c || c.before args0 about1) = true := by decide +kernel
theorem w_tables : (allAtoms (Jvm.Cond.code x code maxLocals ret :: tables_1)).before args0 about1 = true := by
  rw [allAtoms_all]
  show words1.all (fun c => c.before args0 about1) = true
  refine all_split ?_ w_codes
  rw [← List.take_append_drop 24 words1, List.all_append, w_t1, w_t2]
  rfl
set_option maxRecDepth 65536 in
theorem w_rest : rest_1_c.before args0 about1 = true := by decide +kernel
set_option maxRecDepth 65536 in
theorem w_case : (Jvm.Cond.and given_1 narrow_1).before args0 about1 = true := by decide +kernel
theorem w_applies : (headSpec (Jvm.Cond.code x code maxLocals ret :: tables_1) room_1).applies x e0.platform about1 = true :=
  (Spec.applies_iff w_frames).mpr ⟨w_running, w_runnable, w_alone, w_named, w_hears, w_ripe, w_room, w_tables⟩
theorem atStart : AtStart classFile x code maxLocals ret World_1 tables_1 room_1 Calls_1 rest_1 Pre_1 launch0 p0 e0 about1 theMethod args0 below0 :=
  ⟨lists_1, trivial, launch0.admits_env _ _ _, launch0.least_env, fairChoices_fair.cas, fairChoices_fair.clock, w_frames, w_args, w_heap, w_applies, trivial, w_rest, w_case⟩
end start1
theorem witness_1 : WitnessClaimed_1 := ⟨start1.p0, start1.e0, start1.about1, start1.theMethod, start1.args0, start1.below0, start1.atStart⟩
end Jvm.Pilot.@@N@@
