import JvmDerived
import JvmDerived.Pilot.@@N@@Statement
import JvmDerived.Pilot.@@N@@Code
set_option linter.unusedVariables false
set_option linter.unusedSimpArgs false
@@BLOCK:NumsL.lean.txt@@
namespace Jvm.Pilot.@@N@@
open Jvm Jvm.ClassFile Sem Op Lib Jvm.Free Jvm.Stand Jvm.LawKit Jvm.RoadKit Bundle Jvm.Pilot.@@N@@.Jvm.D
/-- Java's x >>> y on longs -/
def own_uL (x : Int64) (y : Int32) : Int64 := (x.toUInt64 >>> (y &&& 63).toInt64.toUInt64).toInt64
section Own
variable {p : Program} {l : Launch} {e : Env} {R : Room} {s : State} {m : MethodId} {args : Array Value} {below : List Frame} {meth : Method} {c : Code} {T : State} {locs : List Loc} {cells slots : Nat}
variable {ck sk : Nat} {Q : Option Value → Heap → List Loc → Prop}
/-- the run from u comes to the method's return, and Q holds there -/
def oF (p : Program) (e : Env) (below : List Frame) (s : State) (ck sk : Nat) (Q : Option Value → Heap → List Loc → Prop) (u : State) : Prop :=
  ∃ t o, Steps p.tables e below u t ∧ t.status = .running ∧ Ended t below o ∧ ∃ v L, o = .returned v ∧ Q v t.heap L ∧ FrameEnd s o t L ck sk
theorem oS {u u' : State} (h : ∀ t, Steps p.tables e below u' t → Steps p.tables e below u t) (k : oF p e below s ck sk Q u') : oF p e below s ck sk Q u := by
  obtain ⟨t, o, h1, r⟩ := k
  exact ⟨t, o, h t h1, r⟩
theorem oC {u : State} (X : Stand p l e R s m args below meth c T locs cells slots) {h : Heap} (E : T.heap = h) {f : JFrame}
    (rest : ∀ Tc, Stand p l e R s m args below meth c Tc locs cells slots → Tc.heap = h → oF p e below s ck sk Q (Tc.setTop f))
    (k : (∀ Tc, Stand p l e R s m args below meth c Tc locs cells slots → Tc.heap = h → oF p e below s ck sk Q (Tc.setTop f)) → oF p e below s ck sk Q u) : oF p e below s ck sk Q u := k rest
theorem own_ret (X : Stand p l e R s m args below meth c T locs cells slots) (hlk : meth.locks = false) {v : Option Value} (hv : meth.sig.returnType = none → v = none) {g : JFrame}
    (st : ∀ fs, (∀ (f : JFrame) (acts : List Action), f.method = m → f.locked = none → f.entered = [] → (doReturn e (T.setTop f) acts v).1 = T.setFrames fs) → Steps p.tables e below (T.setTop g) (T.setFrames fs))
    (hQ : Q v T.heap locs) (hc : cells ≤ ck) (hs : slots ≤ sk) : oF p e below s ck sk Q (T.setTop g) := by
  obtain ⟨fs, hr, hrun, hended, hW, hsame⟩ := X.leave (v := v) hv hlk
  exact ⟨_, _, st fs hr, hrun, hended, v, locs, rfl, hQ, ⟨_, rfl⟩, hW, hsame.mono hc hs⟩
theorem own_retI (X : Stand p l e R s m args below meth c T locs cells slots) (hx : p.tables.exec = Jvm.exec) (hlk : meth.locks = false) {pc : Nat} {Ls : Array Slot} {z : Int32} {rest : List Value} (hret : meth.sig.returnType = some .int)
    (hd : decode c.code pc = .ok (.ireturn, 1)) (hQ : Q (some (.int z)) T.heap locs) (hc : cells ≤ ck) (hs : slots ≤ sk) : oF p e below s ck sk Q (T.setTop (mkF m pc Ls (.int z :: rest))) :=
  own_ret X hlk (fun h => by rw [hret] at h; cases h) (fun fs hl => retOut X hx hret rfl (Or.inl ⟨rfl, Or.inl rfl, _, rfl⟩) hd hl) hQ hc hs
theorem own_retJ (X : Stand p l e R s m args below meth c T locs cells slots) (hx : p.tables.exec = Jvm.exec) (hlk : meth.locks = false) {pc : Nat} {Ls : Array Slot} {z : Int64} {rest : List Value} (hret : meth.sig.returnType = some .long)
    (hd : decode c.code pc = .ok (.lreturn, 1)) (hQ : Q (some (.long z)) T.heap locs) (hc : cells ≤ ck) (hs : slots ≤ sk) : oF p e below s ck sk Q (T.setTop (mkF m pc Ls (.long z :: rest))) :=
  own_ret X hlk (fun h => by rw [hret] at h; cases h) (fun fs hl => retOut X hx hret rfl (Or.inr (Or.inl ⟨rfl, rfl, _, rfl⟩)) hd hl) hQ hc hs
theorem own_retD (X : Stand p l e R s m args below meth c T locs cells slots) (hx : p.tables.exec = Jvm.exec) (hlk : meth.locks = false) {pc : Nat} {Ls : Array Slot} {z : UInt64} {rest : List Value} (hret : meth.sig.returnType = some .double)
    (hd : decode c.code pc = .ok (.dreturn, 1)) (hQ : Q (some (.double z)) T.heap locs) (hc : cells ≤ ck) (hs : slots ≤ sk) : oF p e below s ck sk Q (T.setTop (mkF m pc Ls (.double z :: rest))) :=
  own_ret X hlk (fun h => by rw [hret] at h; cases h) (fun fs hl => retOut X hx hret rfl (Or.inr (Or.inr (Or.inl ⟨rfl, rfl, _, rfl⟩))) hd hl) hQ hc hs
theorem own_retA (X : Stand p l e R s m args below meth c T locs cells slots) (hx : p.tables.exec = Jvm.exec) (hlk : meth.locks = false) {pc : Nat} {Ls : Array Slot} {w : Value} {t : FieldType} {rest : List Value} (hret : meth.sig.returnType = some t) (ht : t.isReference = true) (hr : w.isRef = true)
    (hd : decode c.code pc = .ok (.areturn, 1)) (hQ : Q (some w) T.heap locs) (hc : cells ≤ ck) (hs : slots ≤ sk) : oF p e below s ck sk Q (T.setTop (mkF m pc Ls (w :: rest))) :=
  own_ret X hlk (fun h => by rw [hret] at h; cases h) (fun fs hl => retOut X hx hret (by cases t <;> first | (cases ht; done) | (cases w <;> first | rfl | (cases hr; done))) (Or.inr (Or.inr (Or.inr (Or.inr ⟨rfl, ht, hr⟩)))) hd hl) hQ hc hs
theorem own_retN (X : Stand p l e R s m args below meth c T locs cells slots) (hx : p.tables.exec = Jvm.exec) (hlk : meth.locks = false) {pc : Nat} {Ls : Array Slot} {z : Int32} {t : FieldType} {rest : List Value} (hret : meth.sig.returnType = some t) (ht : t = .boolean ∨ t = .byte ∨ t = .char ∨ t = .short)
    (hd : decode c.code pc = .ok (.ireturn, 1)) (hQ : Q (some (.int (nar t z))) T.heap locs) (hc : cells ≤ ck) (hs : slots ≤ sk) : oF p e below s ck sk Q (T.setTop (mkF m pc Ls (.int z :: rest))) :=
  own_ret X hlk (fun h => by rw [hret] at h; cases h) (fun fs hl => retN X hx hret ht hd hl) hQ hc hs
theorem own_ret0 (X : Stand p l e R s m args below meth c T locs cells slots) (hx : p.tables.exec = Jvm.exec) (hlk : meth.locks = false) {pc : Nat} {Ls : Array Slot} (hret : meth.sig.returnType = none)
    (hd : decode c.code pc = .ok (.return_, 1)) (hQ : Q none T.heap locs) (hc : cells ≤ ck) (hs : slots ≤ sk) : oF p e below s ck sk Q (T.setTop (mkF m pc Ls [])) :=
  own_ret X hlk (fun _ => rfl) (fun fs hl => X.returnOut hx hret hd hl) hQ hc hs
/-- a body's contract: called with as' on the heap h it returns, and Q says what it leaves -/
def own_Con (l : Launch) (Z : State) (ws : List Jvm.Cond) (y : MethodName) (bytes : ByteArray) (maxL : Nat) (rt : Option FieldType) (rm : Room) (as' : Array Value) (h : Heap) (Q : Option Value → Heap → List Loc → Prop) : Prop :=
  MetFree l y (head1 (Jvm.Cond.code y bytes maxL rt :: ws) rm) (fun a U => a = as' ∧ Z.Warmed39 U.vm ∧ U.heap = h) (fun _ _ _ _ _ => True) (fun _ U o U' => ∃ v L, o = .returned v ∧ Q v U'.heap L ∧ FrameEnd U o U' L rm.cells rm.slots)
/-- it returns r, and the heap is as it was -/
def own_Q1 (r : Option Value) (h : Heap) : Option Value → Heap → List Loc → Prop := fun v h' L => v = r ∧ h' = h ∧ L = []
variable {Z : State} {a0 : Array Value} {h h' : Heap}
theorem own_body {ws : List Jvm.Cond} {y : MethodName} {bytes : ByteArray} {maxL : Nat} {rt : Option FieldType} {rm : Room} {as' : Array Value} (hpn : plainFor y = true)
    (H : ∀ (p : Program) (e : Env) (s : State) (m : MethodId) (below : List Frame) (meth : Method) (c : Code) (s₁ : State), Stand p l e rm s m as' below meth c s₁ [] 0 0 → p.tables.exec = Jvm.exec → c.code = bytes → c.maxLocals = maxL → meth.sig.returnType = rt → meth.locks = false → s.vm.findClass y.cls = some m.cls → meth.name = y.name → Z.Warmed39 s.vm → s₁.heap = h →
      oF p e below s rm.cells rm.slots Q (s₁.setTop (entryFrame m as' maxL))) : own_Con l Z ws y bytes maxL rt rm as' h Q := by
  refine MetFree.of_bodySF hpn hisR ?_
  intro p e s m args below meth c s₁ Bd hml0 hP hK
  obtain ⟨rfl, hZ, hh⟩ := hP
  exact H p e s m below meth c s₁ (Stand.of_body Bd) Bd.exec Bd.bytes hml0 Bd.returns (BodyLoose.notSynchronized Bd) (findClass_of_methodNamed Bd.named) (name_of_methodNamed Bd.named Bd.method).1 hZ (by rw [← hh, Bd.state]; rfl)
theorem own_callS (X : Stand p l e R s m args below meth c T locs cells slots) (hx : p.tables.exec = Jvm.exec) (hZ : Z.Warmed39 s.vm) {own : String} {index : Nat} {y : MethodName} {bytes : ByteArray} {maxL : Nat} {rt : Option FieldType} (hown : s.vm.findClass own = some m.cls)
    (w1 : (Jvm.Cond.methodLink own index y).before a0 Z = true) (w2 : (Jvm.Cond.static y).before a0 Z = true) (w4 : (Jvm.Cond.code y bytes maxL rt).before a0 Z = true) (w3 : (Jvm.Cond.initialized y.cls).before a0 Z = true) (hy : y.cls ≠ "java/lang/invoke/MethodHandle" ∧ y.cls ≠ "java/lang/invoke/VarHandle")
    (eT : T.heap = h) {rm : Room} {W : Nat} {argsL rest : List Value} (K : own_Con l Z [] y bytes maxL rt rm argsL.toArray h Q) (hf : rm.frames + 1 ≤ R.frames) (hl : W + (maxL + 11) + rm.locals ≤ R.locals)
    {g : JFrame} (hg : g.method = m) (hsize : g.locals.size = c.maxLocals) (hlen : ∀ sig, parseMethodDescriptor y.desc = some sig → argsL.length = sig.parameters.length)
    (hstack : g.stack = argsL.reverse ++ rest) (hW : 2 * g.monitorRoom + (rest.map fun v => v.category).sum ≤ W) (hdg : decode c.code g.pc = .ok (.invokestatic index, 3)) (hc : cells + rm.cells ≤ R.cells) (hs : slots + rm.slots ≤ R.slots) :
    ∃ (v : Option Value) (T' : State) (L : List Loc), Stand p l e R s m args below meth c T' (locs ++ L) (cells + rm.cells) (slots + rm.slots) ∧ Q v T'.heap L ∧
      ∀ target, Steps p.tables e below (T'.setTop { g with pc := g.pc + 3, stack := v.toList ++ rest }) target → Steps p.tables e below (T.setTop g) target := by
  obtain ⟨v, _, ⟨T', L', k', n'⟩, -, X', ⟨L, hQ, q1, q2, q3⟩, st⟩ := Jvm.LawKit.callS X hx hown (mvT hZ w1) (mvT hZ w2) (mvT hZ w3) (mvT hZ w4) hy (backOf (W := W) K hZ w4 w3 hf hl) hg hsize hlen hstack hW hdg (fun _ _ => ⟨rfl, eT, hc, hs⟩)
  dsimp only [Pt.U, Pt.locs, Pt.cells, Pt.slots] at X' q1 q2 q3 st hQ
  subst q1 q2 q3
  exact ⟨v, T', L, X', hQ, st⟩
theorem own_callSP (X : Stand p l e R s m args below meth c T locs cells slots) (hx : p.tables.exec = Jvm.exec) (hZ : Z.Warmed39 s.vm) {own : String} {index : Nat} {y : MethodName} {bytes : ByteArray} {maxL : Nat} {rt : Option FieldType} (hown : s.vm.findClass own = some m.cls)
    (w1 : (Jvm.Cond.methodLink own index y).before a0 Z = true) (w2 : (Jvm.Cond.static y).before a0 Z = true) (w4 : (Jvm.Cond.code y bytes maxL rt).before a0 Z = true) (w3 : (Jvm.Cond.initialized y.cls).before a0 Z = true) (hy : y.cls ≠ "java/lang/invoke/MethodHandle" ∧ y.cls ≠ "java/lang/invoke/VarHandle")
    (eT : T.heap = h) {rf rl : Nat} {W : Nat} {argsL rest : List Value} {r : Value} (K : own_Con l Z [] y bytes maxL rt { frames := rf, cells := 0, slots := 0, locals := rl } argsL.toArray h (own_Q1 (some r) h)) (hf : rf + 1 ≤ R.frames) (hl : W + (maxL + 11) + rl ≤ R.locals)
    {g : JFrame} (hg : g.method = m) (hsize : g.locals.size = c.maxLocals) (hlen : ∀ sig, parseMethodDescriptor y.desc = some sig → argsL.length = sig.parameters.length)
    (hstack : g.stack = argsL.reverse ++ rest) (hW : 2 * g.monitorRoom + (rest.map fun v => v.category).sum ≤ W) (hdg : decode c.code g.pc = .ok (.invokestatic index, 3)) (hc : cells ≤ R.cells) (hs : slots ≤ R.slots) :
    ∃ T' : State, Stand p l e R s m args below meth c T' locs cells slots ∧ T'.heap = h ∧
      ∀ target, Steps p.tables e below (T'.setTop { g with pc := g.pc + 3, stack := r :: rest }) target → Steps p.tables e below (T.setTop g) target := by
  obtain ⟨v, T', L, X', ⟨rfl, hh, rfl⟩, st⟩ := own_callS X hx hZ hown w1 w2 w4 w3 hy eT (W := W) K hf hl hg hsize hlen hstack hW hdg hc hs
  rw [List.append_nil] at X'
  exact ⟨T', X', hh, st⟩
theorem own_callI (X : Stand p l e R s m args below meth c T locs cells slots) (hx : p.tables.exec = Jvm.exec) (hZ : Z.Warmed39 s.vm) {own : String} {index : Nat} {y : MethodName} (hy1 : y.name = "<init>") {bytes : ByteArray} {maxL : Nat} (hown : s.vm.findClass own = some m.cls)
    (w1 : (Jvm.Cond.methodLink own index y).before a0 Z = true) (w2 : (Jvm.Cond.instanceMethod y).before a0 Z = true) (w4 : (Jvm.Cond.code y bytes maxL none).before a0 Z = true) (w3 : (Jvm.Cond.initialized y.cls).before a0 Z = true) (hy : y.cls ≠ "java/lang/invoke/MethodHandle" ∧ y.cls ≠ "java/lang/invoke/VarHandle")
    (eT : T.heap = h) {rm : Room} {W : Nat} {a : Addr} {argsL rest : List Value} (K : own_Con l Z [] y bytes maxL none rm (.ref a :: argsL).toArray h Q) (hf : rm.frames + 1 ≤ R.frames) (hl : W + (maxL + 11) + rm.locals ≤ R.locals)
    {g : JFrame} (hg : g.method = m) (hsize : g.locals.size = c.maxLocals) (hlen : ∀ sig, parseMethodDescriptor y.desc = some sig → argsL.length = sig.parameters.length)
    (hstack : g.stack = argsL.reverse ++ .ref a :: rest) (hW : 2 * g.monitorRoom + (rest.map fun v => v.category).sum ≤ W) (hdg : decode c.code g.pc = .ok (.invokespecial index, 3)) (hc : cells + rm.cells ≤ R.cells) (hs : slots + rm.slots ≤ R.slots) :
    ∃ (v : Option Value) (T' : State) (L : List Loc), Stand p l e R s m args below meth c T' (locs ++ L) (cells + rm.cells) (slots + rm.slots) ∧ Q v T'.heap L ∧
      ∀ target, Steps p.tables e below (T'.setTop { g with pc := g.pc + 3, stack := v.toList ++ rest }) target → Steps p.tables e below (T.setTop g) target := by
  obtain ⟨v, _, ⟨T', L', k', n'⟩, -, X', ⟨L, hQ, q1, q2, q3⟩, st⟩ := X.specialBack hx hy1 hown (mvT hZ w1) (mvT hZ w2) (mvT hZ w4) hy (backOf (W := W) K hZ w4 w3 hf hl) hg hsize (Steps.refl _) (a := a) hlen hstack hW hdg (fun _ _ => ⟨rfl, eT, hc, hs⟩)
  dsimp only [Pt.U, Pt.locs, Pt.cells, Pt.slots] at X' q1 q2 q3 st hQ
  subst q1 q2 q3
  exact ⟨v, T', L, X', hQ, fun t k => st.trans k⟩
theorem own_callIP (X : Stand p l e R s m args below meth c T locs cells slots) (hx : p.tables.exec = Jvm.exec) (hZ : Z.Warmed39 s.vm) {own : String} {index : Nat} {y : MethodName} (hy1 : y.name = "<init>") {bytes : ByteArray} {maxL : Nat} (hown : s.vm.findClass own = some m.cls)
    (w1 : (Jvm.Cond.methodLink own index y).before a0 Z = true) (w2 : (Jvm.Cond.instanceMethod y).before a0 Z = true) (w4 : (Jvm.Cond.code y bytes maxL none).before a0 Z = true) (w3 : (Jvm.Cond.initialized y.cls).before a0 Z = true) (hy : y.cls ≠ "java/lang/invoke/MethodHandle" ∧ y.cls ≠ "java/lang/invoke/VarHandle")
    (eT : T.heap = h) {rf rl : Nat} {W : Nat} {a : Addr} {argsL rest : List Value} (K : own_Con l Z [] y bytes maxL none { frames := rf, cells := 0, slots := 0, locals := rl } (.ref a :: argsL).toArray h (own_Q1 none h)) (hf : rf + 1 ≤ R.frames) (hl : W + (maxL + 11) + rl ≤ R.locals)
    {g : JFrame} (hg : g.method = m) (hsize : g.locals.size = c.maxLocals) (hlen : ∀ sig, parseMethodDescriptor y.desc = some sig → argsL.length = sig.parameters.length)
    (hstack : g.stack = argsL.reverse ++ .ref a :: rest) (hW : 2 * g.monitorRoom + (rest.map fun v => v.category).sum ≤ W) (hdg : decode c.code g.pc = .ok (.invokespecial index, 3)) (hc : cells ≤ R.cells) (hs : slots ≤ R.slots) :
    ∃ T' : State, Stand p l e R s m args below meth c T' locs cells slots ∧ T'.heap = h ∧
      ∀ target, Steps p.tables e below (T'.setTop { g with pc := g.pc + 3, stack := rest }) target → Steps p.tables e below (T.setTop g) target := by
  obtain ⟨v, T', L, X', ⟨rfl, hh, rfl⟩, st⟩ := own_callI X hx hZ hy1 hown w1 w2 w4 w3 hy eT (W := W) K hf hl hg hsize hlen hstack hW hdg hc hs
  rw [List.append_nil] at X'
  exact ⟨T', X', hh, st⟩
theorem own_callV (X : Stand p l e R s m args below meth c T locs cells slots) (hx : p.tables.exec = Jvm.exec) (hZ : Z.Warmed39 s.vm) {own C : String} {index : Nat} {y z : MethodName} {bytes : ByteArray} {maxL : Nat} {rt : Option FieldType} (hown : s.vm.findClass own = some m.cls)
    (w1 : (Jvm.Cond.methodLink own index y).before a0 Z = true) (w2 : (Jvm.Cond.declares y).before a0 Z = true) (hnf : NotFace s y) (ws : (Jvm.Cond.selects C y z).before a0 Z = true) (wi : (Jvm.Cond.instanceMethod z).before a0 Z = true) (hy : y.cls ≠ "java/lang/invoke/MethodHandle" ∧ y.cls ≠ "java/lang/invoke/VarHandle")
    (eT : T.heap = h) {b : Addr} (E : Exa Z h b C) {rm : Room} {W : Nat} {argsL rest : List Value} (K : own_Con l Z [] z bytes maxL rt rm (.ref b :: argsL).toArray h Q) (w4 : (Jvm.Cond.code z bytes maxL rt).before a0 Z = true) (w3 : (Jvm.Cond.initialized z.cls).before a0 Z = true) (hf : rm.frames + 1 ≤ R.frames) (hl : W + (maxL + 11) + rm.locals ≤ R.locals)
    {g : JFrame} (hg : g.method = m) (hsize : g.locals.size = c.maxLocals) (hlen : ∀ sig, parseMethodDescriptor y.desc = some sig → argsL.length = sig.parameters.length)
    (hstack : g.stack = argsL.reverse ++ .ref b :: rest) (hW : 2 * g.monitorRoom + (rest.map fun v => v.category).sum ≤ W) (hdg : decode c.code g.pc = .ok (.invokevirtual index, 3)) (hc : cells + rm.cells ≤ R.cells) (hs : slots + rm.slots ≤ R.slots) :
    ∃ (v : Option Value) (T' : State) (L : List Loc), Stand p l e R s m args below meth c T' (locs ++ L) (cells + rm.cells) (slots + rm.slots) ∧ Q v T'.heap L ∧
      ∀ target, Steps p.tables e below (T'.setTop { g with pc := g.pc + 3, stack := v.toList ++ rest }) target → Steps p.tables e below (T.setTop g) target := by
  obtain ⟨cq, kq, qa, qb, qc⟩ := isOf hZ eT E
  obtain ⟨v, _, ⟨T', L', k', n'⟩, -, X', ⟨L, hQ, q1, q2, q3⟩, st⟩ := X.virtualBack hx hown (mvT hZ w1) (mvT hZ w2) hnf (mvT hZ ws) (mvT hZ wi) hy (backOf (W := W) K hZ w4 w3 hf hl) qa qc hg hsize (Steps.refl _) hlen hstack hW hdg (fun _ _ => ⟨rfl, eT, hc, hs⟩)
  dsimp only [Pt.U, Pt.locs, Pt.cells, Pt.slots] at X' q1 q2 q3 st hQ
  subst q1 q2 q3
  exact ⟨v, T', L, X', hQ, fun t k => st.trans k⟩
theorem own_callVP (X : Stand p l e R s m args below meth c T locs cells slots) (hx : p.tables.exec = Jvm.exec) (hZ : Z.Warmed39 s.vm) {own C : String} {index : Nat} {y z : MethodName} {bytes : ByteArray} {maxL : Nat} {rt : Option FieldType} (hown : s.vm.findClass own = some m.cls)
    (w1 : (Jvm.Cond.methodLink own index y).before a0 Z = true) (w2 : (Jvm.Cond.declares y).before a0 Z = true) (hnf : NotFace s y) (ws : (Jvm.Cond.selects C y z).before a0 Z = true) (wi : (Jvm.Cond.instanceMethod z).before a0 Z = true) (hy : y.cls ≠ "java/lang/invoke/MethodHandle" ∧ y.cls ≠ "java/lang/invoke/VarHandle")
    (eT : T.heap = h) {b : Addr} (E : Exa Z h b C) {rf rl : Nat} {W : Nat} {argsL rest : List Value} {r : Value} (K : own_Con l Z [] z bytes maxL rt { frames := rf, cells := 0, slots := 0, locals := rl } (.ref b :: argsL).toArray h (own_Q1 (some r) h)) (w4 : (Jvm.Cond.code z bytes maxL rt).before a0 Z = true) (w3 : (Jvm.Cond.initialized z.cls).before a0 Z = true) (hf : rf + 1 ≤ R.frames) (hl : W + (maxL + 11) + rl ≤ R.locals)
    {g : JFrame} (hg : g.method = m) (hsize : g.locals.size = c.maxLocals) (hlen : ∀ sig, parseMethodDescriptor y.desc = some sig → argsL.length = sig.parameters.length)
    (hstack : g.stack = argsL.reverse ++ .ref b :: rest) (hW : 2 * g.monitorRoom + (rest.map fun v => v.category).sum ≤ W) (hdg : decode c.code g.pc = .ok (.invokevirtual index, 3)) (hc : cells ≤ R.cells) (hs : slots ≤ R.slots) :
    ∃ T' : State, Stand p l e R s m args below meth c T' locs cells slots ∧ T'.heap = h ∧
      ∀ target, Steps p.tables e below (T'.setTop { g with pc := g.pc + 3, stack := r :: rest }) target → Steps p.tables e below (T.setTop g) target := by
  obtain ⟨v, T', L, X', ⟨rfl, hh, rfl⟩, st⟩ := own_callV X hx hZ hown w1 w2 hnf ws wi hy eT E (W := W) K w4 w3 hf hl hg hsize hlen hstack hW hdg hc hs
  rw [List.append_nil] at X'
  exact ⟨T', X', hh, st⟩
theorem own_cl_eq {x y : Int64} (h : x = y) : Jvm.Free.XT.cmpL x y = 0 := by
  subst h; unfold Jvm.Free.XT.cmpL
  rw [if_neg (by rw [Int64.lt_iff_toInt_lt]; omega), if_pos rfl]
theorem own_cl_eq_n {x y : Int64} (h : ¬ x = y) : ¬ Jvm.Free.XT.cmpL x y = 0 := by
  unfold Jvm.Free.XT.cmpL
  by_cases h1 : y < x
  · rw [if_pos h1]; decide
  · rw [if_neg h1, if_neg h]; decide
theorem own_cl_gt {x y : Int64} (h : y < x) : (0 : Int32) < Jvm.Free.XT.cmpL x y := by
  unfold Jvm.Free.XT.cmpL; rw [if_pos h]; decide
theorem own_cl_gt_n {x y : Int64} (h : ¬ y < x) : ¬ (0 : Int32) < Jvm.Free.XT.cmpL x y := by
  unfold Jvm.Free.XT.cmpL; rw [if_neg h]
  by_cases h1 : x = y
  · rw [if_pos h1]; decide
  · rw [if_neg h1]; decide
theorem own_cl_lt {x y : Int64} (h : x < y) : Jvm.Free.XT.cmpL x y < (0 : Int32) := by
  unfold Jvm.Free.XT.cmpL
  rw [if_neg (by rw [Int64.lt_iff_toInt_lt] at h ⊢; omega), if_neg (by intro q; subst q; rw [Int64.lt_iff_toInt_lt] at h; omega)]; decide
theorem own_cl_lt_n {x y : Int64} (h : ¬ x < y) : ¬ Jvm.Free.XT.cmpL x y < (0 : Int32) := by
  unfold Jvm.Free.XT.cmpL
  by_cases h1 : y < x
  · rw [if_pos h1]; decide
  · rw [if_neg h1]
    have h2 : x = y := by
      rw [Int64.lt_iff_toInt_lt] at h h1
      exact Int64.toInt_inj.mp (by omega)
    rw [if_pos h2]; decide
theorem own_eq_int {a : Array Value} {s : State} {t : Term} {k : Int32} (h : (Jvm.Cond.eq t (Term.int k)).value a s none s [] = some true) : t.eval a s none [] s = some (.int k) := by
  obtain ⟨x, y, hx, hy, k1, k2⟩ := cmp_v (Or.inl h)
  obtain rfl : y = .int k := Option.some.inj (hy.symm.trans (Term.int_eval k))
  obtain ⟨z, rfl⟩ := k2
  rw [hx, gotT (Cond.eq_ints hx hy) h]
end Own


theorem own_d1_0 : decode prog_58_method_2_code 0 = .ok (.iload_n 0, 1) := by decide +kernel
theorem own_d1_1 : decode prog_58_method_2_code 1 = .ok (.iconst 1, 1) := by decide +kernel
theorem own_d1_2 : decode prog_58_method_2_code 2 = .ok (.ishl, 1) := by decide +kernel
theorem own_d1_3 : decode prog_58_method_2_code 3 = .ok (.iload_n 1, 1) := by decide +kernel
theorem own_d1_4 : decode prog_58_method_2_code 4 = .ok (.ifCond .eq 7, 3) := by decide +kernel
theorem own_d1_7 : decode prog_58_method_2_code 7 = .ok (.iconst 0, 1) := by decide +kernel
theorem own_d1_8 : decode prog_58_method_2_code 8 = .ok (.goto 4, 3) := by decide +kernel
theorem own_d1_11 : decode prog_58_method_2_code 11 = .ok (.iconst 1, 1) := by decide +kernel
theorem own_d1_12 : decode prog_58_method_2_code 12 = .ok (.ior, 1) := by decide +kernel
theorem own_d1_13 : decode prog_58_method_2_code 13 = .ok (.ireturn, 1) := by decide +kernel
theorem own_pn_Solver : plainName "com/example/predicant/predicant/propositional/Solver" = true := by first | (simp [plainName, overriddenIn]; done) | decide +kernel
theorem own_ef1 (m : MethodId) (x0 : Int32) (x1 : Int32) : entryFrame m #[(.int x0), (.int x1)] 2 = mkF m 0 #[.val (.int x0), .val (.int x1)] [] := by first | (simp [entryFrame, mkF, argsToLocals, Value.category, maxLocals]; done) | rfl
def own_literal (p1 : Int32) (p2 : Int32) : Int32 := (if p2 = (0 : Int32) then ((p1 <<< ((1 : Int32) &&& 31)) ||| (1 : Int32)) else ((p1 <<< ((1 : Int32) &&& 31)) ||| (0 : Int32)))
set_option maxRecDepth 65536 in
set_option maxHeartbeats 40000000 in
theorem own_rm_literal (l : Launch) (Z : State) (a0 : Array Value) (hw : ∀ d ∈ tables_1, d.before a0 Z = true) (p1 : Int32) (p2 : Int32) (h0 : Heap) : own_Con l Z [] (⟨"com/example/predicant/predicant/propositional/Solver", "literal", "(IZ)I"⟩ : MethodName) prog_58_method_2_code 2 (some .int) ({ frames := 0, cells := 0, slots := 0, locals := 0 } : Room) #[(.int p1), (.int p2)] h0 (own_Q1 (some (.int (own_literal p1 p2))) h0) := by
  refine own_body (plainFor_of_name own_pn_Solver) ?_
  intro p e s m below meth c s₁ X0 hx hby hml hret hlk hown hnm hZ e0
  refine oS (u' := s₁.setTop (mkF m 0 #[.val (.int p1), .val (.int p2)] [])) (fun _ kst => castTop (own_ef1 m p1 p2) kst) ?_
  refine oS (u' := s₁.setTop (mkF m 1 #[.val (.int p1), .val (.int p2)] [(.int p1)])) (fun _ kst => XS.iloadN X0.here hx rfl (hb hby own_d1_0) rfl kst) ?_
  refine oS (u' := s₁.setTop (mkF m 2 #[.val (.int p1), .val (.int p2)] [(.int (1 : Int32)), (.int p1)])) (fun _ kst => XS.iconst X0.here hx rfl (hb hby own_d1_1) kst) ?_
  refine oS (u' := s₁.setTop (mkF m 3 #[.val (.int p1), .val (.int p2)] [(.int (p1 <<< ((1 : Int32) &&& 31)))])) (fun _ kst => XS.ishl X0.here hx rfl (hb hby own_d1_2) rfl kst) ?_
  refine oS (u' := s₁.setTop (mkF m 4 #[.val (.int p1), .val (.int p2)] [(.int p2), (.int (p1 <<< ((1 : Int32) &&& 31)))])) (fun _ kst => XS.iloadN X0.here hx rfl (hb hby own_d1_3) rfl kst) ?_
  by_cases hc1 : p2 = (0 : Int32)
  · refine oS (u' := s₁.setTop (mkF m 11 #[.val (.int p1), .val (.int p2)] [(.int (p1 <<< ((1 : Int32) &&& 31)))])) (fun _ kst => XS.ifYes X0.here hx rfl (pc0 := 4) (pc' := 11) rfl (hb hby own_d1_4) rfl ((if0 _ _).trans (teq hc1).1) (by decide) (by decide) kst) ?_
    refine oS (u' := s₁.setTop (mkF m 12 #[.val (.int p1), .val (.int p2)] [(.int (1 : Int32)), (.int (p1 <<< ((1 : Int32) &&& 31)))])) (fun _ kst => XS.iconst X0.here hx rfl (hb hby own_d1_11) kst) ?_
    refine oS (u' := s₁.setTop (mkF m 13 #[.val (.int p1), .val (.int p2)] [(.int ((p1 <<< ((1 : Int32) &&& 31)) ||| (1 : Int32)))])) (fun _ kst => XS.ior X0.here hx rfl (hb hby own_d1_12) rfl kst) ?_
    refine own_retI X0 hx hlk hret (hb hby own_d1_13) ?_ (by decide) (by decide)
    exact ⟨(by show (some (.int ((p1 <<< ((1 : Int32) &&& 31)) ||| (1 : Int32))) : Option Value) = _; unfold own_literal; rw [if_pos hc1]), e0, rfl⟩
  · refine oS (u' := s₁.setTop (mkF m 7 #[.val (.int p1), .val (.int p2)] [(.int (p1 <<< ((1 : Int32) &&& 31)))])) (fun _ kst => XS.ifNo X0.here hx rfl (hb hby own_d1_4) rfl ((if0 _ _).trans (feq hc1).1) kst) ?_
    refine oS (u' := s₁.setTop (mkF m 8 #[.val (.int p1), .val (.int p2)] [(.int (0 : Int32)), (.int (p1 <<< ((1 : Int32) &&& 31)))])) (fun _ kst => XS.iconst X0.here hx rfl (hb hby own_d1_7) kst) ?_
    refine oS (u' := s₁.setTop (mkF m 12 #[.val (.int p1), .val (.int p2)] [(.int (0 : Int32)), (.int (p1 <<< ((1 : Int32) &&& 31)))])) (fun _ kst => XS.goto X0.here hx rfl (pc0 := 8) (pc' := 12) rfl (hb hby own_d1_8) (by decide) (by decide) kst) ?_
    refine oS (u' := s₁.setTop (mkF m 13 #[.val (.int p1), .val (.int p2)] [(.int ((p1 <<< ((1 : Int32) &&& 31)) ||| (0 : Int32)))])) (fun _ kst => XS.ior X0.here hx rfl (hb hby own_d1_12) rfl kst) ?_
    refine own_retI X0 hx hlk hret (hb hby own_d1_13) ?_ (by decide) (by decide)
    exact ⟨(by show (some (.int ((p1 <<< ((1 : Int32) &&& 31)) ||| (0 : Int32))) : Option Value) = _; unfold own_literal; rw [if_neg hc1]), e0, rfl⟩
def own_n (x : Int32) : Int32 := x &&& (1073741823 : Int32)
theorem own_n_int (x : Int32) : (own_n x).toInt = x.toInt % 2 ^ 30 := Jvm.Kit.i32_mask x 1073741823 (k := 30) (by decide) (by decide)
theorem own_shl (x : Int32) : (own_n x <<< ((1 : Int32) &&& 31)).toInt = (own_n x).toInt * 2 ^ 1 :=
  Jvm.Kit.i32_shl (own_n x) ((1 : Int32) &&& 31) (k := 1) (by decide) (by have := own_n_int x; omega) (by have := own_n_int x; omega)
theorem own_ext {a b : Int32} (h : ∀ i, i < 32 → a.toBitVec.getLsbD i = b.toBitVec.getLsbD i) : a = b := Int32.toBitVec_inj.mp (BitVec.eq_of_getLsbD_eq h)
theorem own_even (x : Int32) : (own_n x <<< ((1 : Int32) &&& 31)) &&& 1 = 0 := by
  have h := Jvm.Kit.i32_mask (own_n x <<< ((1 : Int32) &&& 31)) 1 (k := 1) (by decide) (by decide)
  have h2 := own_shl x
  exact Int32.toInt_inj.mp (by rw [h, h2, show (0 : Int32).toInt = 0 from rfl]; omega)
theorem own_or_one {y : Int32} (h : y &&& 1 = 0) : y ||| 1 = y + 1 := by
  apply Int32.toBitVec_inj.mp
  rw [Int32.toBitVec_or, Int32.toBitVec_add]
  exact (BitVec.add_eq_or_of_and_eq_zero _ _ (by rw [← Int32.toBitVec_and, h]; rfl)).symm
theorem own_xor_one {y : Int32} (h : y &&& 1 = 0) : y ^^^ 1 = y ||| 1 := by
  apply own_ext
  intro i hi
  have q := congrArg (fun z : Int32 => z.toBitVec.getLsbD i) h
  simp only [Int32.toBitVec_and, Int32.toBitVec_xor, Int32.toBitVec_or, BitVec.getLsbD_and, BitVec.getLsbD_xor, BitVec.getLsbD_or, Int32.toBitVec_zero, BitVec.getLsbD_zero] at q ⊢
  revert q
  cases y.toBitVec.getLsbD i <;> cases (1 : Int32).toBitVec.getLsbD i <;> simp
theorem own_lit0 (x : Int32) : own_literal (own_n x) 0 = (own_n x <<< ((1 : Int32) &&& 31)) + 1 := by
  unfold own_literal; rw [if_pos rfl]; exact own_or_one (own_even x)
theorem own_lit1 (x : Int32) : own_literal (own_n x) 1 = (own_n x <<< ((1 : Int32) &&& 31)) := by
  unfold own_literal; rw [if_neg (by decide)]; exact Int32.or_zero
theorem own_int0 (x : Int32) : (own_literal (own_n x) 0).toInt = 2 * (own_n x).toInt + 1 := by
  have h := own_n_int x
  have h2 := own_shl x
  rw [own_lit0, Jvm.Kit.i32_add (by rw [h2, show (1 : Int32).toInt = 1 from rfl]; omega) (by rw [h2, show (1 : Int32).toInt = 1 from rfl]; omega), h2, show (1 : Int32).toInt = 1 from rfl]; omega
theorem own_int1 (x : Int32) : (own_literal (own_n x) 1).toInt = 2 * (own_n x).toInt := by
  have h2 := own_shl x
  rw [own_lit1, h2]; omega
theorem own_lt0 (x b : Int32) (hb : b = 0 ∨ b = 1 := by decide) : ¬ own_literal (own_n x) b < 0 := by
  have h := own_n_int x
  have h0 := own_int0 x
  have h1 := own_int1 x
  rw [Int32.lt_iff_toInt_lt, show (0 : Int32).toInt = 0 from rfl]
  rcases hb with rfl | rfl <;> omega
theorem own_back {y n : Int32} (h0 : 0 ≤ y.toInt) (h : y.toInt / 2 = n.toInt) : Jvm.Free.XT.ushr y 1 = n := by
  apply Int32.toInt_inj.mp
  unfold Jvm.Free.XT.ushr
  rw [Jvm.Kit.i32_iushr (Jvm.Kit.i32_nonneg.mpr h0) (k := 1) (by decide) (by decide)]
  exact h
theorem own_back0 (x : Int32) : Jvm.Free.XT.ushr (own_literal (own_n x) 0) 1 = own_n x := by
  have h := own_n_int x
  have h0 := own_int0 x
  exact own_back (by omega) (by omega)
theorem own_back1 (x : Int32) : Jvm.Free.XT.ushr (own_literal (own_n x) 1) 1 = own_n x := by
  have h := own_n_int x
  have h0 := own_int1 x
  exact own_back (by omega) (by omega)
theorem own_even1 (x : Int32) : own_literal (own_n x) 1 &&& 1 = 0 := by rw [own_lit1]; exact own_even x
theorem own_odd0 (x : Int32) : ¬ own_literal (own_n x) 0 &&& 1 = 0 := by
  intro q
  have h := Jvm.Kit.i32_mask (own_literal (own_n x) 0) 1 (k := 1) (by decide) (by decide)
  rw [q, own_int0, show (0 : Int32).toInt = 0 from rfl] at h
  omega
theorem own_pos (x : Int32) : own_literal (own_n x) 1 = 2 * own_n x := by
  apply Int32.toInt_inj.mp
  have h := own_n_int x
  rw [own_int1, Jvm.Kit.i32_mul (by rw [show (2 : Int32).toInt = 2 from rfl]; omega) (by rw [show (2 : Int32).toInt = 2 from rfl]; omega), show (2 : Int32).toInt = 2 from rfl]
theorem own_neg (x : Int32) : own_literal (own_n x) 0 = own_literal (own_n x) 1 ^^^ 1 := by
  rw [own_lit0, own_lit1, own_xor_one (own_even x), own_or_one (own_even x)]

theorem own_pn_SolverLiteralPinLaw : plainName "com/example/predicant/predicant/propositional/SolverLiteralPinLaw" = true := by first | (simp [plainName, overriddenIn]; done) | decide +kernel
theorem own_ef0 (m : MethodId) (x0 : Int32) (x1 : Int32) : entryFrame m #[(.int x0), (.int x1)] maxLocals = mkF m 0 #[.val (.int x0), .val (.int x1), .unset, .unset, .unset, .unset, .unset, .unset, .unset, .unset, .unset, .unset] [] := by first | (simp [entryFrame, mkF, argsToLocals, Value.category, maxLocals]; done) | rfl
theorem own_pd0 : parseMethodDescriptor "(IZ)I" = some ⟨[.int, .boolean], some .int⟩ := by decide +kernel
set_option maxRecDepth 65536 in
set_option maxHeartbeats 40000000 in
theorem own_law (l : Launch) (Z : State) (a0 : Array Value) (hw : ∀ d ∈ tables_1, d.before a0 Z = true) (p1 : Int32) (p2 : Int32) (h0 : Heap) (n0 : Nat) (Z0 : n0 ≤ h0.size) : own_Con l Z tables_1 x code maxLocals ret room_1 #[(.int p1), (.int p2)] h0 (fun v _ L => v = some (.int (1 : Int32)) ∧ Fr n0 L) := by
  refine own_body (plainFor_of_name own_pn_SolverLiteralPinLaw) ?_
  intro p e s m below meth c s₁ X0 hx hby hml hret hlk hown hnm hZ e0
  have N0 := Fr.nil n0
  refine oS (u' := s₁.setTop (mkF m 0 #[.val (.int p1), .val (.int p2), .unset, .unset, .unset, .unset, .unset, .unset, .unset, .unset, .unset, .unset] [])) (fun _ kst => castTop (own_ef0 m p1 p2) kst) ?_
  refine oS (u' := s₁.setTop (mkF m 1 #[.val (.int p1), .val (.int p2), .unset, .unset, .unset, .unset, .unset, .unset, .unset, .unset, .unset, .unset] [(.int p1)])) (fun _ kst => XS.iloadN X0.here hx rfl (hb hby at_0) rfl kst) ?_
  refine oS (u' := s₁.setTop (mkF m 3 #[.val (.int p1), .val (.int p2), .unset, .unset, .unset, .unset, .unset, .unset, .unset, .unset, .unset, .unset] [(.int (1073741823 : Int32)), (.int p1)])) (fun _ kst => X0.ldcInt hx hown (mvT hZ (hw _ (List.mem_of_getElem? (i := 0) rfl))) (g := (mkF m 1 #[.val (.int p1), .val (.int p2), .unset, .unset, .unset, .unset, .unset, .unset, .unset, .unset, .unset, .unset] [(.int p1)])) rfl (hb hby at_1) _ kst) ?_
  refine oS (u' := s₁.setTop (mkF m 4 #[.val (.int p1), .val (.int p2), .unset, .unset, .unset, .unset, .unset, .unset, .unset, .unset, .unset, .unset] [(.int (own_n p1))])) (fun _ kst => XS.iand X0.here hx rfl (hb hby at_3) rfl kst) ?_
  refine oS (u' := s₁.setTop (mkF m 5 #[.val (.int p1), .val (.int p2), .val (.int (own_n p1)), .unset, .unset, .unset, .unset, .unset, .unset, .unset, .unset, .unset] [])) (fun _ kst => XS.istoreN X0.here hx rfl (hb hby at_4) rfl (l' := #[.val (.int p1), .val (.int p2), .val (.int (own_n p1)), .unset, .unset, .unset, .unset, .unset, .unset, .unset, .unset, .unset]) rfl kst) ?_
  refine oS (u' := s₁.setTop (mkF m 6 #[.val (.int p1), .val (.int p2), .val (.int (own_n p1)), .unset, .unset, .unset, .unset, .unset, .unset, .unset, .unset, .unset] [(.int p2)])) (fun _ kst => XS.iloadN X0.here hx rfl (hb hby at_5) rfl kst) ?_
  refine oS (u' := s₁.setTop (mkF m 7 #[.val (.int p1), .val (.int p2), .val (.int (own_n p1)), .unset, .unset, .unset, .unset, .unset, .unset, .unset, .unset, .unset] [(.int (1 : Int32)), (.int p2)])) (fun _ kst => XS.iconst X0.here hx rfl (hb hby at_6) kst) ?_
  refine oS (u' := s₁.setTop (mkF m 8 #[.val (.int p1), .val (.int p2), .val (.int (own_n p1)), .unset, .unset, .unset, .unset, .unset, .unset, .unset, .unset, .unset] [(.int (p2 &&& (1 : Int32)))])) (fun _ kst => XS.iand X0.here hx rfl (hb hby at_7) rfl kst) ?_
  by_cases hc2 : (p2 &&& (1 : Int32)) = (0 : Int32)
  · refine oS (u' := s₁.setTop (mkF m 15 #[.val (.int p1), .val (.int p2), .val (.int (own_n p1)), .unset, .unset, .unset, .unset, .unset, .unset, .unset, .unset, .unset] [])) (fun _ kst => XS.ifYes X0.here hx rfl (pc0 := 8) (pc' := 15) rfl (hb hby at_8) rfl ((if0 _ _).trans (teq hc2).1) (by decide) (by decide) kst) ?_
    refine oS (u' := s₁.setTop (mkF m 16 #[.val (.int p1), .val (.int p2), .val (.int (own_n p1)), .unset, .unset, .unset, .unset, .unset, .unset, .unset, .unset, .unset] [(.int (0 : Int32))])) (fun _ kst => XS.iconst X0.here hx rfl (hb hby at_15) kst) ?_
    refine oS (u' := s₁.setTop (mkF m 17 #[.val (.int p1), .val (.int p2), .val (.int (own_n p1)), .val (.int (0 : Int32)), .unset, .unset, .unset, .unset, .unset, .unset, .unset, .unset] [])) (fun _ kst => XS.istoreN X0.here hx rfl (hb hby at_16) rfl (l' := #[.val (.int p1), .val (.int p2), .val (.int (own_n p1)), .val (.int (0 : Int32)), .unset, .unset, .unset, .unset, .unset, .unset, .unset, .unset]) rfl kst) ?_
    refine oS (u' := s₁.setTop (mkF m 18 #[.val (.int p1), .val (.int p2), .val (.int (own_n p1)), .val (.int (0 : Int32)), .unset, .unset, .unset, .unset, .unset, .unset, .unset, .unset] [(.int (own_n p1))])) (fun _ kst => XS.iloadN X0.here hx rfl (hb hby at_17) rfl kst) ?_
    refine oS (u' := s₁.setTop (mkF m 19 #[.val (.int p1), .val (.int p2), .val (.int (own_n p1)), .val (.int (0 : Int32)), .unset, .unset, .unset, .unset, .unset, .unset, .unset, .unset] [(.int (0 : Int32)), (.int (own_n p1))])) (fun _ kst => XS.iloadN X0.here hx rfl (hb hby at_18) rfl kst) ?_
    obtain ⟨T3, X3, e3, st3⟩ := own_callSP X0 hx hZ (y := (⟨"com/example/predicant/predicant/propositional/Solver", "literal", "(IZ)I"⟩ : MethodName)) hown (hw _ (List.mem_of_getElem? (i := 1) rfl)) (hw _ (List.mem_of_getElem? (i := 2) rfl)) (hw _ (List.mem_of_getElem? (i := 4) rfl)) (hw _ (List.mem_of_getElem? (i := 3) rfl)) (by decide) e0 (W := 0) (own_rm_literal l Z a0 hw (own_n p1) (0 : Int32) h0 ) (by decide) (by decide) (g := (mkF m 19 #[.val (.int p1), .val (.int p2), .val (.int (own_n p1)), .val (.int (0 : Int32)), .unset, .unset, .unset, .unset, .unset, .unset, .unset, .unset] [(.int (0 : Int32)), (.int (own_n p1))])) rfl (by rw [hml]; rfl) (argsL := [(.int (own_n p1)), (.int (0 : Int32))]) (rest := []) (lenOf own_pd0 rfl) rfl (by show 2 * 0 + _ ≤ _; exact Nat.le_of_eq rfl) (hb hby at_19) (by decide) (by decide)
    refine oS (u' := T3.setTop (mkF m 22 #[.val (.int p1), .val (.int p2), .val (.int (own_n p1)), .val (.int (0 : Int32)), .unset, .unset, .unset, .unset, .unset, .unset, .unset, .unset] [(.int (own_literal (own_n p1) (0 : Int32)))])) st3 ?_
    refine oS (u' := T3.setTop (mkF m 24 #[.val (.int p1), .val (.int p2), .val (.int (own_n p1)), .val (.int (0 : Int32)), .val (.int (own_literal (own_n p1) (0 : Int32))), .unset, .unset, .unset, .unset, .unset, .unset, .unset] [])) (fun _ kst => XS.istore X3.here hx rfl (hb hby at_22) rfl (l' := #[.val (.int p1), .val (.int p2), .val (.int (own_n p1)), .val (.int (0 : Int32)), .val (.int (own_literal (own_n p1) (0 : Int32))), .unset, .unset, .unset, .unset, .unset, .unset, .unset]) rfl kst) ?_
    refine oS (u' := T3.setTop (mkF m 25 #[.val (.int p1), .val (.int p2), .val (.int (own_n p1)), .val (.int (0 : Int32)), .val (.int (own_literal (own_n p1) (0 : Int32))), .unset, .unset, .unset, .unset, .unset, .unset, .unset] [(.int (own_n p1))])) (fun _ kst => XS.iloadN X3.here hx rfl (hb hby at_24) rfl kst) ?_
    refine oS (u' := T3.setTop (mkF m 26 #[.val (.int p1), .val (.int p2), .val (.int (own_n p1)), .val (.int (0 : Int32)), .val (.int (own_literal (own_n p1) (0 : Int32))), .unset, .unset, .unset, .unset, .unset, .unset, .unset] [(.int (1 : Int32)), (.int (own_n p1))])) (fun _ kst => XS.iconst X3.here hx rfl (hb hby at_25) kst) ?_
    obtain ⟨T4, X4, e4, st4⟩ := own_callSP X3 hx hZ (y := (⟨"com/example/predicant/predicant/propositional/Solver", "literal", "(IZ)I"⟩ : MethodName)) hown (hw _ (List.mem_of_getElem? (i := 1) rfl)) (hw _ (List.mem_of_getElem? (i := 2) rfl)) (hw _ (List.mem_of_getElem? (i := 4) rfl)) (hw _ (List.mem_of_getElem? (i := 3) rfl)) (by decide) e3 (W := 0) (own_rm_literal l Z a0 hw (own_n p1) (1 : Int32) h0 ) (by decide) (by decide) (g := (mkF m 26 #[.val (.int p1), .val (.int p2), .val (.int (own_n p1)), .val (.int (0 : Int32)), .val (.int (own_literal (own_n p1) (0 : Int32))), .unset, .unset, .unset, .unset, .unset, .unset, .unset] [(.int (1 : Int32)), (.int (own_n p1))])) rfl (by rw [hml]; rfl) (argsL := [(.int (own_n p1)), (.int (1 : Int32))]) (rest := []) (lenOf own_pd0 rfl) rfl (by show 2 * 0 + _ ≤ _; exact Nat.le_of_eq rfl) (hb hby at_26) (by decide) (by decide)
    refine oS (u' := T4.setTop (mkF m 29 #[.val (.int p1), .val (.int p2), .val (.int (own_n p1)), .val (.int (0 : Int32)), .val (.int (own_literal (own_n p1) (0 : Int32))), .unset, .unset, .unset, .unset, .unset, .unset, .unset] [(.int (own_literal (own_n p1) (1 : Int32)))])) st4 ?_
    refine oS (u' := T4.setTop (mkF m 31 #[.val (.int p1), .val (.int p2), .val (.int (own_n p1)), .val (.int (0 : Int32)), .val (.int (own_literal (own_n p1) (0 : Int32))), .val (.int (own_literal (own_n p1) (1 : Int32))), .unset, .unset, .unset, .unset, .unset, .unset] [])) (fun _ kst => XS.istore X4.here hx rfl (hb hby at_29) rfl (l' := #[.val (.int p1), .val (.int p2), .val (.int (own_n p1)), .val (.int (0 : Int32)), .val (.int (own_literal (own_n p1) (0 : Int32))), .val (.int (own_literal (own_n p1) (1 : Int32))), .unset, .unset, .unset, .unset, .unset, .unset]) rfl kst) ?_
    refine oS (u' := T4.setTop (mkF m 32 #[.val (.int p1), .val (.int p2), .val (.int (own_n p1)), .val (.int (0 : Int32)), .val (.int (own_literal (own_n p1) (0 : Int32))), .val (.int (own_literal (own_n p1) (1 : Int32))), .unset, .unset, .unset, .unset, .unset, .unset] [(.int (own_n p1))])) (fun _ kst => XS.iloadN X4.here hx rfl (hb hby at_31) rfl kst) ?_
    refine oS (u' := T4.setTop (mkF m 33 #[.val (.int p1), .val (.int p2), .val (.int (own_n p1)), .val (.int (0 : Int32)), .val (.int (own_literal (own_n p1) (0 : Int32))), .val (.int (own_literal (own_n p1) (1 : Int32))), .unset, .unset, .unset, .unset, .unset, .unset] [(.int (0 : Int32)), (.int (own_n p1))])) (fun _ kst => XS.iconst X4.here hx rfl (hb hby at_32) kst) ?_
    obtain ⟨T5, X5, e5, st5⟩ := own_callSP X4 hx hZ (y := (⟨"com/example/predicant/predicant/propositional/Solver", "literal", "(IZ)I"⟩ : MethodName)) hown (hw _ (List.mem_of_getElem? (i := 1) rfl)) (hw _ (List.mem_of_getElem? (i := 2) rfl)) (hw _ (List.mem_of_getElem? (i := 4) rfl)) (hw _ (List.mem_of_getElem? (i := 3) rfl)) (by decide) e4 (W := 0) (own_rm_literal l Z a0 hw (own_n p1) (0 : Int32) h0 ) (by decide) (by decide) (g := (mkF m 33 #[.val (.int p1), .val (.int p2), .val (.int (own_n p1)), .val (.int (0 : Int32)), .val (.int (own_literal (own_n p1) (0 : Int32))), .val (.int (own_literal (own_n p1) (1 : Int32))), .unset, .unset, .unset, .unset, .unset, .unset] [(.int (0 : Int32)), (.int (own_n p1))])) rfl (by rw [hml]; rfl) (argsL := [(.int (own_n p1)), (.int (0 : Int32))]) (rest := []) (lenOf own_pd0 rfl) rfl (by show 2 * 0 + _ ≤ _; exact Nat.le_of_eq rfl) (hb hby at_33) (by decide) (by decide)
    refine oS (u' := T5.setTop (mkF m 36 #[.val (.int p1), .val (.int p2), .val (.int (own_n p1)), .val (.int (0 : Int32)), .val (.int (own_literal (own_n p1) (0 : Int32))), .val (.int (own_literal (own_n p1) (1 : Int32))), .unset, .unset, .unset, .unset, .unset, .unset] [(.int (own_literal (own_n p1) (0 : Int32)))])) st5 ?_
    refine oS (u' := T5.setTop (mkF m 38 #[.val (.int p1), .val (.int p2), .val (.int (own_n p1)), .val (.int (0 : Int32)), .val (.int (own_literal (own_n p1) (0 : Int32))), .val (.int (own_literal (own_n p1) (1 : Int32))), .val (.int (own_literal (own_n p1) (0 : Int32))), .unset, .unset, .unset, .unset, .unset] [])) (fun _ kst => XS.istore X5.here hx rfl (hb hby at_36) rfl (l' := #[.val (.int p1), .val (.int p2), .val (.int (own_n p1)), .val (.int (0 : Int32)), .val (.int (own_literal (own_n p1) (0 : Int32))), .val (.int (own_literal (own_n p1) (1 : Int32))), .val (.int (own_literal (own_n p1) (0 : Int32))), .unset, .unset, .unset, .unset, .unset]) rfl kst) ?_
    refine oS (u' := T5.setTop (mkF m 40 #[.val (.int p1), .val (.int p2), .val (.int (own_n p1)), .val (.int (0 : Int32)), .val (.int (own_literal (own_n p1) (0 : Int32))), .val (.int (own_literal (own_n p1) (1 : Int32))), .val (.int (own_literal (own_n p1) (0 : Int32))), .unset, .unset, .unset, .unset, .unset] [(.int (own_literal (own_n p1) (0 : Int32)))])) (fun _ kst => XS.iload X5.here hx rfl (hb hby at_38) rfl kst) ?_
    refine oS (u' := T5.setTop (mkF m 43 #[.val (.int p1), .val (.int p2), .val (.int (own_n p1)), .val (.int (0 : Int32)), .val (.int (own_literal (own_n p1) (0 : Int32))), .val (.int (own_literal (own_n p1) (1 : Int32))), .val (.int (own_literal (own_n p1) (0 : Int32))), .unset, .unset, .unset, .unset, .unset] [])) (fun _ kst => XS.ifNo X5.here hx rfl (hb hby at_40) rfl ((if0 _ _).trans (flt (own_lt0 p1 0)).1) kst) ?_
    refine oS (u' := T5.setTop (mkF m 44 #[.val (.int p1), .val (.int p2), .val (.int (own_n p1)), .val (.int (0 : Int32)), .val (.int (own_literal (own_n p1) (0 : Int32))), .val (.int (own_literal (own_n p1) (1 : Int32))), .val (.int (own_literal (own_n p1) (0 : Int32))), .unset, .unset, .unset, .unset, .unset] [(.int (1 : Int32))])) (fun _ kst => XS.iconst X5.here hx rfl (hb hby at_43) kst) ?_
    refine oS (u' := T5.setTop (mkF m 48 #[.val (.int p1), .val (.int p2), .val (.int (own_n p1)), .val (.int (0 : Int32)), .val (.int (own_literal (own_n p1) (0 : Int32))), .val (.int (own_literal (own_n p1) (1 : Int32))), .val (.int (own_literal (own_n p1) (0 : Int32))), .unset, .unset, .unset, .unset, .unset] [(.int (1 : Int32))])) (fun _ kst => XS.goto X5.here hx rfl (pc0 := 44) (pc' := 48) rfl (hb hby at_44) (by decide) (by decide) kst) ?_
    refine oS (u' := T5.setTop (mkF m 50 #[.val (.int p1), .val (.int p2), .val (.int (own_n p1)), .val (.int (0 : Int32)), .val (.int (own_literal (own_n p1) (0 : Int32))), .val (.int (own_literal (own_n p1) (1 : Int32))), .val (.int (own_literal (own_n p1) (0 : Int32))), .val (.int (1 : Int32)), .unset, .unset, .unset, .unset] [])) (fun _ kst => XS.istore X5.here hx rfl (hb hby at_48) rfl (l' := #[.val (.int p1), .val (.int p2), .val (.int (own_n p1)), .val (.int (0 : Int32)), .val (.int (own_literal (own_n p1) (0 : Int32))), .val (.int (own_literal (own_n p1) (1 : Int32))), .val (.int (own_literal (own_n p1) (0 : Int32))), .val (.int (1 : Int32)), .unset, .unset, .unset, .unset]) rfl kst) ?_
    refine oS (u' := T5.setTop (mkF m 52 #[.val (.int p1), .val (.int p2), .val (.int (own_n p1)), .val (.int (0 : Int32)), .val (.int (own_literal (own_n p1) (0 : Int32))), .val (.int (own_literal (own_n p1) (1 : Int32))), .val (.int (own_literal (own_n p1) (0 : Int32))), .val (.int (1 : Int32)), .unset, .unset, .unset, .unset] [(.int (own_literal (own_n p1) (0 : Int32)))])) (fun _ kst => XS.iload X5.here hx rfl (hb hby at_50) rfl kst) ?_
    refine oS (u' := T5.setTop (mkF m 53 #[.val (.int p1), .val (.int p2), .val (.int (own_n p1)), .val (.int (0 : Int32)), .val (.int (own_literal (own_n p1) (0 : Int32))), .val (.int (own_literal (own_n p1) (1 : Int32))), .val (.int (own_literal (own_n p1) (0 : Int32))), .val (.int (1 : Int32)), .unset, .unset, .unset, .unset] [(.int (1 : Int32)), (.int (own_literal (own_n p1) (0 : Int32)))])) (fun _ kst => XS.iconst X5.here hx rfl (hb hby at_52) kst) ?_
    refine oS (u' := T5.setTop (mkF m 54 #[.val (.int p1), .val (.int p2), .val (.int (own_n p1)), .val (.int (0 : Int32)), .val (.int (own_literal (own_n p1) (0 : Int32))), .val (.int (own_literal (own_n p1) (1 : Int32))), .val (.int (own_literal (own_n p1) (0 : Int32))), .val (.int (1 : Int32)), .unset, .unset, .unset, .unset] [(.int (Jvm.Free.XT.ushr (own_literal (own_n p1) (0 : Int32)) (1 : Int32)))])) (fun _ kst => XS.iushr X5.here hx rfl (hb hby at_53) rfl kst) ?_
    refine oS (u' := T5.setTop (mkF m 55 #[.val (.int p1), .val (.int p2), .val (.int (own_n p1)), .val (.int (0 : Int32)), .val (.int (own_literal (own_n p1) (0 : Int32))), .val (.int (own_literal (own_n p1) (1 : Int32))), .val (.int (own_literal (own_n p1) (0 : Int32))), .val (.int (1 : Int32)), .unset, .unset, .unset, .unset] [(.int (own_n p1)), (.int (Jvm.Free.XT.ushr (own_literal (own_n p1) (0 : Int32)) (1 : Int32)))])) (fun _ kst => XS.iloadN X5.here hx rfl (hb hby at_54) rfl kst) ?_
    refine oS (u' := T5.setTop (mkF m 58 #[.val (.int p1), .val (.int p2), .val (.int (own_n p1)), .val (.int (0 : Int32)), .val (.int (own_literal (own_n p1) (0 : Int32))), .val (.int (own_literal (own_n p1) (1 : Int32))), .val (.int (own_literal (own_n p1) (0 : Int32))), .val (.int (1 : Int32)), .unset, .unset, .unset, .unset] [])) (fun _ kst => XS.icmpNo X5.here hx rfl (hb hby at_55) rfl (teq (own_back0 p1)).2 kst) ?_
    refine oS (u' := T5.setTop (mkF m 59 #[.val (.int p1), .val (.int p2), .val (.int (own_n p1)), .val (.int (0 : Int32)), .val (.int (own_literal (own_n p1) (0 : Int32))), .val (.int (own_literal (own_n p1) (1 : Int32))), .val (.int (own_literal (own_n p1) (0 : Int32))), .val (.int (1 : Int32)), .unset, .unset, .unset, .unset] [(.int (1 : Int32))])) (fun _ kst => XS.iconst X5.here hx rfl (hb hby at_58) kst) ?_
    refine oS (u' := T5.setTop (mkF m 63 #[.val (.int p1), .val (.int p2), .val (.int (own_n p1)), .val (.int (0 : Int32)), .val (.int (own_literal (own_n p1) (0 : Int32))), .val (.int (own_literal (own_n p1) (1 : Int32))), .val (.int (own_literal (own_n p1) (0 : Int32))), .val (.int (1 : Int32)), .unset, .unset, .unset, .unset] [(.int (1 : Int32))])) (fun _ kst => XS.goto X5.here hx rfl (pc0 := 59) (pc' := 63) rfl (hb hby at_59) (by decide) (by decide) kst) ?_
    refine oS (u' := T5.setTop (mkF m 65 #[.val (.int p1), .val (.int p2), .val (.int (own_n p1)), .val (.int (0 : Int32)), .val (.int (own_literal (own_n p1) (0 : Int32))), .val (.int (own_literal (own_n p1) (1 : Int32))), .val (.int (own_literal (own_n p1) (0 : Int32))), .val (.int (1 : Int32)), .val (.int (1 : Int32)), .unset, .unset, .unset] [])) (fun _ kst => XS.istore X5.here hx rfl (hb hby at_63) rfl (l' := #[.val (.int p1), .val (.int p2), .val (.int (own_n p1)), .val (.int (0 : Int32)), .val (.int (own_literal (own_n p1) (0 : Int32))), .val (.int (own_literal (own_n p1) (1 : Int32))), .val (.int (own_literal (own_n p1) (0 : Int32))), .val (.int (1 : Int32)), .val (.int (1 : Int32)), .unset, .unset, .unset]) rfl kst) ?_
    refine oS (u' := T5.setTop (mkF m 67 #[.val (.int p1), .val (.int p2), .val (.int (own_n p1)), .val (.int (0 : Int32)), .val (.int (own_literal (own_n p1) (0 : Int32))), .val (.int (own_literal (own_n p1) (1 : Int32))), .val (.int (own_literal (own_n p1) (0 : Int32))), .val (.int (1 : Int32)), .val (.int (1 : Int32)), .unset, .unset, .unset] [(.int (own_literal (own_n p1) (0 : Int32)))])) (fun _ kst => XS.iload X5.here hx rfl (hb hby at_65) rfl kst) ?_
    refine oS (u' := T5.setTop (mkF m 68 #[.val (.int p1), .val (.int p2), .val (.int (own_n p1)), .val (.int (0 : Int32)), .val (.int (own_literal (own_n p1) (0 : Int32))), .val (.int (own_literal (own_n p1) (1 : Int32))), .val (.int (own_literal (own_n p1) (0 : Int32))), .val (.int (1 : Int32)), .val (.int (1 : Int32)), .unset, .unset, .unset] [(.int (1 : Int32)), (.int (own_literal (own_n p1) (0 : Int32)))])) (fun _ kst => XS.iconst X5.here hx rfl (hb hby at_67) kst) ?_
    refine oS (u' := T5.setTop (mkF m 69 #[.val (.int p1), .val (.int p2), .val (.int (own_n p1)), .val (.int (0 : Int32)), .val (.int (own_literal (own_n p1) (0 : Int32))), .val (.int (own_literal (own_n p1) (1 : Int32))), .val (.int (own_literal (own_n p1) (0 : Int32))), .val (.int (1 : Int32)), .val (.int (1 : Int32)), .unset, .unset, .unset] [(.int ((own_literal (own_n p1) (0 : Int32)) &&& (1 : Int32)))])) (fun _ kst => XS.iand X5.here hx rfl (hb hby at_68) rfl kst) ?_
    refine oS (u' := T5.setTop (mkF m 76 #[.val (.int p1), .val (.int p2), .val (.int (own_n p1)), .val (.int (0 : Int32)), .val (.int (own_literal (own_n p1) (0 : Int32))), .val (.int (own_literal (own_n p1) (1 : Int32))), .val (.int (own_literal (own_n p1) (0 : Int32))), .val (.int (1 : Int32)), .val (.int (1 : Int32)), .unset, .unset, .unset] [])) (fun _ kst => XS.ifYes X5.here hx rfl (pc0 := 69) (pc' := 76) rfl (hb hby at_69) rfl ((if0 _ _).trans (feq (own_odd0 p1)).2) (by decide) (by decide) kst) ?_
    refine oS (u' := T5.setTop (mkF m 77 #[.val (.int p1), .val (.int p2), .val (.int (own_n p1)), .val (.int (0 : Int32)), .val (.int (own_literal (own_n p1) (0 : Int32))), .val (.int (own_literal (own_n p1) (1 : Int32))), .val (.int (own_literal (own_n p1) (0 : Int32))), .val (.int (1 : Int32)), .val (.int (1 : Int32)), .unset, .unset, .unset] [(.int (0 : Int32))])) (fun _ kst => XS.iconst X5.here hx rfl (hb hby at_76) kst) ?_
    refine oS (u' := T5.setTop (mkF m 78 #[.val (.int p1), .val (.int p2), .val (.int (own_n p1)), .val (.int (0 : Int32)), .val (.int (own_literal (own_n p1) (0 : Int32))), .val (.int (own_literal (own_n p1) (1 : Int32))), .val (.int (own_literal (own_n p1) (0 : Int32))), .val (.int (1 : Int32)), .val (.int (1 : Int32)), .unset, .unset, .unset] [(.int (0 : Int32)), (.int (0 : Int32))])) (fun _ kst => XS.iloadN X5.here hx rfl (hb hby at_77) rfl kst) ?_
    refine oS (u' := T5.setTop (mkF m 81 #[.val (.int p1), .val (.int p2), .val (.int (own_n p1)), .val (.int (0 : Int32)), .val (.int (own_literal (own_n p1) (0 : Int32))), .val (.int (own_literal (own_n p1) (1 : Int32))), .val (.int (own_literal (own_n p1) (0 : Int32))), .val (.int (1 : Int32)), .val (.int (1 : Int32)), .unset, .unset, .unset] [])) (fun _ kst => XS.icmpNo X5.here hx rfl (hb hby at_78) rfl (teq (by decide : (0 : Int32) = (0 : Int32))).2 kst) ?_
    refine oS (u' := T5.setTop (mkF m 82 #[.val (.int p1), .val (.int p2), .val (.int (own_n p1)), .val (.int (0 : Int32)), .val (.int (own_literal (own_n p1) (0 : Int32))), .val (.int (own_literal (own_n p1) (1 : Int32))), .val (.int (own_literal (own_n p1) (0 : Int32))), .val (.int (1 : Int32)), .val (.int (1 : Int32)), .unset, .unset, .unset] [(.int (1 : Int32))])) (fun _ kst => XS.iconst X5.here hx rfl (hb hby at_81) kst) ?_
    refine oS (u' := T5.setTop (mkF m 86 #[.val (.int p1), .val (.int p2), .val (.int (own_n p1)), .val (.int (0 : Int32)), .val (.int (own_literal (own_n p1) (0 : Int32))), .val (.int (own_literal (own_n p1) (1 : Int32))), .val (.int (own_literal (own_n p1) (0 : Int32))), .val (.int (1 : Int32)), .val (.int (1 : Int32)), .unset, .unset, .unset] [(.int (1 : Int32))])) (fun _ kst => XS.goto X5.here hx rfl (pc0 := 82) (pc' := 86) rfl (hb hby at_82) (by decide) (by decide) kst) ?_
    refine oS (u' := T5.setTop (mkF m 88 #[.val (.int p1), .val (.int p2), .val (.int (own_n p1)), .val (.int (0 : Int32)), .val (.int (own_literal (own_n p1) (0 : Int32))), .val (.int (own_literal (own_n p1) (1 : Int32))), .val (.int (own_literal (own_n p1) (0 : Int32))), .val (.int (1 : Int32)), .val (.int (1 : Int32)), .val (.int (1 : Int32)), .unset, .unset] [])) (fun _ kst => XS.istore X5.here hx rfl (hb hby at_86) rfl (l' := #[.val (.int p1), .val (.int p2), .val (.int (own_n p1)), .val (.int (0 : Int32)), .val (.int (own_literal (own_n p1) (0 : Int32))), .val (.int (own_literal (own_n p1) (1 : Int32))), .val (.int (own_literal (own_n p1) (0 : Int32))), .val (.int (1 : Int32)), .val (.int (1 : Int32)), .val (.int (1 : Int32)), .unset, .unset]) rfl kst) ?_
    refine oS (u' := T5.setTop (mkF m 90 #[.val (.int p1), .val (.int p2), .val (.int (own_n p1)), .val (.int (0 : Int32)), .val (.int (own_literal (own_n p1) (0 : Int32))), .val (.int (own_literal (own_n p1) (1 : Int32))), .val (.int (own_literal (own_n p1) (0 : Int32))), .val (.int (1 : Int32)), .val (.int (1 : Int32)), .val (.int (1 : Int32)), .unset, .unset] [(.int (own_literal (own_n p1) (1 : Int32)))])) (fun _ kst => XS.iload X5.here hx rfl (hb hby at_88) rfl kst) ?_
    refine oS (u' := T5.setTop (mkF m 91 #[.val (.int p1), .val (.int p2), .val (.int (own_n p1)), .val (.int (0 : Int32)), .val (.int (own_literal (own_n p1) (0 : Int32))), .val (.int (own_literal (own_n p1) (1 : Int32))), .val (.int (own_literal (own_n p1) (0 : Int32))), .val (.int (1 : Int32)), .val (.int (1 : Int32)), .val (.int (1 : Int32)), .unset, .unset] [(.int (2 : Int32)), (.int (own_literal (own_n p1) (1 : Int32)))])) (fun _ kst => XS.iconst X5.here hx rfl (hb hby at_90) kst) ?_
    refine oS (u' := T5.setTop (mkF m 92 #[.val (.int p1), .val (.int p2), .val (.int (own_n p1)), .val (.int (0 : Int32)), .val (.int (own_literal (own_n p1) (0 : Int32))), .val (.int (own_literal (own_n p1) (1 : Int32))), .val (.int (own_literal (own_n p1) (0 : Int32))), .val (.int (1 : Int32)), .val (.int (1 : Int32)), .val (.int (1 : Int32)), .unset, .unset] [(.int (own_n p1)), (.int (2 : Int32)), (.int (own_literal (own_n p1) (1 : Int32)))])) (fun _ kst => XS.iloadN X5.here hx rfl (hb hby at_91) rfl kst) ?_
    refine oS (u' := T5.setTop (mkF m 93 #[.val (.int p1), .val (.int p2), .val (.int (own_n p1)), .val (.int (0 : Int32)), .val (.int (own_literal (own_n p1) (0 : Int32))), .val (.int (own_literal (own_n p1) (1 : Int32))), .val (.int (own_literal (own_n p1) (0 : Int32))), .val (.int (1 : Int32)), .val (.int (1 : Int32)), .val (.int (1 : Int32)), .unset, .unset] [(.int ((2 : Int32) * (own_n p1))), (.int (own_literal (own_n p1) (1 : Int32)))])) (fun _ kst => XS.imul X5.here hx rfl (hb hby at_92) rfl kst) ?_
    refine oS (u' := T5.setTop (mkF m 96 #[.val (.int p1), .val (.int p2), .val (.int (own_n p1)), .val (.int (0 : Int32)), .val (.int (own_literal (own_n p1) (0 : Int32))), .val (.int (own_literal (own_n p1) (1 : Int32))), .val (.int (own_literal (own_n p1) (0 : Int32))), .val (.int (1 : Int32)), .val (.int (1 : Int32)), .val (.int (1 : Int32)), .unset, .unset] [])) (fun _ kst => XS.icmpNo X5.here hx rfl (hb hby at_93) rfl (teq (own_pos p1)).2 kst) ?_
    refine oS (u' := T5.setTop (mkF m 97 #[.val (.int p1), .val (.int p2), .val (.int (own_n p1)), .val (.int (0 : Int32)), .val (.int (own_literal (own_n p1) (0 : Int32))), .val (.int (own_literal (own_n p1) (1 : Int32))), .val (.int (own_literal (own_n p1) (0 : Int32))), .val (.int (1 : Int32)), .val (.int (1 : Int32)), .val (.int (1 : Int32)), .unset, .unset] [(.int (1 : Int32))])) (fun _ kst => XS.iconst X5.here hx rfl (hb hby at_96) kst) ?_
    refine oS (u' := T5.setTop (mkF m 101 #[.val (.int p1), .val (.int p2), .val (.int (own_n p1)), .val (.int (0 : Int32)), .val (.int (own_literal (own_n p1) (0 : Int32))), .val (.int (own_literal (own_n p1) (1 : Int32))), .val (.int (own_literal (own_n p1) (0 : Int32))), .val (.int (1 : Int32)), .val (.int (1 : Int32)), .val (.int (1 : Int32)), .unset, .unset] [(.int (1 : Int32))])) (fun _ kst => XS.goto X5.here hx rfl (pc0 := 97) (pc' := 101) rfl (hb hby at_97) (by decide) (by decide) kst) ?_
    refine oS (u' := T5.setTop (mkF m 103 #[.val (.int p1), .val (.int p2), .val (.int (own_n p1)), .val (.int (0 : Int32)), .val (.int (own_literal (own_n p1) (0 : Int32))), .val (.int (own_literal (own_n p1) (1 : Int32))), .val (.int (own_literal (own_n p1) (0 : Int32))), .val (.int (1 : Int32)), .val (.int (1 : Int32)), .val (.int (1 : Int32)), .val (.int (1 : Int32)), .unset] [])) (fun _ kst => XS.istore X5.here hx rfl (hb hby at_101) rfl (l' := #[.val (.int p1), .val (.int p2), .val (.int (own_n p1)), .val (.int (0 : Int32)), .val (.int (own_literal (own_n p1) (0 : Int32))), .val (.int (own_literal (own_n p1) (1 : Int32))), .val (.int (own_literal (own_n p1) (0 : Int32))), .val (.int (1 : Int32)), .val (.int (1 : Int32)), .val (.int (1 : Int32)), .val (.int (1 : Int32)), .unset]) rfl kst) ?_
    refine oS (u' := T5.setTop (mkF m 105 #[.val (.int p1), .val (.int p2), .val (.int (own_n p1)), .val (.int (0 : Int32)), .val (.int (own_literal (own_n p1) (0 : Int32))), .val (.int (own_literal (own_n p1) (1 : Int32))), .val (.int (own_literal (own_n p1) (0 : Int32))), .val (.int (1 : Int32)), .val (.int (1 : Int32)), .val (.int (1 : Int32)), .val (.int (1 : Int32)), .unset] [(.int (own_literal (own_n p1) (0 : Int32)))])) (fun _ kst => XS.iload X5.here hx rfl (hb hby at_103) rfl kst) ?_
    refine oS (u' := T5.setTop (mkF m 107 #[.val (.int p1), .val (.int p2), .val (.int (own_n p1)), .val (.int (0 : Int32)), .val (.int (own_literal (own_n p1) (0 : Int32))), .val (.int (own_literal (own_n p1) (1 : Int32))), .val (.int (own_literal (own_n p1) (0 : Int32))), .val (.int (1 : Int32)), .val (.int (1 : Int32)), .val (.int (1 : Int32)), .val (.int (1 : Int32)), .unset] [(.int (own_literal (own_n p1) (1 : Int32))), (.int (own_literal (own_n p1) (0 : Int32)))])) (fun _ kst => XS.iload X5.here hx rfl (hb hby at_105) rfl kst) ?_
    refine oS (u' := T5.setTop (mkF m 108 #[.val (.int p1), .val (.int p2), .val (.int (own_n p1)), .val (.int (0 : Int32)), .val (.int (own_literal (own_n p1) (0 : Int32))), .val (.int (own_literal (own_n p1) (1 : Int32))), .val (.int (own_literal (own_n p1) (0 : Int32))), .val (.int (1 : Int32)), .val (.int (1 : Int32)), .val (.int (1 : Int32)), .val (.int (1 : Int32)), .unset] [(.int (1 : Int32)), (.int (own_literal (own_n p1) (1 : Int32))), (.int (own_literal (own_n p1) (0 : Int32)))])) (fun _ kst => XS.iconst X5.here hx rfl (hb hby at_107) kst) ?_
    refine oS (u' := T5.setTop (mkF m 109 #[.val (.int p1), .val (.int p2), .val (.int (own_n p1)), .val (.int (0 : Int32)), .val (.int (own_literal (own_n p1) (0 : Int32))), .val (.int (own_literal (own_n p1) (1 : Int32))), .val (.int (own_literal (own_n p1) (0 : Int32))), .val (.int (1 : Int32)), .val (.int (1 : Int32)), .val (.int (1 : Int32)), .val (.int (1 : Int32)), .unset] [(.int ((own_literal (own_n p1) (1 : Int32)) ^^^ (1 : Int32))), (.int (own_literal (own_n p1) (0 : Int32)))])) (fun _ kst => XS.ixor X5.here hx rfl (hb hby at_108) rfl kst) ?_
    refine oS (u' := T5.setTop (mkF m 112 #[.val (.int p1), .val (.int p2), .val (.int (own_n p1)), .val (.int (0 : Int32)), .val (.int (own_literal (own_n p1) (0 : Int32))), .val (.int (own_literal (own_n p1) (1 : Int32))), .val (.int (own_literal (own_n p1) (0 : Int32))), .val (.int (1 : Int32)), .val (.int (1 : Int32)), .val (.int (1 : Int32)), .val (.int (1 : Int32)), .unset] [])) (fun _ kst => XS.icmpNo X5.here hx rfl (hb hby at_109) rfl (teq (own_neg p1)).2 kst) ?_
    refine oS (u' := T5.setTop (mkF m 113 #[.val (.int p1), .val (.int p2), .val (.int (own_n p1)), .val (.int (0 : Int32)), .val (.int (own_literal (own_n p1) (0 : Int32))), .val (.int (own_literal (own_n p1) (1 : Int32))), .val (.int (own_literal (own_n p1) (0 : Int32))), .val (.int (1 : Int32)), .val (.int (1 : Int32)), .val (.int (1 : Int32)), .val (.int (1 : Int32)), .unset] [(.int (1 : Int32))])) (fun _ kst => XS.iconst X5.here hx rfl (hb hby at_112) kst) ?_
    refine oS (u' := T5.setTop (mkF m 117 #[.val (.int p1), .val (.int p2), .val (.int (own_n p1)), .val (.int (0 : Int32)), .val (.int (own_literal (own_n p1) (0 : Int32))), .val (.int (own_literal (own_n p1) (1 : Int32))), .val (.int (own_literal (own_n p1) (0 : Int32))), .val (.int (1 : Int32)), .val (.int (1 : Int32)), .val (.int (1 : Int32)), .val (.int (1 : Int32)), .unset] [(.int (1 : Int32))])) (fun _ kst => XS.goto X5.here hx rfl (pc0 := 113) (pc' := 117) rfl (hb hby at_113) (by decide) (by decide) kst) ?_
    refine oS (u' := T5.setTop (mkF m 119 #[.val (.int p1), .val (.int p2), .val (.int (own_n p1)), .val (.int (0 : Int32)), .val (.int (own_literal (own_n p1) (0 : Int32))), .val (.int (own_literal (own_n p1) (1 : Int32))), .val (.int (own_literal (own_n p1) (0 : Int32))), .val (.int (1 : Int32)), .val (.int (1 : Int32)), .val (.int (1 : Int32)), .val (.int (1 : Int32)), .val (.int (1 : Int32))] [])) (fun _ kst => XS.istore X5.here hx rfl (hb hby at_117) rfl (l' := #[.val (.int p1), .val (.int p2), .val (.int (own_n p1)), .val (.int (0 : Int32)), .val (.int (own_literal (own_n p1) (0 : Int32))), .val (.int (own_literal (own_n p1) (1 : Int32))), .val (.int (own_literal (own_n p1) (0 : Int32))), .val (.int (1 : Int32)), .val (.int (1 : Int32)), .val (.int (1 : Int32)), .val (.int (1 : Int32)), .val (.int (1 : Int32))]) rfl kst) ?_
    refine oS (u' := T5.setTop (mkF m 121 #[.val (.int p1), .val (.int p2), .val (.int (own_n p1)), .val (.int (0 : Int32)), .val (.int (own_literal (own_n p1) (0 : Int32))), .val (.int (own_literal (own_n p1) (1 : Int32))), .val (.int (own_literal (own_n p1) (0 : Int32))), .val (.int (1 : Int32)), .val (.int (1 : Int32)), .val (.int (1 : Int32)), .val (.int (1 : Int32)), .val (.int (1 : Int32))] [(.int (1 : Int32))])) (fun _ kst => XS.iload X5.here hx rfl (hb hby at_119) rfl kst) ?_
    refine oS (u' := T5.setTop (mkF m 124 #[.val (.int p1), .val (.int p2), .val (.int (own_n p1)), .val (.int (0 : Int32)), .val (.int (own_literal (own_n p1) (0 : Int32))), .val (.int (own_literal (own_n p1) (1 : Int32))), .val (.int (own_literal (own_n p1) (0 : Int32))), .val (.int (1 : Int32)), .val (.int (1 : Int32)), .val (.int (1 : Int32)), .val (.int (1 : Int32)), .val (.int (1 : Int32))] [])) (fun _ kst => XS.ifNo X5.here hx rfl (hb hby at_121) rfl ((if0 _ _).trans (feq (by decide : ¬ ((1 : Int32) = (0 : Int32)))).1) kst) ?_
    refine oS (u' := T5.setTop (mkF m 126 #[.val (.int p1), .val (.int p2), .val (.int (own_n p1)), .val (.int (0 : Int32)), .val (.int (own_literal (own_n p1) (0 : Int32))), .val (.int (own_literal (own_n p1) (1 : Int32))), .val (.int (own_literal (own_n p1) (0 : Int32))), .val (.int (1 : Int32)), .val (.int (1 : Int32)), .val (.int (1 : Int32)), .val (.int (1 : Int32)), .val (.int (1 : Int32))] [(.int (1 : Int32))])) (fun _ kst => XS.iload X5.here hx rfl (hb hby at_124) rfl kst) ?_
    refine oS (u' := T5.setTop (mkF m 129 #[.val (.int p1), .val (.int p2), .val (.int (own_n p1)), .val (.int (0 : Int32)), .val (.int (own_literal (own_n p1) (0 : Int32))), .val (.int (own_literal (own_n p1) (1 : Int32))), .val (.int (own_literal (own_n p1) (0 : Int32))), .val (.int (1 : Int32)), .val (.int (1 : Int32)), .val (.int (1 : Int32)), .val (.int (1 : Int32)), .val (.int (1 : Int32))] [])) (fun _ kst => XS.ifNo X5.here hx rfl (hb hby at_126) rfl ((if0 _ _).trans (feq (by decide : ¬ ((1 : Int32) = (0 : Int32)))).1) kst) ?_
    refine oS (u' := T5.setTop (mkF m 131 #[.val (.int p1), .val (.int p2), .val (.int (own_n p1)), .val (.int (0 : Int32)), .val (.int (own_literal (own_n p1) (0 : Int32))), .val (.int (own_literal (own_n p1) (1 : Int32))), .val (.int (own_literal (own_n p1) (0 : Int32))), .val (.int (1 : Int32)), .val (.int (1 : Int32)), .val (.int (1 : Int32)), .val (.int (1 : Int32)), .val (.int (1 : Int32))] [(.int (1 : Int32))])) (fun _ kst => XS.iload X5.here hx rfl (hb hby at_129) rfl kst) ?_
    refine oS (u' := T5.setTop (mkF m 134 #[.val (.int p1), .val (.int p2), .val (.int (own_n p1)), .val (.int (0 : Int32)), .val (.int (own_literal (own_n p1) (0 : Int32))), .val (.int (own_literal (own_n p1) (1 : Int32))), .val (.int (own_literal (own_n p1) (0 : Int32))), .val (.int (1 : Int32)), .val (.int (1 : Int32)), .val (.int (1 : Int32)), .val (.int (1 : Int32)), .val (.int (1 : Int32))] [])) (fun _ kst => XS.ifNo X5.here hx rfl (hb hby at_131) rfl ((if0 _ _).trans (feq (by decide : ¬ ((1 : Int32) = (0 : Int32)))).1) kst) ?_
    refine oS (u' := T5.setTop (mkF m 136 #[.val (.int p1), .val (.int p2), .val (.int (own_n p1)), .val (.int (0 : Int32)), .val (.int (own_literal (own_n p1) (0 : Int32))), .val (.int (own_literal (own_n p1) (1 : Int32))), .val (.int (own_literal (own_n p1) (0 : Int32))), .val (.int (1 : Int32)), .val (.int (1 : Int32)), .val (.int (1 : Int32)), .val (.int (1 : Int32)), .val (.int (1 : Int32))] [(.int (1 : Int32))])) (fun _ kst => XS.iload X5.here hx rfl (hb hby at_134) rfl kst) ?_
    refine oS (u' := T5.setTop (mkF m 139 #[.val (.int p1), .val (.int p2), .val (.int (own_n p1)), .val (.int (0 : Int32)), .val (.int (own_literal (own_n p1) (0 : Int32))), .val (.int (own_literal (own_n p1) (1 : Int32))), .val (.int (own_literal (own_n p1) (0 : Int32))), .val (.int (1 : Int32)), .val (.int (1 : Int32)), .val (.int (1 : Int32)), .val (.int (1 : Int32)), .val (.int (1 : Int32))] [])) (fun _ kst => XS.ifNo X5.here hx rfl (hb hby at_136) rfl ((if0 _ _).trans (feq (by decide : ¬ ((1 : Int32) = (0 : Int32)))).1) kst) ?_
    refine oS (u' := T5.setTop (mkF m 141 #[.val (.int p1), .val (.int p2), .val (.int (own_n p1)), .val (.int (0 : Int32)), .val (.int (own_literal (own_n p1) (0 : Int32))), .val (.int (own_literal (own_n p1) (1 : Int32))), .val (.int (own_literal (own_n p1) (0 : Int32))), .val (.int (1 : Int32)), .val (.int (1 : Int32)), .val (.int (1 : Int32)), .val (.int (1 : Int32)), .val (.int (1 : Int32))] [(.int (1 : Int32))])) (fun _ kst => XS.iload X5.here hx rfl (hb hby at_139) rfl kst) ?_
    refine oS (u' := T5.setTop (mkF m 144 #[.val (.int p1), .val (.int p2), .val (.int (own_n p1)), .val (.int (0 : Int32)), .val (.int (own_literal (own_n p1) (0 : Int32))), .val (.int (own_literal (own_n p1) (1 : Int32))), .val (.int (own_literal (own_n p1) (0 : Int32))), .val (.int (1 : Int32)), .val (.int (1 : Int32)), .val (.int (1 : Int32)), .val (.int (1 : Int32)), .val (.int (1 : Int32))] [])) (fun _ kst => XS.ifNo X5.here hx rfl (hb hby at_141) rfl ((if0 _ _).trans (feq (by decide : ¬ ((1 : Int32) = (0 : Int32)))).1) kst) ?_
    refine oS (u' := T5.setTop (mkF m 145 #[.val (.int p1), .val (.int p2), .val (.int (own_n p1)), .val (.int (0 : Int32)), .val (.int (own_literal (own_n p1) (0 : Int32))), .val (.int (own_literal (own_n p1) (1 : Int32))), .val (.int (own_literal (own_n p1) (0 : Int32))), .val (.int (1 : Int32)), .val (.int (1 : Int32)), .val (.int (1 : Int32)), .val (.int (1 : Int32)), .val (.int (1 : Int32))] [(.int (1 : Int32))])) (fun _ kst => XS.iconst X5.here hx rfl (hb hby at_144) kst) ?_
    refine oS (u' := T5.setTop (mkF m 149 #[.val (.int p1), .val (.int p2), .val (.int (own_n p1)), .val (.int (0 : Int32)), .val (.int (own_literal (own_n p1) (0 : Int32))), .val (.int (own_literal (own_n p1) (1 : Int32))), .val (.int (own_literal (own_n p1) (0 : Int32))), .val (.int (1 : Int32)), .val (.int (1 : Int32)), .val (.int (1 : Int32)), .val (.int (1 : Int32)), .val (.int (1 : Int32))] [(.int (1 : Int32))])) (fun _ kst => XS.goto X5.here hx rfl (pc0 := 145) (pc' := 149) rfl (hb hby at_145) (by decide) (by decide) kst) ?_
    refine own_retN X5 hx hlk (t := .boolean) hret (by simp) (hb hby at_149) ?_ (by decide) (by decide)
    exact ⟨rfl, N0⟩
  · refine oS (u' := s₁.setTop (mkF m 11 #[.val (.int p1), .val (.int p2), .val (.int (own_n p1)), .unset, .unset, .unset, .unset, .unset, .unset, .unset, .unset, .unset] [])) (fun _ kst => XS.ifNo X0.here hx rfl (hb hby at_8) rfl ((if0 _ _).trans (feq hc2).1) kst) ?_
    refine oS (u' := s₁.setTop (mkF m 12 #[.val (.int p1), .val (.int p2), .val (.int (own_n p1)), .unset, .unset, .unset, .unset, .unset, .unset, .unset, .unset, .unset] [(.int (1 : Int32))])) (fun _ kst => XS.iconst X0.here hx rfl (hb hby at_11) kst) ?_
    refine oS (u' := s₁.setTop (mkF m 16 #[.val (.int p1), .val (.int p2), .val (.int (own_n p1)), .unset, .unset, .unset, .unset, .unset, .unset, .unset, .unset, .unset] [(.int (1 : Int32))])) (fun _ kst => XS.goto X0.here hx rfl (pc0 := 12) (pc' := 16) rfl (hb hby at_12) (by decide) (by decide) kst) ?_
    refine oS (u' := s₁.setTop (mkF m 17 #[.val (.int p1), .val (.int p2), .val (.int (own_n p1)), .val (.int (1 : Int32)), .unset, .unset, .unset, .unset, .unset, .unset, .unset, .unset] [])) (fun _ kst => XS.istoreN X0.here hx rfl (hb hby at_16) rfl (l' := #[.val (.int p1), .val (.int p2), .val (.int (own_n p1)), .val (.int (1 : Int32)), .unset, .unset, .unset, .unset, .unset, .unset, .unset, .unset]) rfl kst) ?_
    refine oS (u' := s₁.setTop (mkF m 18 #[.val (.int p1), .val (.int p2), .val (.int (own_n p1)), .val (.int (1 : Int32)), .unset, .unset, .unset, .unset, .unset, .unset, .unset, .unset] [(.int (own_n p1))])) (fun _ kst => XS.iloadN X0.here hx rfl (hb hby at_17) rfl kst) ?_
    refine oS (u' := s₁.setTop (mkF m 19 #[.val (.int p1), .val (.int p2), .val (.int (own_n p1)), .val (.int (1 : Int32)), .unset, .unset, .unset, .unset, .unset, .unset, .unset, .unset] [(.int (1 : Int32)), (.int (own_n p1))])) (fun _ kst => XS.iloadN X0.here hx rfl (hb hby at_18) rfl kst) ?_
    obtain ⟨T6, X6, e6, st6⟩ := own_callSP X0 hx hZ (y := (⟨"com/example/predicant/predicant/propositional/Solver", "literal", "(IZ)I"⟩ : MethodName)) hown (hw _ (List.mem_of_getElem? (i := 1) rfl)) (hw _ (List.mem_of_getElem? (i := 2) rfl)) (hw _ (List.mem_of_getElem? (i := 4) rfl)) (hw _ (List.mem_of_getElem? (i := 3) rfl)) (by decide) e0 (W := 0) (own_rm_literal l Z a0 hw (own_n p1) (1 : Int32) h0 ) (by decide) (by decide) (g := (mkF m 19 #[.val (.int p1), .val (.int p2), .val (.int (own_n p1)), .val (.int (1 : Int32)), .unset, .unset, .unset, .unset, .unset, .unset, .unset, .unset] [(.int (1 : Int32)), (.int (own_n p1))])) rfl (by rw [hml]; rfl) (argsL := [(.int (own_n p1)), (.int (1 : Int32))]) (rest := []) (lenOf own_pd0 rfl) rfl (by show 2 * 0 + _ ≤ _; exact Nat.le_of_eq rfl) (hb hby at_19) (by decide) (by decide)
    refine oS (u' := T6.setTop (mkF m 22 #[.val (.int p1), .val (.int p2), .val (.int (own_n p1)), .val (.int (1 : Int32)), .unset, .unset, .unset, .unset, .unset, .unset, .unset, .unset] [(.int (own_literal (own_n p1) (1 : Int32)))])) st6 ?_
    refine oS (u' := T6.setTop (mkF m 24 #[.val (.int p1), .val (.int p2), .val (.int (own_n p1)), .val (.int (1 : Int32)), .val (.int (own_literal (own_n p1) (1 : Int32))), .unset, .unset, .unset, .unset, .unset, .unset, .unset] [])) (fun _ kst => XS.istore X6.here hx rfl (hb hby at_22) rfl (l' := #[.val (.int p1), .val (.int p2), .val (.int (own_n p1)), .val (.int (1 : Int32)), .val (.int (own_literal (own_n p1) (1 : Int32))), .unset, .unset, .unset, .unset, .unset, .unset, .unset]) rfl kst) ?_
    refine oS (u' := T6.setTop (mkF m 25 #[.val (.int p1), .val (.int p2), .val (.int (own_n p1)), .val (.int (1 : Int32)), .val (.int (own_literal (own_n p1) (1 : Int32))), .unset, .unset, .unset, .unset, .unset, .unset, .unset] [(.int (own_n p1))])) (fun _ kst => XS.iloadN X6.here hx rfl (hb hby at_24) rfl kst) ?_
    refine oS (u' := T6.setTop (mkF m 26 #[.val (.int p1), .val (.int p2), .val (.int (own_n p1)), .val (.int (1 : Int32)), .val (.int (own_literal (own_n p1) (1 : Int32))), .unset, .unset, .unset, .unset, .unset, .unset, .unset] [(.int (1 : Int32)), (.int (own_n p1))])) (fun _ kst => XS.iconst X6.here hx rfl (hb hby at_25) kst) ?_
    obtain ⟨T7, X7, e7, st7⟩ := own_callSP X6 hx hZ (y := (⟨"com/example/predicant/predicant/propositional/Solver", "literal", "(IZ)I"⟩ : MethodName)) hown (hw _ (List.mem_of_getElem? (i := 1) rfl)) (hw _ (List.mem_of_getElem? (i := 2) rfl)) (hw _ (List.mem_of_getElem? (i := 4) rfl)) (hw _ (List.mem_of_getElem? (i := 3) rfl)) (by decide) e6 (W := 0) (own_rm_literal l Z a0 hw (own_n p1) (1 : Int32) h0 ) (by decide) (by decide) (g := (mkF m 26 #[.val (.int p1), .val (.int p2), .val (.int (own_n p1)), .val (.int (1 : Int32)), .val (.int (own_literal (own_n p1) (1 : Int32))), .unset, .unset, .unset, .unset, .unset, .unset, .unset] [(.int (1 : Int32)), (.int (own_n p1))])) rfl (by rw [hml]; rfl) (argsL := [(.int (own_n p1)), (.int (1 : Int32))]) (rest := []) (lenOf own_pd0 rfl) rfl (by show 2 * 0 + _ ≤ _; exact Nat.le_of_eq rfl) (hb hby at_26) (by decide) (by decide)
    refine oS (u' := T7.setTop (mkF m 29 #[.val (.int p1), .val (.int p2), .val (.int (own_n p1)), .val (.int (1 : Int32)), .val (.int (own_literal (own_n p1) (1 : Int32))), .unset, .unset, .unset, .unset, .unset, .unset, .unset] [(.int (own_literal (own_n p1) (1 : Int32)))])) st7 ?_
    refine oS (u' := T7.setTop (mkF m 31 #[.val (.int p1), .val (.int p2), .val (.int (own_n p1)), .val (.int (1 : Int32)), .val (.int (own_literal (own_n p1) (1 : Int32))), .val (.int (own_literal (own_n p1) (1 : Int32))), .unset, .unset, .unset, .unset, .unset, .unset] [])) (fun _ kst => XS.istore X7.here hx rfl (hb hby at_29) rfl (l' := #[.val (.int p1), .val (.int p2), .val (.int (own_n p1)), .val (.int (1 : Int32)), .val (.int (own_literal (own_n p1) (1 : Int32))), .val (.int (own_literal (own_n p1) (1 : Int32))), .unset, .unset, .unset, .unset, .unset, .unset]) rfl kst) ?_
    refine oS (u' := T7.setTop (mkF m 32 #[.val (.int p1), .val (.int p2), .val (.int (own_n p1)), .val (.int (1 : Int32)), .val (.int (own_literal (own_n p1) (1 : Int32))), .val (.int (own_literal (own_n p1) (1 : Int32))), .unset, .unset, .unset, .unset, .unset, .unset] [(.int (own_n p1))])) (fun _ kst => XS.iloadN X7.here hx rfl (hb hby at_31) rfl kst) ?_
    refine oS (u' := T7.setTop (mkF m 33 #[.val (.int p1), .val (.int p2), .val (.int (own_n p1)), .val (.int (1 : Int32)), .val (.int (own_literal (own_n p1) (1 : Int32))), .val (.int (own_literal (own_n p1) (1 : Int32))), .unset, .unset, .unset, .unset, .unset, .unset] [(.int (0 : Int32)), (.int (own_n p1))])) (fun _ kst => XS.iconst X7.here hx rfl (hb hby at_32) kst) ?_
    obtain ⟨T8, X8, e8, st8⟩ := own_callSP X7 hx hZ (y := (⟨"com/example/predicant/predicant/propositional/Solver", "literal", "(IZ)I"⟩ : MethodName)) hown (hw _ (List.mem_of_getElem? (i := 1) rfl)) (hw _ (List.mem_of_getElem? (i := 2) rfl)) (hw _ (List.mem_of_getElem? (i := 4) rfl)) (hw _ (List.mem_of_getElem? (i := 3) rfl)) (by decide) e7 (W := 0) (own_rm_literal l Z a0 hw (own_n p1) (0 : Int32) h0 ) (by decide) (by decide) (g := (mkF m 33 #[.val (.int p1), .val (.int p2), .val (.int (own_n p1)), .val (.int (1 : Int32)), .val (.int (own_literal (own_n p1) (1 : Int32))), .val (.int (own_literal (own_n p1) (1 : Int32))), .unset, .unset, .unset, .unset, .unset, .unset] [(.int (0 : Int32)), (.int (own_n p1))])) rfl (by rw [hml]; rfl) (argsL := [(.int (own_n p1)), (.int (0 : Int32))]) (rest := []) (lenOf own_pd0 rfl) rfl (by show 2 * 0 + _ ≤ _; exact Nat.le_of_eq rfl) (hb hby at_33) (by decide) (by decide)
    refine oS (u' := T8.setTop (mkF m 36 #[.val (.int p1), .val (.int p2), .val (.int (own_n p1)), .val (.int (1 : Int32)), .val (.int (own_literal (own_n p1) (1 : Int32))), .val (.int (own_literal (own_n p1) (1 : Int32))), .unset, .unset, .unset, .unset, .unset, .unset] [(.int (own_literal (own_n p1) (0 : Int32)))])) st8 ?_
    refine oS (u' := T8.setTop (mkF m 38 #[.val (.int p1), .val (.int p2), .val (.int (own_n p1)), .val (.int (1 : Int32)), .val (.int (own_literal (own_n p1) (1 : Int32))), .val (.int (own_literal (own_n p1) (1 : Int32))), .val (.int (own_literal (own_n p1) (0 : Int32))), .unset, .unset, .unset, .unset, .unset] [])) (fun _ kst => XS.istore X8.here hx rfl (hb hby at_36) rfl (l' := #[.val (.int p1), .val (.int p2), .val (.int (own_n p1)), .val (.int (1 : Int32)), .val (.int (own_literal (own_n p1) (1 : Int32))), .val (.int (own_literal (own_n p1) (1 : Int32))), .val (.int (own_literal (own_n p1) (0 : Int32))), .unset, .unset, .unset, .unset, .unset]) rfl kst) ?_
    refine oS (u' := T8.setTop (mkF m 40 #[.val (.int p1), .val (.int p2), .val (.int (own_n p1)), .val (.int (1 : Int32)), .val (.int (own_literal (own_n p1) (1 : Int32))), .val (.int (own_literal (own_n p1) (1 : Int32))), .val (.int (own_literal (own_n p1) (0 : Int32))), .unset, .unset, .unset, .unset, .unset] [(.int (own_literal (own_n p1) (1 : Int32)))])) (fun _ kst => XS.iload X8.here hx rfl (hb hby at_38) rfl kst) ?_
    refine oS (u' := T8.setTop (mkF m 43 #[.val (.int p1), .val (.int p2), .val (.int (own_n p1)), .val (.int (1 : Int32)), .val (.int (own_literal (own_n p1) (1 : Int32))), .val (.int (own_literal (own_n p1) (1 : Int32))), .val (.int (own_literal (own_n p1) (0 : Int32))), .unset, .unset, .unset, .unset, .unset] [])) (fun _ kst => XS.ifNo X8.here hx rfl (hb hby at_40) rfl ((if0 _ _).trans (flt (own_lt0 p1 1)).1) kst) ?_
    refine oS (u' := T8.setTop (mkF m 44 #[.val (.int p1), .val (.int p2), .val (.int (own_n p1)), .val (.int (1 : Int32)), .val (.int (own_literal (own_n p1) (1 : Int32))), .val (.int (own_literal (own_n p1) (1 : Int32))), .val (.int (own_literal (own_n p1) (0 : Int32))), .unset, .unset, .unset, .unset, .unset] [(.int (1 : Int32))])) (fun _ kst => XS.iconst X8.here hx rfl (hb hby at_43) kst) ?_
    refine oS (u' := T8.setTop (mkF m 48 #[.val (.int p1), .val (.int p2), .val (.int (own_n p1)), .val (.int (1 : Int32)), .val (.int (own_literal (own_n p1) (1 : Int32))), .val (.int (own_literal (own_n p1) (1 : Int32))), .val (.int (own_literal (own_n p1) (0 : Int32))), .unset, .unset, .unset, .unset, .unset] [(.int (1 : Int32))])) (fun _ kst => XS.goto X8.here hx rfl (pc0 := 44) (pc' := 48) rfl (hb hby at_44) (by decide) (by decide) kst) ?_
    refine oS (u' := T8.setTop (mkF m 50 #[.val (.int p1), .val (.int p2), .val (.int (own_n p1)), .val (.int (1 : Int32)), .val (.int (own_literal (own_n p1) (1 : Int32))), .val (.int (own_literal (own_n p1) (1 : Int32))), .val (.int (own_literal (own_n p1) (0 : Int32))), .val (.int (1 : Int32)), .unset, .unset, .unset, .unset] [])) (fun _ kst => XS.istore X8.here hx rfl (hb hby at_48) rfl (l' := #[.val (.int p1), .val (.int p2), .val (.int (own_n p1)), .val (.int (1 : Int32)), .val (.int (own_literal (own_n p1) (1 : Int32))), .val (.int (own_literal (own_n p1) (1 : Int32))), .val (.int (own_literal (own_n p1) (0 : Int32))), .val (.int (1 : Int32)), .unset, .unset, .unset, .unset]) rfl kst) ?_
    refine oS (u' := T8.setTop (mkF m 52 #[.val (.int p1), .val (.int p2), .val (.int (own_n p1)), .val (.int (1 : Int32)), .val (.int (own_literal (own_n p1) (1 : Int32))), .val (.int (own_literal (own_n p1) (1 : Int32))), .val (.int (own_literal (own_n p1) (0 : Int32))), .val (.int (1 : Int32)), .unset, .unset, .unset, .unset] [(.int (own_literal (own_n p1) (1 : Int32)))])) (fun _ kst => XS.iload X8.here hx rfl (hb hby at_50) rfl kst) ?_
    refine oS (u' := T8.setTop (mkF m 53 #[.val (.int p1), .val (.int p2), .val (.int (own_n p1)), .val (.int (1 : Int32)), .val (.int (own_literal (own_n p1) (1 : Int32))), .val (.int (own_literal (own_n p1) (1 : Int32))), .val (.int (own_literal (own_n p1) (0 : Int32))), .val (.int (1 : Int32)), .unset, .unset, .unset, .unset] [(.int (1 : Int32)), (.int (own_literal (own_n p1) (1 : Int32)))])) (fun _ kst => XS.iconst X8.here hx rfl (hb hby at_52) kst) ?_
    refine oS (u' := T8.setTop (mkF m 54 #[.val (.int p1), .val (.int p2), .val (.int (own_n p1)), .val (.int (1 : Int32)), .val (.int (own_literal (own_n p1) (1 : Int32))), .val (.int (own_literal (own_n p1) (1 : Int32))), .val (.int (own_literal (own_n p1) (0 : Int32))), .val (.int (1 : Int32)), .unset, .unset, .unset, .unset] [(.int (Jvm.Free.XT.ushr (own_literal (own_n p1) (1 : Int32)) (1 : Int32)))])) (fun _ kst => XS.iushr X8.here hx rfl (hb hby at_53) rfl kst) ?_
    refine oS (u' := T8.setTop (mkF m 55 #[.val (.int p1), .val (.int p2), .val (.int (own_n p1)), .val (.int (1 : Int32)), .val (.int (own_literal (own_n p1) (1 : Int32))), .val (.int (own_literal (own_n p1) (1 : Int32))), .val (.int (own_literal (own_n p1) (0 : Int32))), .val (.int (1 : Int32)), .unset, .unset, .unset, .unset] [(.int (own_n p1)), (.int (Jvm.Free.XT.ushr (own_literal (own_n p1) (1 : Int32)) (1 : Int32)))])) (fun _ kst => XS.iloadN X8.here hx rfl (hb hby at_54) rfl kst) ?_
    refine oS (u' := T8.setTop (mkF m 58 #[.val (.int p1), .val (.int p2), .val (.int (own_n p1)), .val (.int (1 : Int32)), .val (.int (own_literal (own_n p1) (1 : Int32))), .val (.int (own_literal (own_n p1) (1 : Int32))), .val (.int (own_literal (own_n p1) (0 : Int32))), .val (.int (1 : Int32)), .unset, .unset, .unset, .unset] [])) (fun _ kst => XS.icmpNo X8.here hx rfl (hb hby at_55) rfl (teq (own_back1 p1)).2 kst) ?_
    refine oS (u' := T8.setTop (mkF m 59 #[.val (.int p1), .val (.int p2), .val (.int (own_n p1)), .val (.int (1 : Int32)), .val (.int (own_literal (own_n p1) (1 : Int32))), .val (.int (own_literal (own_n p1) (1 : Int32))), .val (.int (own_literal (own_n p1) (0 : Int32))), .val (.int (1 : Int32)), .unset, .unset, .unset, .unset] [(.int (1 : Int32))])) (fun _ kst => XS.iconst X8.here hx rfl (hb hby at_58) kst) ?_
    refine oS (u' := T8.setTop (mkF m 63 #[.val (.int p1), .val (.int p2), .val (.int (own_n p1)), .val (.int (1 : Int32)), .val (.int (own_literal (own_n p1) (1 : Int32))), .val (.int (own_literal (own_n p1) (1 : Int32))), .val (.int (own_literal (own_n p1) (0 : Int32))), .val (.int (1 : Int32)), .unset, .unset, .unset, .unset] [(.int (1 : Int32))])) (fun _ kst => XS.goto X8.here hx rfl (pc0 := 59) (pc' := 63) rfl (hb hby at_59) (by decide) (by decide) kst) ?_
    refine oS (u' := T8.setTop (mkF m 65 #[.val (.int p1), .val (.int p2), .val (.int (own_n p1)), .val (.int (1 : Int32)), .val (.int (own_literal (own_n p1) (1 : Int32))), .val (.int (own_literal (own_n p1) (1 : Int32))), .val (.int (own_literal (own_n p1) (0 : Int32))), .val (.int (1 : Int32)), .val (.int (1 : Int32)), .unset, .unset, .unset] [])) (fun _ kst => XS.istore X8.here hx rfl (hb hby at_63) rfl (l' := #[.val (.int p1), .val (.int p2), .val (.int (own_n p1)), .val (.int (1 : Int32)), .val (.int (own_literal (own_n p1) (1 : Int32))), .val (.int (own_literal (own_n p1) (1 : Int32))), .val (.int (own_literal (own_n p1) (0 : Int32))), .val (.int (1 : Int32)), .val (.int (1 : Int32)), .unset, .unset, .unset]) rfl kst) ?_
    refine oS (u' := T8.setTop (mkF m 67 #[.val (.int p1), .val (.int p2), .val (.int (own_n p1)), .val (.int (1 : Int32)), .val (.int (own_literal (own_n p1) (1 : Int32))), .val (.int (own_literal (own_n p1) (1 : Int32))), .val (.int (own_literal (own_n p1) (0 : Int32))), .val (.int (1 : Int32)), .val (.int (1 : Int32)), .unset, .unset, .unset] [(.int (own_literal (own_n p1) (1 : Int32)))])) (fun _ kst => XS.iload X8.here hx rfl (hb hby at_65) rfl kst) ?_
    refine oS (u' := T8.setTop (mkF m 68 #[.val (.int p1), .val (.int p2), .val (.int (own_n p1)), .val (.int (1 : Int32)), .val (.int (own_literal (own_n p1) (1 : Int32))), .val (.int (own_literal (own_n p1) (1 : Int32))), .val (.int (own_literal (own_n p1) (0 : Int32))), .val (.int (1 : Int32)), .val (.int (1 : Int32)), .unset, .unset, .unset] [(.int (1 : Int32)), (.int (own_literal (own_n p1) (1 : Int32)))])) (fun _ kst => XS.iconst X8.here hx rfl (hb hby at_67) kst) ?_
    refine oS (u' := T8.setTop (mkF m 69 #[.val (.int p1), .val (.int p2), .val (.int (own_n p1)), .val (.int (1 : Int32)), .val (.int (own_literal (own_n p1) (1 : Int32))), .val (.int (own_literal (own_n p1) (1 : Int32))), .val (.int (own_literal (own_n p1) (0 : Int32))), .val (.int (1 : Int32)), .val (.int (1 : Int32)), .unset, .unset, .unset] [(.int ((own_literal (own_n p1) (1 : Int32)) &&& (1 : Int32)))])) (fun _ kst => XS.iand X8.here hx rfl (hb hby at_68) rfl kst) ?_
    refine oS (u' := T8.setTop (mkF m 72 #[.val (.int p1), .val (.int p2), .val (.int (own_n p1)), .val (.int (1 : Int32)), .val (.int (own_literal (own_n p1) (1 : Int32))), .val (.int (own_literal (own_n p1) (1 : Int32))), .val (.int (own_literal (own_n p1) (0 : Int32))), .val (.int (1 : Int32)), .val (.int (1 : Int32)), .unset, .unset, .unset] [])) (fun _ kst => XS.ifNo X8.here hx rfl (hb hby at_69) rfl ((if0 _ _).trans (teq (own_even1 p1)).2) kst) ?_
    refine oS (u' := T8.setTop (mkF m 73 #[.val (.int p1), .val (.int p2), .val (.int (own_n p1)), .val (.int (1 : Int32)), .val (.int (own_literal (own_n p1) (1 : Int32))), .val (.int (own_literal (own_n p1) (1 : Int32))), .val (.int (own_literal (own_n p1) (0 : Int32))), .val (.int (1 : Int32)), .val (.int (1 : Int32)), .unset, .unset, .unset] [(.int (1 : Int32))])) (fun _ kst => XS.iconst X8.here hx rfl (hb hby at_72) kst) ?_
    refine oS (u' := T8.setTop (mkF m 77 #[.val (.int p1), .val (.int p2), .val (.int (own_n p1)), .val (.int (1 : Int32)), .val (.int (own_literal (own_n p1) (1 : Int32))), .val (.int (own_literal (own_n p1) (1 : Int32))), .val (.int (own_literal (own_n p1) (0 : Int32))), .val (.int (1 : Int32)), .val (.int (1 : Int32)), .unset, .unset, .unset] [(.int (1 : Int32))])) (fun _ kst => XS.goto X8.here hx rfl (pc0 := 73) (pc' := 77) rfl (hb hby at_73) (by decide) (by decide) kst) ?_
    refine oS (u' := T8.setTop (mkF m 78 #[.val (.int p1), .val (.int p2), .val (.int (own_n p1)), .val (.int (1 : Int32)), .val (.int (own_literal (own_n p1) (1 : Int32))), .val (.int (own_literal (own_n p1) (1 : Int32))), .val (.int (own_literal (own_n p1) (0 : Int32))), .val (.int (1 : Int32)), .val (.int (1 : Int32)), .unset, .unset, .unset] [(.int (1 : Int32)), (.int (1 : Int32))])) (fun _ kst => XS.iloadN X8.here hx rfl (hb hby at_77) rfl kst) ?_
    refine oS (u' := T8.setTop (mkF m 81 #[.val (.int p1), .val (.int p2), .val (.int (own_n p1)), .val (.int (1 : Int32)), .val (.int (own_literal (own_n p1) (1 : Int32))), .val (.int (own_literal (own_n p1) (1 : Int32))), .val (.int (own_literal (own_n p1) (0 : Int32))), .val (.int (1 : Int32)), .val (.int (1 : Int32)), .unset, .unset, .unset] [])) (fun _ kst => XS.icmpNo X8.here hx rfl (hb hby at_78) rfl (teq (by decide : (1 : Int32) = (1 : Int32))).2 kst) ?_
    refine oS (u' := T8.setTop (mkF m 82 #[.val (.int p1), .val (.int p2), .val (.int (own_n p1)), .val (.int (1 : Int32)), .val (.int (own_literal (own_n p1) (1 : Int32))), .val (.int (own_literal (own_n p1) (1 : Int32))), .val (.int (own_literal (own_n p1) (0 : Int32))), .val (.int (1 : Int32)), .val (.int (1 : Int32)), .unset, .unset, .unset] [(.int (1 : Int32))])) (fun _ kst => XS.iconst X8.here hx rfl (hb hby at_81) kst) ?_
    refine oS (u' := T8.setTop (mkF m 86 #[.val (.int p1), .val (.int p2), .val (.int (own_n p1)), .val (.int (1 : Int32)), .val (.int (own_literal (own_n p1) (1 : Int32))), .val (.int (own_literal (own_n p1) (1 : Int32))), .val (.int (own_literal (own_n p1) (0 : Int32))), .val (.int (1 : Int32)), .val (.int (1 : Int32)), .unset, .unset, .unset] [(.int (1 : Int32))])) (fun _ kst => XS.goto X8.here hx rfl (pc0 := 82) (pc' := 86) rfl (hb hby at_82) (by decide) (by decide) kst) ?_
    refine oS (u' := T8.setTop (mkF m 88 #[.val (.int p1), .val (.int p2), .val (.int (own_n p1)), .val (.int (1 : Int32)), .val (.int (own_literal (own_n p1) (1 : Int32))), .val (.int (own_literal (own_n p1) (1 : Int32))), .val (.int (own_literal (own_n p1) (0 : Int32))), .val (.int (1 : Int32)), .val (.int (1 : Int32)), .val (.int (1 : Int32)), .unset, .unset] [])) (fun _ kst => XS.istore X8.here hx rfl (hb hby at_86) rfl (l' := #[.val (.int p1), .val (.int p2), .val (.int (own_n p1)), .val (.int (1 : Int32)), .val (.int (own_literal (own_n p1) (1 : Int32))), .val (.int (own_literal (own_n p1) (1 : Int32))), .val (.int (own_literal (own_n p1) (0 : Int32))), .val (.int (1 : Int32)), .val (.int (1 : Int32)), .val (.int (1 : Int32)), .unset, .unset]) rfl kst) ?_
    refine oS (u' := T8.setTop (mkF m 90 #[.val (.int p1), .val (.int p2), .val (.int (own_n p1)), .val (.int (1 : Int32)), .val (.int (own_literal (own_n p1) (1 : Int32))), .val (.int (own_literal (own_n p1) (1 : Int32))), .val (.int (own_literal (own_n p1) (0 : Int32))), .val (.int (1 : Int32)), .val (.int (1 : Int32)), .val (.int (1 : Int32)), .unset, .unset] [(.int (own_literal (own_n p1) (1 : Int32)))])) (fun _ kst => XS.iload X8.here hx rfl (hb hby at_88) rfl kst) ?_
    refine oS (u' := T8.setTop (mkF m 91 #[.val (.int p1), .val (.int p2), .val (.int (own_n p1)), .val (.int (1 : Int32)), .val (.int (own_literal (own_n p1) (1 : Int32))), .val (.int (own_literal (own_n p1) (1 : Int32))), .val (.int (own_literal (own_n p1) (0 : Int32))), .val (.int (1 : Int32)), .val (.int (1 : Int32)), .val (.int (1 : Int32)), .unset, .unset] [(.int (2 : Int32)), (.int (own_literal (own_n p1) (1 : Int32)))])) (fun _ kst => XS.iconst X8.here hx rfl (hb hby at_90) kst) ?_
    refine oS (u' := T8.setTop (mkF m 92 #[.val (.int p1), .val (.int p2), .val (.int (own_n p1)), .val (.int (1 : Int32)), .val (.int (own_literal (own_n p1) (1 : Int32))), .val (.int (own_literal (own_n p1) (1 : Int32))), .val (.int (own_literal (own_n p1) (0 : Int32))), .val (.int (1 : Int32)), .val (.int (1 : Int32)), .val (.int (1 : Int32)), .unset, .unset] [(.int (own_n p1)), (.int (2 : Int32)), (.int (own_literal (own_n p1) (1 : Int32)))])) (fun _ kst => XS.iloadN X8.here hx rfl (hb hby at_91) rfl kst) ?_
    refine oS (u' := T8.setTop (mkF m 93 #[.val (.int p1), .val (.int p2), .val (.int (own_n p1)), .val (.int (1 : Int32)), .val (.int (own_literal (own_n p1) (1 : Int32))), .val (.int (own_literal (own_n p1) (1 : Int32))), .val (.int (own_literal (own_n p1) (0 : Int32))), .val (.int (1 : Int32)), .val (.int (1 : Int32)), .val (.int (1 : Int32)), .unset, .unset] [(.int ((2 : Int32) * (own_n p1))), (.int (own_literal (own_n p1) (1 : Int32)))])) (fun _ kst => XS.imul X8.here hx rfl (hb hby at_92) rfl kst) ?_
    refine oS (u' := T8.setTop (mkF m 96 #[.val (.int p1), .val (.int p2), .val (.int (own_n p1)), .val (.int (1 : Int32)), .val (.int (own_literal (own_n p1) (1 : Int32))), .val (.int (own_literal (own_n p1) (1 : Int32))), .val (.int (own_literal (own_n p1) (0 : Int32))), .val (.int (1 : Int32)), .val (.int (1 : Int32)), .val (.int (1 : Int32)), .unset, .unset] [])) (fun _ kst => XS.icmpNo X8.here hx rfl (hb hby at_93) rfl (teq (own_pos p1)).2 kst) ?_
    refine oS (u' := T8.setTop (mkF m 97 #[.val (.int p1), .val (.int p2), .val (.int (own_n p1)), .val (.int (1 : Int32)), .val (.int (own_literal (own_n p1) (1 : Int32))), .val (.int (own_literal (own_n p1) (1 : Int32))), .val (.int (own_literal (own_n p1) (0 : Int32))), .val (.int (1 : Int32)), .val (.int (1 : Int32)), .val (.int (1 : Int32)), .unset, .unset] [(.int (1 : Int32))])) (fun _ kst => XS.iconst X8.here hx rfl (hb hby at_96) kst) ?_
    refine oS (u' := T8.setTop (mkF m 101 #[.val (.int p1), .val (.int p2), .val (.int (own_n p1)), .val (.int (1 : Int32)), .val (.int (own_literal (own_n p1) (1 : Int32))), .val (.int (own_literal (own_n p1) (1 : Int32))), .val (.int (own_literal (own_n p1) (0 : Int32))), .val (.int (1 : Int32)), .val (.int (1 : Int32)), .val (.int (1 : Int32)), .unset, .unset] [(.int (1 : Int32))])) (fun _ kst => XS.goto X8.here hx rfl (pc0 := 97) (pc' := 101) rfl (hb hby at_97) (by decide) (by decide) kst) ?_
    refine oS (u' := T8.setTop (mkF m 103 #[.val (.int p1), .val (.int p2), .val (.int (own_n p1)), .val (.int (1 : Int32)), .val (.int (own_literal (own_n p1) (1 : Int32))), .val (.int (own_literal (own_n p1) (1 : Int32))), .val (.int (own_literal (own_n p1) (0 : Int32))), .val (.int (1 : Int32)), .val (.int (1 : Int32)), .val (.int (1 : Int32)), .val (.int (1 : Int32)), .unset] [])) (fun _ kst => XS.istore X8.here hx rfl (hb hby at_101) rfl (l' := #[.val (.int p1), .val (.int p2), .val (.int (own_n p1)), .val (.int (1 : Int32)), .val (.int (own_literal (own_n p1) (1 : Int32))), .val (.int (own_literal (own_n p1) (1 : Int32))), .val (.int (own_literal (own_n p1) (0 : Int32))), .val (.int (1 : Int32)), .val (.int (1 : Int32)), .val (.int (1 : Int32)), .val (.int (1 : Int32)), .unset]) rfl kst) ?_
    refine oS (u' := T8.setTop (mkF m 105 #[.val (.int p1), .val (.int p2), .val (.int (own_n p1)), .val (.int (1 : Int32)), .val (.int (own_literal (own_n p1) (1 : Int32))), .val (.int (own_literal (own_n p1) (1 : Int32))), .val (.int (own_literal (own_n p1) (0 : Int32))), .val (.int (1 : Int32)), .val (.int (1 : Int32)), .val (.int (1 : Int32)), .val (.int (1 : Int32)), .unset] [(.int (own_literal (own_n p1) (0 : Int32)))])) (fun _ kst => XS.iload X8.here hx rfl (hb hby at_103) rfl kst) ?_
    refine oS (u' := T8.setTop (mkF m 107 #[.val (.int p1), .val (.int p2), .val (.int (own_n p1)), .val (.int (1 : Int32)), .val (.int (own_literal (own_n p1) (1 : Int32))), .val (.int (own_literal (own_n p1) (1 : Int32))), .val (.int (own_literal (own_n p1) (0 : Int32))), .val (.int (1 : Int32)), .val (.int (1 : Int32)), .val (.int (1 : Int32)), .val (.int (1 : Int32)), .unset] [(.int (own_literal (own_n p1) (1 : Int32))), (.int (own_literal (own_n p1) (0 : Int32)))])) (fun _ kst => XS.iload X8.here hx rfl (hb hby at_105) rfl kst) ?_
    refine oS (u' := T8.setTop (mkF m 108 #[.val (.int p1), .val (.int p2), .val (.int (own_n p1)), .val (.int (1 : Int32)), .val (.int (own_literal (own_n p1) (1 : Int32))), .val (.int (own_literal (own_n p1) (1 : Int32))), .val (.int (own_literal (own_n p1) (0 : Int32))), .val (.int (1 : Int32)), .val (.int (1 : Int32)), .val (.int (1 : Int32)), .val (.int (1 : Int32)), .unset] [(.int (1 : Int32)), (.int (own_literal (own_n p1) (1 : Int32))), (.int (own_literal (own_n p1) (0 : Int32)))])) (fun _ kst => XS.iconst X8.here hx rfl (hb hby at_107) kst) ?_
    refine oS (u' := T8.setTop (mkF m 109 #[.val (.int p1), .val (.int p2), .val (.int (own_n p1)), .val (.int (1 : Int32)), .val (.int (own_literal (own_n p1) (1 : Int32))), .val (.int (own_literal (own_n p1) (1 : Int32))), .val (.int (own_literal (own_n p1) (0 : Int32))), .val (.int (1 : Int32)), .val (.int (1 : Int32)), .val (.int (1 : Int32)), .val (.int (1 : Int32)), .unset] [(.int ((own_literal (own_n p1) (1 : Int32)) ^^^ (1 : Int32))), (.int (own_literal (own_n p1) (0 : Int32)))])) (fun _ kst => XS.ixor X8.here hx rfl (hb hby at_108) rfl kst) ?_
    refine oS (u' := T8.setTop (mkF m 112 #[.val (.int p1), .val (.int p2), .val (.int (own_n p1)), .val (.int (1 : Int32)), .val (.int (own_literal (own_n p1) (1 : Int32))), .val (.int (own_literal (own_n p1) (1 : Int32))), .val (.int (own_literal (own_n p1) (0 : Int32))), .val (.int (1 : Int32)), .val (.int (1 : Int32)), .val (.int (1 : Int32)), .val (.int (1 : Int32)), .unset] [])) (fun _ kst => XS.icmpNo X8.here hx rfl (hb hby at_109) rfl (teq (own_neg p1)).2 kst) ?_
    refine oS (u' := T8.setTop (mkF m 113 #[.val (.int p1), .val (.int p2), .val (.int (own_n p1)), .val (.int (1 : Int32)), .val (.int (own_literal (own_n p1) (1 : Int32))), .val (.int (own_literal (own_n p1) (1 : Int32))), .val (.int (own_literal (own_n p1) (0 : Int32))), .val (.int (1 : Int32)), .val (.int (1 : Int32)), .val (.int (1 : Int32)), .val (.int (1 : Int32)), .unset] [(.int (1 : Int32))])) (fun _ kst => XS.iconst X8.here hx rfl (hb hby at_112) kst) ?_
    refine oS (u' := T8.setTop (mkF m 117 #[.val (.int p1), .val (.int p2), .val (.int (own_n p1)), .val (.int (1 : Int32)), .val (.int (own_literal (own_n p1) (1 : Int32))), .val (.int (own_literal (own_n p1) (1 : Int32))), .val (.int (own_literal (own_n p1) (0 : Int32))), .val (.int (1 : Int32)), .val (.int (1 : Int32)), .val (.int (1 : Int32)), .val (.int (1 : Int32)), .unset] [(.int (1 : Int32))])) (fun _ kst => XS.goto X8.here hx rfl (pc0 := 113) (pc' := 117) rfl (hb hby at_113) (by decide) (by decide) kst) ?_
    refine oS (u' := T8.setTop (mkF m 119 #[.val (.int p1), .val (.int p2), .val (.int (own_n p1)), .val (.int (1 : Int32)), .val (.int (own_literal (own_n p1) (1 : Int32))), .val (.int (own_literal (own_n p1) (1 : Int32))), .val (.int (own_literal (own_n p1) (0 : Int32))), .val (.int (1 : Int32)), .val (.int (1 : Int32)), .val (.int (1 : Int32)), .val (.int (1 : Int32)), .val (.int (1 : Int32))] [])) (fun _ kst => XS.istore X8.here hx rfl (hb hby at_117) rfl (l' := #[.val (.int p1), .val (.int p2), .val (.int (own_n p1)), .val (.int (1 : Int32)), .val (.int (own_literal (own_n p1) (1 : Int32))), .val (.int (own_literal (own_n p1) (1 : Int32))), .val (.int (own_literal (own_n p1) (0 : Int32))), .val (.int (1 : Int32)), .val (.int (1 : Int32)), .val (.int (1 : Int32)), .val (.int (1 : Int32)), .val (.int (1 : Int32))]) rfl kst) ?_
    refine oS (u' := T8.setTop (mkF m 121 #[.val (.int p1), .val (.int p2), .val (.int (own_n p1)), .val (.int (1 : Int32)), .val (.int (own_literal (own_n p1) (1 : Int32))), .val (.int (own_literal (own_n p1) (1 : Int32))), .val (.int (own_literal (own_n p1) (0 : Int32))), .val (.int (1 : Int32)), .val (.int (1 : Int32)), .val (.int (1 : Int32)), .val (.int (1 : Int32)), .val (.int (1 : Int32))] [(.int (1 : Int32))])) (fun _ kst => XS.iload X8.here hx rfl (hb hby at_119) rfl kst) ?_
    refine oS (u' := T8.setTop (mkF m 124 #[.val (.int p1), .val (.int p2), .val (.int (own_n p1)), .val (.int (1 : Int32)), .val (.int (own_literal (own_n p1) (1 : Int32))), .val (.int (own_literal (own_n p1) (1 : Int32))), .val (.int (own_literal (own_n p1) (0 : Int32))), .val (.int (1 : Int32)), .val (.int (1 : Int32)), .val (.int (1 : Int32)), .val (.int (1 : Int32)), .val (.int (1 : Int32))] [])) (fun _ kst => XS.ifNo X8.here hx rfl (hb hby at_121) rfl ((if0 _ _).trans (feq (by decide : ¬ ((1 : Int32) = (0 : Int32)))).1) kst) ?_
    refine oS (u' := T8.setTop (mkF m 126 #[.val (.int p1), .val (.int p2), .val (.int (own_n p1)), .val (.int (1 : Int32)), .val (.int (own_literal (own_n p1) (1 : Int32))), .val (.int (own_literal (own_n p1) (1 : Int32))), .val (.int (own_literal (own_n p1) (0 : Int32))), .val (.int (1 : Int32)), .val (.int (1 : Int32)), .val (.int (1 : Int32)), .val (.int (1 : Int32)), .val (.int (1 : Int32))] [(.int (1 : Int32))])) (fun _ kst => XS.iload X8.here hx rfl (hb hby at_124) rfl kst) ?_
    refine oS (u' := T8.setTop (mkF m 129 #[.val (.int p1), .val (.int p2), .val (.int (own_n p1)), .val (.int (1 : Int32)), .val (.int (own_literal (own_n p1) (1 : Int32))), .val (.int (own_literal (own_n p1) (1 : Int32))), .val (.int (own_literal (own_n p1) (0 : Int32))), .val (.int (1 : Int32)), .val (.int (1 : Int32)), .val (.int (1 : Int32)), .val (.int (1 : Int32)), .val (.int (1 : Int32))] [])) (fun _ kst => XS.ifNo X8.here hx rfl (hb hby at_126) rfl ((if0 _ _).trans (feq (by decide : ¬ ((1 : Int32) = (0 : Int32)))).1) kst) ?_
    refine oS (u' := T8.setTop (mkF m 131 #[.val (.int p1), .val (.int p2), .val (.int (own_n p1)), .val (.int (1 : Int32)), .val (.int (own_literal (own_n p1) (1 : Int32))), .val (.int (own_literal (own_n p1) (1 : Int32))), .val (.int (own_literal (own_n p1) (0 : Int32))), .val (.int (1 : Int32)), .val (.int (1 : Int32)), .val (.int (1 : Int32)), .val (.int (1 : Int32)), .val (.int (1 : Int32))] [(.int (1 : Int32))])) (fun _ kst => XS.iload X8.here hx rfl (hb hby at_129) rfl kst) ?_
    refine oS (u' := T8.setTop (mkF m 134 #[.val (.int p1), .val (.int p2), .val (.int (own_n p1)), .val (.int (1 : Int32)), .val (.int (own_literal (own_n p1) (1 : Int32))), .val (.int (own_literal (own_n p1) (1 : Int32))), .val (.int (own_literal (own_n p1) (0 : Int32))), .val (.int (1 : Int32)), .val (.int (1 : Int32)), .val (.int (1 : Int32)), .val (.int (1 : Int32)), .val (.int (1 : Int32))] [])) (fun _ kst => XS.ifNo X8.here hx rfl (hb hby at_131) rfl ((if0 _ _).trans (feq (by decide : ¬ ((1 : Int32) = (0 : Int32)))).1) kst) ?_
    refine oS (u' := T8.setTop (mkF m 136 #[.val (.int p1), .val (.int p2), .val (.int (own_n p1)), .val (.int (1 : Int32)), .val (.int (own_literal (own_n p1) (1 : Int32))), .val (.int (own_literal (own_n p1) (1 : Int32))), .val (.int (own_literal (own_n p1) (0 : Int32))), .val (.int (1 : Int32)), .val (.int (1 : Int32)), .val (.int (1 : Int32)), .val (.int (1 : Int32)), .val (.int (1 : Int32))] [(.int (1 : Int32))])) (fun _ kst => XS.iload X8.here hx rfl (hb hby at_134) rfl kst) ?_
    refine oS (u' := T8.setTop (mkF m 139 #[.val (.int p1), .val (.int p2), .val (.int (own_n p1)), .val (.int (1 : Int32)), .val (.int (own_literal (own_n p1) (1 : Int32))), .val (.int (own_literal (own_n p1) (1 : Int32))), .val (.int (own_literal (own_n p1) (0 : Int32))), .val (.int (1 : Int32)), .val (.int (1 : Int32)), .val (.int (1 : Int32)), .val (.int (1 : Int32)), .val (.int (1 : Int32))] [])) (fun _ kst => XS.ifNo X8.here hx rfl (hb hby at_136) rfl ((if0 _ _).trans (feq (by decide : ¬ ((1 : Int32) = (0 : Int32)))).1) kst) ?_
    refine oS (u' := T8.setTop (mkF m 141 #[.val (.int p1), .val (.int p2), .val (.int (own_n p1)), .val (.int (1 : Int32)), .val (.int (own_literal (own_n p1) (1 : Int32))), .val (.int (own_literal (own_n p1) (1 : Int32))), .val (.int (own_literal (own_n p1) (0 : Int32))), .val (.int (1 : Int32)), .val (.int (1 : Int32)), .val (.int (1 : Int32)), .val (.int (1 : Int32)), .val (.int (1 : Int32))] [(.int (1 : Int32))])) (fun _ kst => XS.iload X8.here hx rfl (hb hby at_139) rfl kst) ?_
    refine oS (u' := T8.setTop (mkF m 144 #[.val (.int p1), .val (.int p2), .val (.int (own_n p1)), .val (.int (1 : Int32)), .val (.int (own_literal (own_n p1) (1 : Int32))), .val (.int (own_literal (own_n p1) (1 : Int32))), .val (.int (own_literal (own_n p1) (0 : Int32))), .val (.int (1 : Int32)), .val (.int (1 : Int32)), .val (.int (1 : Int32)), .val (.int (1 : Int32)), .val (.int (1 : Int32))] [])) (fun _ kst => XS.ifNo X8.here hx rfl (hb hby at_141) rfl ((if0 _ _).trans (feq (by decide : ¬ ((1 : Int32) = (0 : Int32)))).1) kst) ?_
    refine oS (u' := T8.setTop (mkF m 145 #[.val (.int p1), .val (.int p2), .val (.int (own_n p1)), .val (.int (1 : Int32)), .val (.int (own_literal (own_n p1) (1 : Int32))), .val (.int (own_literal (own_n p1) (1 : Int32))), .val (.int (own_literal (own_n p1) (0 : Int32))), .val (.int (1 : Int32)), .val (.int (1 : Int32)), .val (.int (1 : Int32)), .val (.int (1 : Int32)), .val (.int (1 : Int32))] [(.int (1 : Int32))])) (fun _ kst => XS.iconst X8.here hx rfl (hb hby at_144) kst) ?_
    refine oS (u' := T8.setTop (mkF m 149 #[.val (.int p1), .val (.int p2), .val (.int (own_n p1)), .val (.int (1 : Int32)), .val (.int (own_literal (own_n p1) (1 : Int32))), .val (.int (own_literal (own_n p1) (1 : Int32))), .val (.int (own_literal (own_n p1) (0 : Int32))), .val (.int (1 : Int32)), .val (.int (1 : Int32)), .val (.int (1 : Int32)), .val (.int (1 : Int32)), .val (.int (1 : Int32))] [(.int (1 : Int32))])) (fun _ kst => XS.goto X8.here hx rfl (pc0 := 145) (pc' := 149) rfl (hb hby at_145) (by decide) (by decide) kst) ?_
    refine own_retN X8 hx hlk (t := .boolean) hret (by simp) (hb hby at_149) ?_ (by decide) (by decide)
    exact ⟨rfl, N0⟩
set_option maxRecDepth 65536 in
set_option maxHeartbeats 40000000 in
theorem comes_1 {Post : Tables → Env → Array Value → State → Outcome → State → Prop} (hpost : ∀ tb e args s v u, (limb_1_1.after args s (.returned v) u = true ∧ limb_1_2.after args s (.returned v) u = true ∧ True) → FrameEnd s (.returned v) u (Jvm.fieldLocs frame_1_writes args s ++ Jvm.arrayLocs frame_1_arrays args s ++ Jvm.staticLocs frame_1_statics s) 0 0 → Post tb e args s (.returned v) u) :
    ArmFor flags0 classFile x code maxLocals ret World_1 tables_1 room_1 Calls_1 rest_1 Pre_1 Post := by
  intro l hfl _ _ p e ha hc hk s m args below hf hA hF happ hP
  obtain ⟨hcalls, hrest, hpre⟩ := hP
  obtain ⟨-, -, -, hnamed, -, -, -, hat⟩ := (Spec.applies_iff hf).mp happ
  obtain ⟨hg, hn⟩ := and_e (Cond.before_iff.mp (show (Jvm.Cond.and given_1 narrow_1).before args s = true from hpre))
  obtain ⟨g0, gg0⟩ := and_e hg
  obtain ⟨g1, gg1⟩ := and_e gg0
  obtain ⟨w0, w1, rfl⟩ : ∃ w0 w1 : Value, args = #[w0, w1] := by
    have hs : args.size = 2 := by simpa [Cond.value, given_1] using g0
    obtain ⟨L⟩ := args
    match L, hs with
    | [w0, w1], _ => exact ⟨w0, w1, rfl⟩
  have hw := fun d (hd : d ∈ tables_1) => atoms_spec (ws := Jvm.Cond.code x code maxLocals ret :: tables_1) hat d (List.mem_cons_of_mem _ hd)
  have hfit : Fit s := fun {y c} hc i hi => by
    obtain ⟨ha, rfl⟩ := Array.getElem?_eq_some_iff.mp hc
    have q := List.all_eq_true.mp ((Array.all_eq_true_iff_forall_mem.mp hF) _ (Array.getElem_mem ha)) i (List.mem_range.mpr hi)
    simpa [Array.getElem?_eq_getElem hi] using q
  obtain ⟨i0, ei0⟩ := is_v g1
  obtain rfl : w0 = (.int i0) := Option.some.inj ei0
  obtain ⟨i1, ei1⟩ := is_v gg1
  obtain rfl : w1 = (.int i1) := Option.some.inj ei1
  obtain ⟨n, o, h1, h2, h3, _, L, rfl, ⟨rfl, N⟩, hq⟩ := own_law l s _ hw i0 i1 s.heap s.heap.size (Nat.le_refl _) p e ha hc hk s m _ below hf ((Spec.applies_iff_loose hf).mp happ).1 ⟨rfl, State.Warmed39.refl s, rfl⟩ trivial
  refine ⟨n, _, h1, h2, h3, hpost _ _ _ _ _ _ ⟨Cond.after_iff.mpr rfl, Cond.after_iff.mpr (eq_i res_at (Term.int_eval (1)) rfl), trivial⟩ ⟨hq.1, hq.2.1, (hq.2.2.sift fun y hy => Or.inr (N y hy)).mono (by decide) (by decide)⟩⟩
theorem main_1_1 : Claimed_1_1 := comes_1 fun _ _ _ _ _ _ h hF => ⟨h.1, hF⟩
theorem main_1_2 : Claimed_1_2 := comes_1 fun _ _ _ _ _ _ h hF => ⟨h.2.1, hF⟩
end Jvm.Pilot.@@N@@
namespace Jvm.Pilot.@@N@@
open Jvm Jvm.ClassFile Sem Op Lib Jvm.Free Jvm.Stand Jvm.Pilot.@@N@@.Jvm.D
/-! MADE BY PROGRAM (witnessworld.py) out of the Statement's table words and the real class files: 9 classes; the members and pool entries that the words name. The judged class is class 1, her method 1. -/
namespace start1
open Jvm.ClassFile
def u (s : String) : CpInfo := .utf8 (stringToUtf16 s)
/-- a pool by its gaps: so many unusable entries, then the entry; so many at the end -/
def gap : Nat → List CpInfo → List CpInfo
  | 0, r => r
  | n + 1, r => .unusable :: gap n r
def poolList (es : List (Nat × CpInfo)) (last : Nat) : List CpInfo := es.foldr (fun e r => gap e.1 (e.2 :: r)) (gap last [])
def pool (es : List (Nat × CpInfo)) (last : Nat) : Array CpInfo := ⟨poolList es last⟩
def fileOf (pool : Array CpInfo) (this : Nat) (attrs : Array Attribute := #[]) (ms : Array MethodInfo := #[]) (fl : Nat := 33) (sup : Nat := 0) (ifs : Array Nat := #[]) (fds : Array FieldInfo := #[]) : ClassFile where
  minorVersion := 0
  majorVersion := 65
  constantPool := pool
  accessFlags := fl
  thisClass := this
  superClass := sup
  interfaces := ifs
  fields := fds
  methods := ms
  attributes := attrs
def plain (name : String) (sup : Option ClassId) : Class where
  name := name
  kind := .ordinary
  loader := none
  accessFlags := 33
  super := sup
  interfaces := #[]
  cf := none
  fields := #[]
  methods := #[]
  instanceTypes := #[]
  staticTypes := #[]
  resolved := #[]
  callSites := []
  init := .initialized
  statics := none
  mirror := none

def pool0 : Array CpInfo := pool [(5, u "<init>"), (0, u "()V"), (1, .class_ 10), (1, u "java/lang/Object")] 113

def k0m0 : Method := { name := "<init>", desc := "()V", sig := { parameters := [], returnType := none }, accessFlags := 1, code := none }
/-- java/lang/Object -/
def k0 : Class := { plain "java/lang/Object" none with
  accessFlags := 33
  interfaces := #[]
  cf := some (fileOf pool0 8 #[] #[{ accessFlags := 1, nameIndex := 5, descriptorIndex := 6, attributes := #[] }] 33 0 #[] #[])
  fields := #[]
  methods := #[k0m0]
  instanceTypes := #[]
  staticTypes := #[]
  resolved := Array.replicate 124 none
  statics := none }

def pool1 : Array CpInfo := pool [(2, .class_ 4), (1, u "java/lang/Object"), (0, u "<init>"), (0, u "()V"), (0, .integer 1073741823), (0, .methodref 9 10), (0, .class_ 11), (0, .nameAndType 12 13), (0, u "com/example/predicant/predicant/propositional/Solver"), (0, u "literal"), (0, u "(IZ)I"), (0, .class_ 15), (0, u "com/example/predicant/predicant/propositional/SolverLiteralPinLaw"), (2, u "law"), (0, u "(II)Z")] 3

def k1m0 : Method := { name := "<init>", desc := "()V", sig := { parameters := [], returnType := none }, accessFlags := 1, code := none }
def k1c1 : Code := { maxStack := 3, maxLocals := 12, code := code, exceptionTable := #[], attributes := #[] }
def k1m1 : Method := { name := "law", desc := "(II)Z", sig := { parameters := [.int, .int], returnType := some .boolean }, accessFlags := 9, code := some k1c1 }
/-- com/example/predicant/predicant/propositional/SolverLiteralPinLaw -/
def k1 : Class := { plain "com/example/predicant/predicant/propositional/SolverLiteralPinLaw" (some 0) with
  accessFlags := 49
  interfaces := #[]
  cf := some (fileOf pool1 14 #[] #[{ accessFlags := 1, nameIndex := 5, descriptorIndex := 6, attributes := #[] }, { accessFlags := 9, nameIndex := 18, descriptorIndex := 19, attributes := #[] }] 49 2 #[] #[])
  fields := #[]
  methods := #[k1m0, k1m1]
  instanceTypes := #[]
  staticTypes := #[]
  resolved := Array.replicate 23 none
  statics := none }

def pool2 : Array CpInfo := pool [(2, .class_ 4), (1, u "java/lang/Object"), (0, u "<init>"), (0, u "()V"), (1, .class_ 10), (1, u "com/example/predicant/predicant/propositional/Solver"), (0, u "m_aValue"), (0, u "[B"), (2, u "m_aLevel"), (0, u "[I"), (0, .class_ 18), (0, u "com/example/predicant/predicant/propositional/Solver$Clause"), (2, u "m_aReason"), (0, u "[Lcom/example/predicant/predicant/propositional/Solver$Clause;"), (2, u "m_aPhase"), (0, u "[Z"), (2, u "m_aActivity"), (0, u "[D"), (2, u "m_dIncrement"), (0, u "D"), (2, u "m_aSeen"), (3, u "m_aWatchers"), (0, u "[[Lcom/example/predicant/predicant/propositional/Solver$Clause;"), (2, u "m_aWatcherCounts"), (2, u "m_aTrail"), (2, u "m_aLevelStarts"), (0, .class_ 53), (0, u "com/example/predicant/predicant/propositional/Solver$Order"), (5, u "m_aOrder"), (0, u "Lcom/example/predicant/predicant/propositional/Solver$Order;"), (5, u "m_aLearned"), (0, u "Ljava/util/List;"), (2, u "m_nLearnedLimit"), (0, u "I"), (2, u "m_nVariables"), (41, u "m_bContradicted"), (0, u "Z"), (17, u "m_nLevels"), (27, u "m_nTrail"), (8, u "m_nPropagated"), (46, u "literal"), (0, u "(IZ)I"), (31, u "RESTART_UNIT"), (2, u "FIRST_REDUCTION"), (1, u "REDUCTION_GROWTH"), (1, u "KEPT_LEVELS"), (1, u "ACTIVITY_DECAY"), (0, u "ACTIVITY_LIMIT")] 42

def k2m0 : Method := { name := "<init>", desc := "()V", sig := { parameters := [], returnType := none }, accessFlags := 0, code := none }
def k2c1 : Code := { maxStack := 2, maxLocals := 2, code := prog_58_method_2_code, exceptionTable := #[], attributes := #[] }
def k2m1 : Method := { name := "literal", desc := "(IZ)I", sig := { parameters := [.int, .boolean], returnType := some .int }, accessFlags := 8, code := some k2c1 }
/-- com/example/predicant/predicant/propositional/Solver -/
def k2 : Class := { plain "com/example/predicant/predicant/propositional/Solver" (some 0) with
  accessFlags := 48
  interfaces := #[]
  cf := some (fileOf pool2 8 #[.nestMembers #[52, 17]] #[{ accessFlags := 0, nameIndex := 5, descriptorIndex := 6, attributes := #[] }, { accessFlags := 8, nameIndex := 219, descriptorIndex := 220, attributes := #[] }] 48 2 #[] #[{ accessFlags := 26, nameIndex := 252, descriptorIndex := 71, attributes := #[] }, { accessFlags := 26, nameIndex := 255, descriptorIndex := 71, attributes := #[] }, { accessFlags := 26, nameIndex := 257, descriptorIndex := 71, attributes := #[] }, { accessFlags := 26, nameIndex := 259, descriptorIndex := 71, attributes := #[] }, { accessFlags := 26, nameIndex := 261, descriptorIndex := 34, attributes := #[] }, { accessFlags := 26, nameIndex := 262, descriptorIndex := 34, attributes := #[] }, { accessFlags := 2, nameIndex := 74, descriptorIndex := 71, attributes := #[] }, { accessFlags := 2, nameIndex := 11, descriptorIndex := 12, attributes := #[] }, { accessFlags := 2, nameIndex := 15, descriptorIndex := 16, attributes := #[] }, { accessFlags := 2, nameIndex := 21, descriptorIndex := 22, attributes := #[] }, { accessFlags := 2, nameIndex := 25, descriptorIndex := 26, attributes := #[] }, { accessFlags := 2, nameIndex := 29, descriptorIndex := 30, attributes := #[] }, { accessFlags := 2, nameIndex := 33, descriptorIndex := 34, attributes := #[] }, { accessFlags := 2, nameIndex := 37, descriptorIndex := 26, attributes := #[] }, { accessFlags := 2, nameIndex := 41, descriptorIndex := 42, attributes := #[] }, { accessFlags := 2, nameIndex := 45, descriptorIndex := 16, attributes := #[] }, { accessFlags := 2, nameIndex := 48, descriptorIndex := 16, attributes := #[] }, { accessFlags := 2, nameIndex := 163, descriptorIndex := 71, attributes := #[] }, { accessFlags := 2, nameIndex := 172, descriptorIndex := 71, attributes := #[] }, { accessFlags := 2, nameIndex := 51, descriptorIndex := 16, attributes := #[] }, { accessFlags := 2, nameIndex := 135, descriptorIndex := 71, attributes := #[] }, { accessFlags := 18, nameIndex := 59, descriptorIndex := 60, attributes := #[] }, { accessFlags := 18, nameIndex := 66, descriptorIndex := 67, attributes := #[] }, { accessFlags := 2, nameIndex := 70, descriptorIndex := 71, attributes := #[] }, { accessFlags := 2, nameIndex := 116, descriptorIndex := 117, attributes := #[] }])
  fields := #[{ name := "RESTART_UNIT", type := .int, accessFlags := 26, slot := 0, constantValue := 0 }, { name := "FIRST_REDUCTION", type := .int, accessFlags := 26, slot := 1, constantValue := 0 }, { name := "REDUCTION_GROWTH", type := .int, accessFlags := 26, slot := 2, constantValue := 0 }, { name := "KEPT_LEVELS", type := .int, accessFlags := 26, slot := 3, constantValue := 0 }, { name := "ACTIVITY_DECAY", type := .double, accessFlags := 26, slot := 4, constantValue := 0 }, { name := "ACTIVITY_LIMIT", type := .double, accessFlags := 26, slot := 5, constantValue := 0 }, { name := "m_nVariables", type := .int, accessFlags := 2, slot := 0, constantValue := 0 }, { name := "m_aValue", type := (.array .byte), accessFlags := 2, slot := 1, constantValue := 0 }, { name := "m_aLevel", type := (.array .int), accessFlags := 2, slot := 2, constantValue := 0 }, { name := "m_aReason", type := (.array (.object "com/example/predicant/predicant/propositional/Solver$Clause")), accessFlags := 2, slot := 3, constantValue := 0 }, { name := "m_aPhase", type := (.array .boolean), accessFlags := 2, slot := 4, constantValue := 0 }, { name := "m_aActivity", type := (.array .double), accessFlags := 2, slot := 5, constantValue := 0 }, { name := "m_dIncrement", type := .double, accessFlags := 2, slot := 6, constantValue := 0 }, { name := "m_aSeen", type := (.array .boolean), accessFlags := 2, slot := 7, constantValue := 0 }, { name := "m_aWatchers", type := (.array (.array (.object "com/example/predicant/predicant/propositional/Solver$Clause"))), accessFlags := 2, slot := 8, constantValue := 0 }, { name := "m_aWatcherCounts", type := (.array .int), accessFlags := 2, slot := 9, constantValue := 0 }, { name := "m_aTrail", type := (.array .int), accessFlags := 2, slot := 10, constantValue := 0 }, { name := "m_nTrail", type := .int, accessFlags := 2, slot := 11, constantValue := 0 }, { name := "m_nPropagated", type := .int, accessFlags := 2, slot := 12, constantValue := 0 }, { name := "m_aLevelStarts", type := (.array .int), accessFlags := 2, slot := 13, constantValue := 0 }, { name := "m_nLevels", type := .int, accessFlags := 2, slot := 14, constantValue := 0 }, { name := "m_aOrder", type := (.object "com/example/predicant/predicant/propositional/Solver$Order"), accessFlags := 18, slot := 15, constantValue := 0 }, { name := "m_aLearned", type := (.object "java/util/List"), accessFlags := 18, slot := 16, constantValue := 0 }, { name := "m_nLearnedLimit", type := .int, accessFlags := 2, slot := 17, constantValue := 0 }, { name := "m_bContradicted", type := .boolean, accessFlags := 2, slot := 18, constantValue := 0 }]
  methods := #[k2m0, k2m1]
  instanceTypes := #[.int, (.array .byte), (.array .int), (.array (.object "com/example/predicant/predicant/propositional/Solver$Clause")), (.array .boolean), (.array .double), .double, (.array .boolean), (.array (.array (.object "com/example/predicant/predicant/propositional/Solver$Clause"))), (.array .int), (.array .int), .int, .int, (.array .int), .int, (.object "com/example/predicant/predicant/propositional/Solver$Order"), (.object "java/util/List"), .int, .boolean]
  staticTypes := #[.int, .int, .int, .int, .double, .double]
  resolved := Array.replicate 305 none
  statics := none }

def pool3 : Array CpInfo := pool [(1, u "java/lang/Cloneable"), (0, .class_ 1), (0, u "java/lang/Object"), (0, .class_ 3)] 3

/-- java/lang/Cloneable -/
def k3 : Class := { plain "java/lang/Cloneable" (some 0) with
  accessFlags := 1537
  interfaces := #[]
  cf := some (fileOf pool3 2 #[] #[] 1537 4 #[] #[])
  fields := #[]
  methods := #[]
  instanceTypes := #[]
  staticTypes := #[]
  resolved := Array.replicate 8 none
  statics := none }

def pool4 : Array CpInfo := pool [(1, u "java/io/Serializable"), (0, .class_ 1), (0, u "java/lang/Object"), (0, .class_ 3)] 3

/-- java/io/Serializable -/
def k4 : Class := { plain "java/io/Serializable" (some 0) with
  accessFlags := 1537
  interfaces := #[]
  cf := some (fileOf pool4 2 #[] #[] 1537 4 #[] #[])
  fields := #[]
  methods := #[]
  instanceTypes := #[]
  staticTypes := #[]
  resolved := Array.replicate 8 none
  statics := none }

/-- the primitive byte -/
def k5 : Class := { plain "byte" none with kind := .primitive 'B', accessFlags := 0x411 }
/-- [B -/
def k6 : Class := { plain "[B" (some 0) with kind := .array 5 .byte, interfaces := #[3, 4], accessFlags := 1041 }

/-- the primitive int -/
def k7 : Class := { plain "int" none with kind := .primitive 'I', accessFlags := 0x411 }
/-- [I -/
def k8 : Class := { plain "[I" (some 0) with kind := .array 7 .int, interfaces := #[3, 4], accessFlags := 1041 }

def heap : Heap := #[]
def classes : Array Class := #[k0, k1, k2, k3, k4, k5, k6, k7, k8]
def interned : List (Array UInt16 × Addr) := []
def slotsUsed : Nat := 0
def theMethod : MethodId := ⟨1, 1⟩
def args0 : Array Value := #[.int 5, .int 7]
def aboutOver (below : List Frame) : State where
  vm := { classes := classes, interned := interned.toArray }
  heap := heap
  slotsUsed := slotsUsed
  threads := #[{ frames := .invoking theMethod args0 :: below }]
def below0 : List Frame := [.native { method := ⟨0, 0⟩, args := #[] }]
def about1 : State := aboutOver below0
def p0 : Program := .bare "" "" ""
def e0 : Env := launch0.env 0 0 0
theorem w_frames : about1.frames = Frame.invoking theMethod args0 :: below0 := rfl
set_option maxRecDepth 65536 in
theorem w_args : argsFit about1.vm theMethod args0 = true := by decide +kernel
set_option maxRecDepth 65536 in
theorem w_heap : heapFits about1 = true := by decide +kernel
set_option maxRecDepth 65536 in
theorem w_runnable : about1.curStatus? = some .runnable := by decide +kernel
set_option maxRecDepth 65536 in
theorem w_alone : about1.alone = true := by decide +kernel
set_option maxRecDepth 65536 in
theorem w_named : about1.methodNamed? x = some theMethod := by decide +kernel
set_option maxRecDepth 65536 in
theorem w_hears : about1.hears theMethod below0 = true := by decide +kernel
set_option maxRecDepth 65536 in
theorem w_ripe : about1.ripe theMethod args0 below0 = true := by decide +kernel
theorem w_running : about1.status = .running := rfl
set_option maxRecDepth 65536 in
theorem w_room : about1.hasRoom e0.platform room_1 = true :=
  launch0.hasRoom_least _ room_1 (by decide +kernel) (by decide +kernel) (by decide +kernel) (by decide +kernel) (by decide +kernel) (by decide +kernel)
theorem allAtoms_all (ts : List Jvm.Cond) (a : Array Jvm.Value) (st : Jvm.State) : (allAtoms ts).before a st = ts.all (fun c => c.before a st) := by
  induction ts with
  | nil => rfl
  | cons c t ih =>
    show (Jvm.Cond.and c (allAtoms t)).before a st = _
    rw [Jvm.Cond.before_and, ih, List.all_cons]
def words1 : List Jvm.Cond := Jvm.Cond.code x code maxLocals ret :: tables_1
/-- a 'code' word, met by the world's own term for the bytes: nothing is compared byte by byte -/
theorem code_word {y : MethodName} {bytes : ByteArray} {mx : Nat} {rt : Option FieldType} {a : Array Value} {s : State} {m : MethodId} {meth : Method} {c : Code} (h1 : s.methodNamed? y = some m) (h2 : s.vm.method? m = some meth) (h3 : meth.code = some c) (h4 : c.code = bytes)
    (h5 : (c.maxLocals == mx && c.exceptionTable.isEmpty && decide (c.maxStack ≤ mostOperands) && decide (meth.sig.returnType = rt) && !meth.locks && decide (parseMethodDescriptor y.desc = some meth.sig)) = true) : (Jvm.Cond.code y bytes mx rt).before a s = true := by
  simp only [Bool.and_eq_true, beq_iff_eq, Bool.not_eq_true', decide_eq_true_eq] at h5
  obtain ⟨⟨⟨⟨⟨g1, g2⟩, g3⟩, g4⟩, g5⟩, g6⟩ := h5
  simp [Cond.before, Cond.holds, Cond.value, h1, h2, h3, h4, g1, g2, g3, g4, g5, g6]
def isCode : Jvm.Cond → Bool
  | .code _ _ _ _ => true
  | _ => false
theorem all_split {L : List Jvm.Cond} {P : Jvm.Cond → Bool} (h1 : L.all (fun c => isCode c || P c) = true) (h2 : ∀ c ∈ L.filter isCode, P c = true) : L.all P = true := by
  refine List.all_eq_true.mpr fun c hc => ?_
  have h := List.all_eq_true.mp h1 c hc
  rcases Bool.eq_false_or_eq_true (isCode c) with hi | hi
  · exact h2 c (List.mem_filter.mpr ⟨hc, hi⟩)
  · simpa [hi] using h
set_option maxRecDepth 65536 in
theorem w_c0 : (Jvm.Cond.code x code maxLocals ret).before args0 about1 = true := code_word (m := ⟨1, 1⟩) (meth := k1m1) (c := k1c1) (by decide +kernel) rfl rfl rfl (by decide +kernel)
set_option maxRecDepth 65536 in
theorem w_c1 : (Jvm.Cond.code ({ cls := "com/example/predicant/predicant/propositional/Solver", name := "literal", desc := "(IZ)I" } : Jvm.MethodName) prog_58_method_2_code (2 : Nat) (Option.some Jvm.ClassFile.FieldType.int)).before args0 about1 = true := code_word (m := ⟨2, 1⟩) (meth := k2m1) (c := k2c1) (by decide +kernel) rfl rfl rfl (by decide +kernel)
def codes1 : List Jvm.Cond := [Jvm.Cond.code x code maxLocals ret, Jvm.Cond.code ({ cls := "com/example/predicant/predicant/propositional/Solver", name := "literal", desc := "(IZ)I" } : Jvm.MethodName) prog_58_method_2_code (2 : Nat) (Option.some Jvm.ClassFile.FieldType.int)]
set_option maxRecDepth 65536 in
theorem codes_eq : words1.filter isCode = codes1 := rfl
theorem w_codes : ∀ c ∈ words1.filter isCode, c.before args0 about1 = true := by
  rw [codes_eq]
  intro c hc
  simp only [codes1, List.mem_cons, List.not_mem_nil, or_false] at hc
  rcases hc with rfl | rfl
  · exact w_c0
  · exact w_c1
set_option maxRecDepth 65536 in
theorem w_t1 : words1.all (fun c => isCode c || c.before args0 about1) = true := by decide +kernel
theorem w_tables : (allAtoms (Jvm.Cond.code x code maxLocals ret :: tables_1)).before args0 about1 = true := by
  rw [allAtoms_all]
  show words1.all (fun c => c.before args0 about1) = true
  refine all_split ?_ w_codes
  rw [w_t1]
set_option maxRecDepth 65536 in
theorem w_case : (Jvm.Cond.and given_1 narrow_1).before args0 about1 = true := by decide +kernel
theorem w_applies : (headSpec (Jvm.Cond.code x code maxLocals ret :: tables_1) room_1).applies x e0.platform about1 = true :=
  (Spec.applies_iff w_frames).mpr ⟨w_running, w_runnable, w_alone, w_named, w_hears, w_ripe, w_room, w_tables⟩
theorem atStart : AtStart classFile x code maxLocals ret World_1 tables_1 room_1 Calls_1 rest_1 Pre_1 launch0 p0 e0 about1 theMethod args0 below0 :=
  ⟨lists_1, trivial, launch0.admits_env _ _ _, launch0.least_env, fairChoices_fair.cas, fairChoices_fair.clock, w_frames, w_args, w_heap, w_applies, trivial, trivial, w_case⟩
end start1
theorem witness_1 : WitnessClaimed_1 := ⟨start1.p0, start1.e0, start1.about1, start1.theMethod, start1.args0, start1.below0, start1.atStart⟩
end Jvm.Pilot.@@N@@
